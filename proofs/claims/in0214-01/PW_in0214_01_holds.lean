import PyProof.Rows.All
import Wide.All
import OpenK.AllK
import Wide.FinOn
import Lean
import PySem.Challenge.RW_in0214_01
set_option Elab.async false
section
open PySem PySem.W PyProof.Rows
set_option maxRecDepth 1000000
set_option maxHeartbeats 8000000
namespace Mine
noncomputable def vw : Program := view PySem.Challenge.rw_in0214_01.row.prog [0, 1, 3, 4, 6, 7, 8, 9, 10, 14, 15, 16, 17, 18, 19, 20, 21, 22, 23, 24, 25, 26, 27]
theorem said0 : PySem.Challenge.rw_in0214_01.wellSaid = true := by
  delta OpenLaw.wellSaid
  repeat' with_reducible refine look_both ?_ ?_
  all_goals try (delta OpenRow.wellSaid; repeat' with_reducible refine look_both ?_ ?_)
  all_goals try (delta OpenRow.partSaid; repeat' with_reducible refine look_both ?_ ?_)
  all_goals try (delta looksOpen; repeat' with_reducible refine look_both ?_ ?_)
  all_goals decide +kernel
theorem keep0 {p : Prop} (_ : Hook) (_ : True) (hc : p) : p := hc
example : True := by
  k_with "o_law" => refine holds_law said0 fun said => ?_
  trivial
local macro_rules | `(tactic| o_law) => `(tactic| k_extra "o_law")
section
local macro_rules | `(tactic| o_head $H) => `(tactic| refine Mine.keep0 $H ?hw ?hc)
local macro_rules | `(tactic| w_witness2) => `(tactic| trivial)
open_top hp for PySem.Challenge.rw_in0214_01
end
theorem haddr : ∀ P, ([2, 3, 6, 11, 12, 35, 36, 37, 39, 40, 42, 43, 45, 49, 51, 52, 54, 55, 56, 58, 59, 61, 62, 63, 65, 66, 68, 69, 73,
      74, 78, 79, 83, 84, 85, 87, 88, 90, 91, 92, 94, 95, 97, 98, 99, 101, 102, 104, 105, 106, 109, 110, 111, 113, 114,
      116, 117, 118, 121, 122, 123, 125, 126, 128, 129, 130, 133, 134, 135, 138, 139, 140, 143, 144, 145, 148, 149, 150,
      153, 154] : List Addr) = (hp.heap_1 P).map (·.1) := fun _ => by kernel_rfl
noncomputable abbrev hk : Hook := kmHook hp.heap_1 _ haddr [57]
noncomputable def lo : List Str := [Str.ofString "twin_re_1_fnmatch", Str.ofString "_special_chars_map", Str.ofString "twin_re_1_smtplib", Str.ofString "_twin_re_2", Str.ofString "_twin_re_3"]
noncomputable abbrev xt : Shared → Bool := fun s => xlAt vw [] s && recOk (RowW.records (OpenRow.toRowW PySem.Challenge.rw_in0214_01.row)) s
noncomputable def w2 (a b : Bool) (w : World) : World := (w.withFollow "comprehension-iter-twice" a).withFollow "special-get-raises" b
theorem left_of {p q : Program} {lo : List Str} {Xt : Shared → Bool} {α : Type} {Yf : Shared → α} {Ya : World → α} {N : Nat}
    (h : ∀ (a b : Bool) (w : World), (openEnds treeTable p (w2 a b w) N).map (fun s => (openSeen q lo (importedModules p.main.body) Xt true s, Yf s)) = some (openGood q lo, Ya (w2 a b w))) : LeftO p q lo Xt Yf Ya N :=
  fun w => by
    have e := h (w.params.followText "comprehension-iter-twice") ((w.withFollow "comprehension-iter-twice" (w.params.followText "comprehension-iter-twice")).params.followText "special-get-raises") w
    unfold w2 at e
    rw [World.withFollow_self, World.withFollow_self] at e
    exact e
def Lf (a b : Bool) : Prop := ∀ w : World, (openEnds treeTable PySem.Challenge.rw_in0214_01.row.prog (w2 a b w) 4246).map (fun s => (openSeen vw lo (importedModules PySem.Challenge.rw_in0214_01.row.prog.main.body) xt true s, hk.obs s)) = some (openGood vw lo, hk.val (w2 a b w))
theorem l00 : Lf false false := fun w => by kernel_rfl
theorem l01 : Lf false true := fun w => by kernel_rfl
theorem l10 : Lf true false := fun w => by kernel_rfl
theorem l11 : Lf true true := fun w => by kernel_rfl
theorem hl : LeftO PySem.Challenge.rw_in0214_01.row.prog vw lo xt hk.obs hk.val 4246 := left_of fun a b => match a, b with
  | false, false => l00 | false, true => l01 | true, false => l10 | true, true => l11
section
example : True := by
  k_with "k_head" =>
    refine PySem.W.holds_open (q := vw) (loose := lo) (Xt := xt) (XP := XL vw []) (Yf := hk.obs) (Ya := hk.val) (YP := hk.says) (N := 4246)
      hl hk.of hk.keeps (fun s e => xl_of s (Bool.and_eq_true_iff.mp e).1) XL.keeps (by rfl) (by rfl) (by rfl) (fun s e => recFacts_of (Bool.and_eq_true_iff.mp e).2) (by rfl) (by assumption) (by decide +kernel) ⟨rfl, rfl, rfl, rfl, rfl, by decide +kernel⟩ ?hw ?hc
  trivial
local macro_rules | `(tactic| k_head) => `(tactic| k_extra "k_head")
open_top hd for PySem.Challenge.rw_in0214_01
end
end Mine
end
namespace Mine
example : True := by
  w_top off
  trivial
local macro_rules | `(tactic| walk_at $s:str) => `(tactic| k_extra $s)
local macro_rules | `(tactic| k_updF) => `(tactic| k_extra "k_updF")
local macro_rules | `(tactic| kn_posts) => `(tactic| k_extra "kn_posts")
local macro_rules | `(tactic| k_mem) => `(tactic| k_extra "k_mem")
section
open PySem PySem.W PyProof.Rows
set_option maxRecDepth 100000
set_option maxHeartbeats 8000000
noncomputable abbrev PR : Program := PySem.Challenge.rw_in0214_01.row.prog

noncomputable def Spec (w : World) (f : Addr) (vs : List Value) (Pre : List (Addr × Obj) → Prop) (Out : List (Addr × Obj) → Value → Prop) : Prop :=
  ∀ (dp un : Nat) (gd : Option (List Code)) (cn : Str) (cs : Scope) (a : Addr) (ccd : Value) (cl : List (Str × Addr)) (outer : List Env) (A₀ : Around) (base h₀ : Heap) (L : Addr) (m : Str → Option Value)
    (p : Program) (loose : List Str) (mean : ExcName → Option Value) (mg mb : Str → Option Value) (news : List (Addr × Obj)) (s : Shared) (Q E : Value → Shared → Prop),
    Below A₀ base outer h₀ → Fr h₀ L s.heap m → (hp.heap_1 w.params).In h₀ → News h₀ L s.heap news → Top p loose mean mg mb h₀ → cs.kind = .function →
    Pre news → dp + 3 < recursionLimit → un + 30 < cLine →
    (∀ r tl h' tk', Fr h₀ L h' m → News h₀ L h' (news ++ tl) → (∀ q ∈ news, ∀ p ∈ tl, q.1 < p.1) → Out (news ++ tl) r → Q r { s with heap := h', toks := tk' }) →
    wpAny (model PR w) (ktrTop dp un gd cn cs L a ccd cl outer) (call (.ref f) vs) Q E s

noncomputable def Halt (P : Prop) : Prop := P
theorem halt {P : Prop} (h : Halt P) : P := h
theorem ltg_str {value : PySem.Expr} {x : Str} {t : Tok} {r : Value} : letTemporaryGo value (.str x t) r = pure () := by cases value <;> rfl
theorem sub_name {x : Str} {p : Pos} {o i : Value} : subscripted (.Name x p) false o i = operate [o, i] (getItem o i) := rfl
theorem sub_const {x : Const} {k : Nat} {p : Pos} {o i : Value} : subscripted (.Constant x k p) false o i = operate [o, i] (getItem o i) := rfl
theorem sub_binop {a b : PySem.Expr} {op : Operator} {p : Pos} {o i : Value} : subscripted (.BinOp a op b p) false o i = operate [o, i] (getItem o i) := rfl
theorem sub_unop {a : PySem.Expr} {op : UnaryOp} {p : Pos} {o i : Value} : subscripted (.UnaryOp op a p) false o i = operate [o, i] (getItem o i) := rfl
theorem sub_slice {a b : Option PySem.Expr} {p : Pos} {o i : Value} : subscripted (.Slice a b none p) false o i = operate [i, o] (getItem o i) := rfl
theorem cw_one {M : Model} {A : Around} {E : Value → Shared → Prop} {s : Shared} {env : Env} {pos : Pos} {id : String} {a : Value} {e : PySem.Expr} {rest : List PySem.Expr} {Q : Value → Shared → Prop}
    (h : wpAny M A (spliced (backTo pos (starEach (e :: rest) env))) (fun vs s₁ => wpAny M A (call (.builtin id) (a :: vs)) Q E s₁) E s)
    (he : starEach (e :: rest) env = (false, eval e env) :: starEach rest env)
    (hp : (backTo pos (starEach rest env)).any (·.1) = false) :
    wpAny M A (callWith pos (.builtin id) [a] (backTo pos (starEach (e :: rest) env)) []) Q E s := callWith_method1 h he hp
example : True := by
  k_with "callWith" =>
    ((refine' Mine.cw_one ?_ ?mce90 ?mcp90; (case mce90 => rfl); (case mcp90 => rfl)))
  trivial
example : True := by
  k_with "spliced" =>
    ((first | refine args_cons ?_ | refine args_nil ⟨Fr.keep (by assumption) _ _ (by assumption), ?_⟩ | refine args_nil ?_))
  trivial
end
section
open PySem PySem.W PyProof.Rows PySem.Calls
set_option maxRecDepth 100000
set_option maxHeartbeats 4000000
theorem wpIfT {α : Type} {M : Model} {A : Around} {c : Prop} [Decidable c] {t u : Sem α} {Q : α → Shared → Prop} {E : Value → Shared → Prop} {s : Shared} (hc : c) (h : wpAny M A t Q E s) : wpAny M A (if c then t else u) Q E s := by rw [if_pos hc]; exact h
theorem wpIfF {α : Type} {M : Model} {A : Around} {c : Prop} [Decidable c] {t u : Sem α} {Q : α → Shared → Prop} {E : Value → Shared → Prop} {s : Shared} (hc : ¬ c) (h : wpAny M A u Q E s) : wpAny M A (if c then t else u) Q E s := by rw [if_neg hc]; exact h
theorem letA {α : Type} {M : Model} {A : Around} {t : Sem α} {Q : α → Shared → Prop} {E : Value → Shared → Prop} {s : Shared} (h : let A' := A; wpAny M A' t Q E s) : wpAny M A t Q E s := h
theorem letV {M : Model} {A : Around} {e : Env} {b : List Stmt} {Q : Flow → Shared → Prop} {E : Value → Shared → Prop} {s : Shared} (h : let e' := e; wpAny M A (execs b e') Q E s) : wpAny M A (execs b e) Q E s := h
theorem letW {M : Model} {A : Around} {tree : Sem Bool} {b : List Stmt} {e : Env} {W Q' : Flow → Shared → Prop} {E : Value → Shared → Prop} {s : Shared} (h : let R := W; wpAny M A tree (fun b' s₂ => if b' then wpAny M A (execs b e) R E s₂ else Q' .next s₂) E s) : wpAny M A tree (fun b' s₂ => if b' then wpAny M A (execs b e) W E s₂ else Q' .next s₂) E s := h
theorem letT {M : Model} {A : Around} {tree : Sem Unit} {b : List Stmt} {e : Env} {W : Flow → Shared → Prop} {E : Value → Shared → Prop} {s : Shared} (h : let R := W; wpAny M A tree (fun _ s₂ => wpAny M A (execs b e) R E s₂) E s) : wpAny M A tree (fun _ s₂ => wpAny M A (execs b e) W E s₂) E s := h

noncomputable def kB (m : Str → Option Value) : List (Str × Value) → Str → Option Value
  | [] => m
  | p :: r => fun y => if y = p.1 then some p.2 else kB m r y
theorem kB_e1 {m : Str → Option Value} : kB m [] = m := rfl
theorem kB_e2 {m : Str → Option Value} {p : Str × Value} {r : List (Str × Value)} : kB m (p :: r) = fun y => if y = p.1 then some p.2 else kB m r y := rfl
theorem kB_eq {m : Str → Option Value} : ∀ {ps : List (Str × Value)}, (∀ p ∈ ps, m p.1 = some p.2) → kB m ps = m
  | [], _ => rfl
  | p :: r, h => by
    funext y
    have ih := kB_eq (m := m) (ps := r) fun q hq => h q (.tail _ hq)
    show (if y = p.1 then some p.2 else kB m r y) = m y
    by_cases e : y = p.1
    · rw [if_pos e, e]; exact (h p (.head _)).symm
    · rw [if_neg e, ih]
noncomputable def Has (m : Str → Option Value) (ps : List (Str × Value)) : Prop := ∀ p ∈ ps, m p.1 = some p.2
theorem Has.nil {m : Str → Option Value} : Has m [] := fun _ h => nomatch h
theorem Has.co {m : Str → Option Value} {x : Str} {v : Value} {ps : List (Str × Value)} (h : m x = some v) (r : Has m ps) : Has m ((x, v) :: ps) := List.forall_mem_cons.mpr ⟨h, r⟩
theorem Has.cons {m : Str → Option Value} {x : Str} {v : Value} {ps : List (Str × Value)} (h : some v = m x) (r : Has m ps) : Has m ((x, v) :: ps) := List.forall_mem_cons.mpr ⟨h.symm, r⟩
theorem fr_at {h₀ h : Heap} {L : Addr} {m : Str → Option Value} {ps : List (Str × Value)} (F : Fr h₀ L h m) (H : Has m ps) : Fr h₀ L h (kB m ps) := by rw [kB_eq H]; exact F
theorem fr_gen {h₀ h : Heap} {L : Addr} {m : Str → Option Value} (ps : List (Str × Value)) (F : Fr h₀ L h m) (H : Has m ps) : ∃ m', Fr h₀ L h (kB m' ps) := ⟨m, fr_at F H⟩
theorem news_sub {h₀ h : Heap} {L : Addr} {news news' : List (Addr × Obj)} (N : News h₀ L h news') (hs : ∀ p ∈ news, p ∈ news') : News h₀ L h news := fun p hp => N p (hs p hp)

section
variable {prog : Program} {w : World} {A : Around} {E : Value → Shared → Prop} {s : Shared} {env : Env} {h₀ : Heap} {Q : Flow → Shared → Prop}

theorem letOwned_list {target : PySem.Expr} {it l : Addr} {i : Nat} {v : Value} {Q : Unit → Shared → Prop} (hit : s.heap.IsListIter it l i) (h : Q () s) : wpAny (model prog w) A (letOwnedTupleGo target (.ref it) v) Q E s := by
  obtain ⟨o, ho, hc, hd⟩ := hit
  unfold letOwnedTupleGo
  cases target
  all_goals first
    | exact wpAny_pure h
    | skip
  all_goals
    cases v with
    | ref a =>
      refine wpAny_bind (wpAny_load ho ?_)
      simp only [hc, hd]
      rw [if_neg (by
        rw [Bool.and_eq_true]
        rintro ⟨h1, -⟩
        revert h1
        decide +kernel)]
      exact wpAny_pure h
    | _ => exact wpAny_pure h

inductive TurnNx (h₀ : Heap) (L : Addr) (s : Shared) (J : (Str → Option Value) → List (Addr × Obj) → Prop) (own : List (Addr × Obj)) (s₃ : Shared) : Prop
  | mk (h' tk' m' led' : _) (h1 : s₃ = { s with heap := h', toks := tk' }) (h2 : Fr h₀ L h' m') (h3 : News h₀ L h' (own ++ led')) (h4 : (∀ q ∈ own, ∀ p ∈ led', p.1 ≠ q.1)) (h5 : J m' led') : TurnNx h₀ L s J own s₃
inductive ForI (h₀ : Heap) (L : Addr) (s : Shared) (I l : Addr) (len : Nat) (J : Nat → (Str → Option Value) → List (Addr × Obj) → Prop) (n : Nat) (s' : Shared) : Prop
  | mk (i h' tk' m' led' : _) (h1 : n = len + 1 - i) (h2 : i ≤ len) (h3 : s' = { s with heap := h', toks := tk' }) (h4 : h'.IsListIter I l i) (h5 : Fr h₀ L h' m') (h6 : News h₀ L h' led') (h7 : ∀ p ∈ led', p.1 ≠ I) (h8 : J i m' led') : ForI h₀ L s I l len J n s'
noncomputable def TurnEnd (h₀ : Heap) (L : Addr) (s : Shared) (Q : Flow → Shared → Prop) (J : (Str → Option Value) → List (Addr × Obj) → Prop) (own : List (Addr × Obj)) (f : Flow) (s₃ : Shared) : Prop :=
  match f with
  | .ret v => Q (.ret v) s₃
  | .brk => Q .next s₃
  | _ => TurnNx h₀ L s J own s₃

inductive Ready (h₀ : Heap) (L : Addr) (s : Shared) (x : Value) (J : (Str → Option Value) → List (Addr × Obj) → Prop) (v : Value) (s₁ : Shared) : Prop
  | mk (h1 : v = x) (h tk m led : _) (h2 : s₁ = { s with heap := h, toks := tk }) (h3 : Fr h₀ L h m) (h4 : News h₀ L h led) (h5 : J m led) : Ready h₀ L s x J v s₁

theorem for_list {target iter : PySem.Expr} {body : List Stmt} {pos : Pos} {l : Addr} {vs : List Value} {nn : Nat} (hh : A.handled = none)
    (J : Nat → (Str → Option Value) → List (Addr × Obj) → Prop) (hJl : ∀ i m led, J i m led → (l, listOf vs.toArray nn) ∈ led)
    (hs : ∀ x, foldedSetIterable iter env x = pure x)
    (ev : wpAny (model prog w) A (eval iter env) (Ready h₀ env.locals s (.ref l) (J 0)) E s)
    (turn : ∀ E' i v m led h tk I o, vs[i]? = some v → J i m led → Fr h₀ env.locals h m → News h₀ env.locals h ((I, o) :: led) → (∀ p ∈ led, p.1 ≠ I) →
      wpAny (model prog w) A (assign target env v) (fun _ s₂ => wpAny (model prog w) A (execs body env) (TurnEnd h₀ env.locals s Q (J (i + 1)) [(I, o)]) E' s₂) E' { s with heap := h, toks := tk })
    (done : ∀ m led h tk, J vs.length m led → Fr h₀ env.locals h m → News h₀ env.locals h led → Q .next { s with heap := h, toks := tk }) :
    wpAny (model prog w) A (exec (.For target iter body [] pos) env) Q E s := by
  refine wpAny_For (wpAny_mono ev (fun v s₁ h₁ => ?_) fun _ _ e => e) hs
  obtain ⟨rfl, h, tk, m, led, rfl, F, N, hJ⟩ := h₁
  have hls : h.IsList l vs.toArray := ⟨_, (N _ (hJl _ _ _ hJ)).1, rfl, nn, rfl⟩
  refine wpAny_pyIter_list hls ?_
  have hnew : h₀.get? h.objs.size = none := by
    cases q : h₀.get? h.objs.size with
    | none => rfl
    | some o' => exact absurd (Heap.lt_size (F.keep _ _ q)) (Nat.lt_irrefl _)
  have hIL : h.objs.size ≠ env.locals := Nat.ne_of_gt F.ns.lt
  generalize hI : h.objs.size = I at *
  refine codeAny_forLoop_any (fun n s' => ForI h₀ env.locals s I l vs.length J n s')
    ?_ (vs.length + 1) ⟨0, h.push _, tk, m, led, rfl, Nat.zero_le _, rfl, ⟨_, by rw [← hI]; exact Heap.get?_push_size _ rfl, rfl, rfl⟩, F.push _, fun p hp => ⟨Heap.get?_push_of_some _ (N p hp).1, (N p hp).2⟩, fun p hp e => ?_, hJ⟩
  · rintro n s' ⟨i, h', tk', m', led', rfl, hi, rfl, hit, F', N', hne, hJ'⟩
    have hl' : h'.IsList l vs.toArray := ⟨_, (N' _ (hJl _ _ _ hJ')).1, rfl, nn, rfl⟩
    cases hv : vs[i]? with
    | none =>
      have hlen : i = vs.length := Nat.le_antisymm hi (by simpa using hv)
      refine wpAny_pyNext_list_end hh hit hl' (by simpa using hv) fun h₂ hk => wpAny_execs_nil ?_
      have key : ∀ b, b ≠ I → ∀ o, h'.get? b = some o → h₂.get? b = some o := fun b hb o e => hk b o hb e
      obtain ⟨oL, es, ep, hL, r⟩ := F'.ns
      subst hlen
      exact done m' led' h₂ tk' hJ' ⟨⟨oL, es, ep, key _ (Ne.symm hIL) _ hL, r⟩, fun b o e => key b (fun q => by rw [q, hnew] at e; cases e) o (F'.keep b o e), F'.above⟩
        fun p hp => ⟨key _ (hne p hp) _ (N' p hp).1, (N' p hp).2⟩
    | some v =>
      have hlt : i < vs.length := (List.getElem?_eq_some_iff.mp hv).1
      refine wpAny_pyNext_list_item hit hl' (by simpa using hv) fun h₂ hit₂ hsb => ?_
      refine letOwned_list hit₂ ?_
      have key : ∀ b, b ≠ I → h₂.get? b = h'.get? b := fun b hb => hsb.2 b hb
      obtain ⟨oI, hoI, hcI, hdI⟩ := id hit₂
      have F₂ : Fr h₀ env.locals h₂ m' := by
        obtain ⟨oL, es, ep, hL, r⟩ := F'.ns
        exact ⟨⟨oL, es, ep, (key _ (Ne.symm hIL)).trans hL, r⟩, fun b o e => (key b (fun q => by rw [q, hnew] at e; cases e)).trans (F'.keep b o e), F'.above⟩
      have N₂ : News h₀ env.locals h₂ ((I, oI) :: led') := by
        intro p hp
        rcases List.mem_cons.mp hp with rfl | hp
        · exact ⟨hoI, hIL, hnew⟩
        · exact ⟨(key _ (hne p hp)).trans (N' p hp).1, (N' p hp).2⟩
      refine wpAny_mono (turn (notedBy (model prog w) A env fun e s' => _) i v m' led' h₂ tk' I oI hv hJ' F₂ N₂ hne) (fun _ s₂ h₂ => wpAny_mono h₂ (fun f s₃ h₃ => ?_) fun _ _ e => e) fun _ _ e => e
      have fin : TurnNx h₀ env.locals s (J (i + 1)) [(I, oI)] s₃ →
          ∃ m, m < vs.length + 1 - i ∧ ForI h₀ env.locals s I l vs.length J m s₃ := by
        rintro ⟨h₄, tk₄, m₄, led₄, rfl, F₄, N₄, ne₄, J₄⟩
        exact ⟨vs.length + 1 - (i + 1), by omega, i + 1, h₄, tk₄, m₄, led₄, rfl, hlt, rfl, ⟨oI, (N₄ (I, oI) (.head _)).1, hcI, hdI⟩, F₄, fun p hp => N₄ p (.tail _ hp), fun p hp => ne₄ _ (.head _) p hp, J₄⟩
      cases f with
      | ret v => exact h₃
      | brk => exact h₃
      | next => exact fin h₃
      | cont => exact fin h₃
  · have := Heap.lt_size (N p hp).1
    rw [e, hI] at this
    exact Nat.lt_irrefl _ this
end
end
section
open PySem PySem.W PyProof.Rows PySem.Calls
set_option maxRecDepth 100000
set_option maxHeartbeats 4000000
section
variable {prog : Program} {w : World} {A : Around} {E : Value → Shared → Prop} {s : Shared} {env : Env} {h₀ : Heap} {m : Str → Option Value} {led : List (Addr × Obj)}

theorem asg_name {x : Str} {pos : Pos} {v : Value} {Q : Unit → Shared → Prop} (F : Fr h₀ env.locals s.heap m) (N : News h₀ env.locals s.heap led)
    (h : ∀ h', Fr h₀ env.locals h' (fun y => if y = x then some v else m y) → News h₀ env.locals h' led → Q () { s with heap := h', toks := s.toks + 1 })
    (hl : env.kindOf x = some .local) (hp : (env.scope.kind == .class || (env.scope.kind == .module && env.locals != env.globals)) = false) :
    wpAny (model prog w) A (assign (.Name x pos) env v) Q E s :=
  wpAny_assign_Name (wpAny_storeName_local hl F.ns (fun h' hn hs => h h' (F.set hn hs) (N.set hs)) hp)

noncomputable abbrev tupOf (vs : List Value) (n : Nat) : Obj := { cls := .type "tuple", data := .seq vs.toArray n }

theorem fr_ext {h h' : Heap} {L : Addr} (F : Fr h₀ L h m) (k : Heap.ExtBut h.objs.size h h') : Fr h₀ L h' m := by
  obtain ⟨oL, es, ep, hL, r⟩ := F.ns
  exact ⟨⟨oL, es, ep, k _ _ (Nat.ne_of_lt (Heap.lt_size hL)) hL, r⟩, fun b o e => k b o (Nat.ne_of_lt (Heap.lt_size (F.keep b o e))) (F.keep b o e), F.above⟩
theorem news_ext {h h' : Heap} {L : Addr} (N : News h₀ L h led) (k : Heap.ExtBut h.objs.size h h') : News h₀ L h' led :=
  fun p hp => ⟨k _ _ (Nat.ne_of_lt (Heap.lt_size (N p hp).1)) (N p hp).1, (N p hp).2⟩

theorem asg_tup {elts : List PySem.Expr} {k : Nat} {pos : Pos} {t : Addr} {vs : List Value} {n : Nat} {Q : Unit → Shared → Prop} (hh : A.handled = none) (F : Fr h₀ env.locals s.heap m) (N : News h₀ env.locals s.heap led) (ht : (t, tupOf vs n) ∈ led)
    (hn : (assignEach elts env).length = vs.length) (hstar : (assignEach elts env).findIdx? (·.1) = none)
    (h : ∀ h', Fr h₀ env.locals h' m → News h₀ env.locals h' led → wpAny (model prog w) A (assignInOrder ((assignEach elts env).map (·.2)) vs) Q E { s with heap := h' }) :
    wpAny (model prog w) A (assign (.Tuple elts k pos) env (.ref t)) Q E s :=
  wpAny_assign_Tuple hh ⟨_, (N _ ht).1, rfl, n, rfl⟩ (by simpa using hn) hstar fun h' k => by
    have := h h' (fr_ext F k) (news_ext N k)
    simpa using this

theorem asg2 {a b : Str} {pa pb pos : Pos} {k : Nat} {t : Addr} {u v : Value} {n : Nat} {Q : Unit → Shared → Prop} (hh : A.handled = none) (F : Fr h₀ env.locals s.heap m) (N : News h₀ env.locals s.heap led) (ht : (t, tupOf [u, v] n) ∈ led)
    (h : ∀ h' tk, Fr h₀ env.locals h' (fun y => if y = b then some v else if y = a then some u else m y) → News h₀ env.locals h' led → Q () { s with heap := h', toks := tk })
    (ha : env.kindOf a = some .local) (hb : env.kindOf b = some .local) (hp : (env.scope.kind == .class || (env.scope.kind == .module && env.locals != env.globals)) = false) :
    wpAny (model prog w) A (assign (.Tuple [.Name a pa, .Name b pb] k pos) env (.ref t)) Q E s := by
  refine asg_tup hh F N ht rfl rfl fun h₁ F₁ N₁ => ?_
  refine wpAny_assignInOrder_more (asg_name F₁ N₁ (fun h₂ F₂ N₂ => ?_) ha hp)
  refine wpAny_assignInOrder_more (asg_name F₂ N₂ (fun h₃ F₃ N₃ => ?_) hb hp)
  exact wpAny_assignInOrder_none (h h₃ _ F₃ N₃)
end

/-- The items of the law. -/
inductive It where
  | star | qm
  | lit (c : Nat)
  | br (neg : Bool) (ms : List (List Nat))

noncomputable def S (t : List Nat) : Str := ⟨t.toArray⟩
noncomputable def mems (ms : List (List Nat)) : Dat := .list (ms.map fun t => .str (S t))
noncomputable def brKind : Bool → Int
  | true => 6
  | false => 5
theorem brKind_e1 : brKind true = 6 := rfl
theorem brKind_e2 : brKind false = 5 := rfl
noncomputable def It.dat : It → Dat
  | .star => .tuple [.int 0, .list []]
  | .qm => .tuple [.int 1, .list []]
  | .lit c => .tuple [.int 4, .list [.str (S [c])]]
  | .br neg ms => .tuple [.int (brKind neg), mems ms]
theorem dat_e1 : It.dat .star = .tuple [.int 0, .list []] := rfl
theorem dat_e2 : It.dat .qm = .tuple [.int 1, .list []] := rfl
theorem dat_e3 {c : Nat} : It.dat (.lit c) = .tuple [.int 4, .list [.str (S [c])]] := rfl
theorem dat_e4 {neg : Bool} {ms : List (List Nat)} : It.dat (.br neg ms) = .tuple [.int (brKind neg), mems ms] := rfl
noncomputable def itemsDat (its : List It) : Dat := .list (its.map It.dat)
end
section
open PySem PySem.W PyProof.Rows PySem.Calls
set_option maxRecDepth 100000
set_option maxHeartbeats 4000000
theorem S_of (s : String) : Str.ofString s = S (s.toList.map Char.toNat) := Str.ofString_eq_toList s
theorem S_app (a b : List Nat) : S a ++ S b = S (a ++ b) := by
  show Str.append _ _ = _
  unfold Str.append S
  rw [← List.append_toArray]
theorem S_len (a : List Nat) : (S a).length = a.length := by simp [S, Str.length]
theorem S_inj {a b : List Nat} (h : S a = S b) : a = b := by
  have := congrArg Str.cps h
  simpa [S] using this
theorem str_S (x : Str) : x = S x.cps.toList := by cases x; rfl
theorem dat_len {news : List (Addr × Obj)} {vs : List Value} {ds : List Dat} (h : DatAll news vs ds) {i : Nat} {v : Value} (hv : vs[i]? = some v) : ∃ hi : i < ds.length, DatIn news v ds[i] := by
  have hi : i < ds.length := by rw [← h.length]; exact (List.getElem?_eq_some_iff.mp hv).1
  obtain ⟨v', hv', hD⟩ := h.get hi
  rw [hv] at hv'
  cases hv'
  exact ⟨hi, hD⟩
theorem c0 : PySem.Str.ofString "cpy313.fnmatch" = S [99, 112, 121, 51, 49, 51, 46, 102, 110, 109, 97, 116, 99, 104] := by decide +kernel
theorem c1 : PySem.Str.ofString "re" = S [114, 101] := by decide +kernel
theorem c2 : PySem.Str.ofString "cpy313.smtplib" = S [99, 112, 121, 51, 49, 51, 46, 115, 109, 116, 112, 108, 105, 98] := by decide +kernel
theorem c3 : PySem.Str.ofString "\r\n" = S [13, 10] := by decide +kernel
theorem c4 : PySem.Str.ofString "law_in0214_01" = S [108, 97, 119, 95, 105, 110, 48, 50, 49, 52, 95, 48, 49] := by decide +kernel
theorem c5 : PySem.Str.ofString "([&~|])" = S [40, 91, 38, 126, 124, 93, 41] := by decide +kernel
theorem c6 : PySem.Str.ofString "(?m)^\\." = S [40, 63, 109, 41, 94, 92, 46] := by decide +kernel
theorem c7 : PySem.Str.ofString "(?:\\r\\n|\\n|\\r(?!\\n))" = S [40, 63, 58, 92, 114, 92, 110, 124, 92, 110, 124, 92, 114, 40, 63, 33, 92, 110, 41, 41] := by decide +kernel
theorem c8 : PySem.Str.ofString "" = S [] := by decide +kernel
theorem c9 : PySem.Str.ofString "." = S [46] := by decide +kernel
theorem c10 : PySem.Str.ofString "\\" = S [92] := by decide +kernel
theorem c11 : PySem.Str.ofString "(?s:" = S [40, 63, 115, 58] := by decide +kernel
theorem c12 : PySem.Str.ofString ")\\Z" = S [41, 92, 90] := by decide +kernel
theorem c13 : PySem.Str.ofString ".." = S [46, 46] := by decide +kernel
theorem c14 : PySem.Str.ofString "b-a" = S [98, 45, 97] := by decide +kernel
theorem c15 : PySem.Str.ofString "\n" = S [10] := by decide +kernel
theorem c16 : PySem.Str.ofString "a" = S [97] := by decide +kernel
theorem c17 : PySem.Str.ofString ".-/" = S [46, 45, 47] := by decide +kernel
theorem c18 : PySem.Str.ofString "\r" = S [13] := by decide +kernel
theorem c19 : PySem.Str.ofString "\t-\n" = S [9, 45, 10] := by decide +kernel
theorem c20 : PySem.Str.ofString "\n-." = S [10, 45, 46] := by decide +kernel
theorem c21 : PySem.Str.ofString "\r-." = S [13, 45, 46] := by decide +kernel
theorem c22 : PySem.Str.ofString "]" = S [93] := by decide +kernel
theorem c23 : PySem.Str.ofString "\x00" = S [0] := by decide +kernel
theorem c24 : PySem.Str.ofString "latin1" = S [108, 97, 116, 105, 110, 49] := by decide +kernel
theorem c25 : PySem.Str.ofString "*" = S [42] := by decide +kernel
theorem c26 : PySem.Str.ofString "(?!)" = S [40, 63, 33, 41] := by decide +kernel
theorem c27 : PySem.Str.ofString "?" = S [63] := by decide +kernel
theorem c28 : PySem.Str.ofString ".*" = S [46, 42] := by decide +kernel
theorem c29 : PySem.Str.ofString "[^" = S [91, 94] := by decide +kernel
theorem c30 : PySem.Str.ofString "[" = S [91] := by decide +kernel
theorem c31 : PySem.Str.ofString "(?>.*?" = S [40, 63, 62, 46, 42, 63] := by decide +kernel
theorem c32 : PySem.Str.ofString ")" = S [41] := by decide +kernel
theorem c33 : PySem.Str.ofString "()[]{}?*+-|^$\\.&~# \t\n\r\x0b\x0c" = S [40, 41, 91, 93, 123, 125, 63, 42, 43, 45, 124, 94, 36, 92, 46, 38, 126, 35, 32, 9, 10, 13, 11, 12] := by decide +kernel
theorem c34 : PySem.Str.ofString "\\\n" = S [92, 10] := by decide +kernel
theorem c35 : PySem.Str.ofString "\\\r" = S [92, 13] := by decide +kernel
theorem c36 : PySem.Str.ofString "!" = S [33] := by decide +kernel
theorem c37 : PySem.Str.ofString "\\[" = S [92, 91] := by decide +kernel
theorem c38 : PySem.Str.ofString "-" = S [45] := by decide +kernel
theorem c39 : PySem.Str.ofString "\\\\" = S [92, 92] := by decide +kernel
theorem c40 : PySem.Str.ofString "[!" = S [91, 33] := by decide +kernel
theorem c41 : PySem.Str.ofString "x" = S [120] := by decide +kernel
theorem c42 : PySem.Str.ofString ".a-]!^&~|\\# \t\u0085\u00e9" = S [46, 97, 45, 93, 33, 94, 38, 126, 124, 92, 35, 32, 9, 133, 233] := by decide +kernel
theorem c43 : PySem.Str.ofString "\\-" = S [92, 45] := by decide +kernel
theorem c44 : PySem.Str.ofString "^" = S [94] := by decide +kernel

section
variable {prog : Program} {w : World} {M : Model} {A : Around} {E : Value → Shared → Prop} {s : Shared} {a b : List Nat} {t u : Tok} {Q : Value → Shared → Prop} {env : Env}
theorem const_S {x : Str} {k : Nat} {pos : Pos} (e : x = S a) (h : Q (.str (S a) s.toks) { s with toks := s.toks + 1 }) : wpAny M A (eval (.Constant (.str x) k pos) env) Q E s := by subst e; exact Calls.Constant_str h
theorem iadd_S (hsz : a.length + b.length ≤ 16777216) (h : ∀ t' k, Q (.str (S (a ++ b)) t') { s with toks := k }) : wpAny (model prog w) A (inplaceOp .Add (.str (S a) t) (.str (S b) u)) Q E s :=
  SB.iadd (fun t' k => by rw [S_app]; exact h t' k) (by rw [S_len, S_len, sizeLine_eq]; exact hsz)
theorem add_S (hsz : a.length + b.length ≤ 16777216) (h : ∀ t' k, Q (.str (S (a ++ b)) t') { s with toks := k }) : wpAny (model prog w) A (binaryOp .Add (.str (S a) t) (.str (S b) u)) Q E s :=
  SB.add (fun t' k => by rw [S_app]; exact h t' k) (by rw [S_len, S_len, sizeLine_eq]; exact hsz)
end
example : True := by
  k_with "eval Constant str" =>
    ((refine' Mine.const_S ?mqe92 ?_; (case mqe92 => first | exact Mine.c0 | exact Mine.c1 | exact Mine.c2 | exact Mine.c3 | exact Mine.c4 | exact Mine.c5 | exact Mine.c6 | exact Mine.c7 | exact Mine.c8 | exact Mine.c9 | exact Mine.c10 | exact Mine.c11 | exact Mine.c12 | exact Mine.c13 | exact Mine.c14 | exact Mine.c15 | exact Mine.c16 | exact Mine.c17 | exact Mine.c18 | exact Mine.c19 | exact Mine.c20 | exact Mine.c21 | exact Mine.c22 | exact Mine.c23 | exact Mine.c24 | exact Mine.c25 | exact Mine.c26 | exact Mine.c27 | exact Mine.c28 | exact Mine.c29 | exact Mine.c30 | exact Mine.c31 | exact Mine.c32 | exact Mine.c33 | exact Mine.c34 | exact Mine.c35 | exact Mine.c36 | exact Mine.c37 | exact Mine.c38 | exact Mine.c39 | exact Mine.c40 | exact Mine.c41 | exact Mine.c42 | exact Mine.c43 | exact Mine.c44)))
  trivial
example : True := by
  k_with "inplaceOp Add str str" =>
    ((refine' Mine.iadd_S ?mqhsz93 ?_; (case mqhsz93 => first | (with_reducible assumption) | (try simp only [List.length_append, List.length_cons, List.length_nil]; omega)); intro _ _))
  trivial
example : True := by
  k_with "binaryOp Add str str" =>
    ((refine' Mine.add_S ?mqhsz94 ?_; (case mqhsz94 => first | (with_reducible assumption) | (try simp only [List.length_append, List.length_cons, List.length_nil]; omega)); intro _ _))
  trivial
end
section
open PySem PySem.W PyProof.Rows PySem.Calls PySem.Builtin PySem.Builtin.Str
set_option maxRecDepth 100000
set_option maxHeartbeats 4000000
/-- texts joined -/
noncomputable def joinT (sep : List Nat) : List (List Nat) → List Nat
  | [] => []
  | [x] => x
  | x :: y :: r => x ++ sep ++ joinT sep (y :: r)
theorem joinT_e1 {sep : List Nat} : joinT sep [] = [] := rfl
theorem joinT_e2 {sep x : List Nat} : joinT sep [x] = x := rfl
theorem joinT_e3 {sep x y : List Nat} {r : List (List Nat)} : joinT sep (x :: y :: r) = x ++ sep ++ joinT sep (y :: r) := rfl
theorem joinT_S (sep : List Nat) : ∀ ts : List (List Nat), PySem.Str.join (S sep) (ts.map S) = S (joinT sep ts)
  | [] => rfl
  | [x] => rfl
  | x :: y :: r => by
    have ih := joinT_S sep (y :: r)
    show S x ++ S sep ++ PySem.Str.join (S sep) ((y :: r).map S) = _
    rw [ih, S_app, S_app]
    rfl
theorem joinT_nil : ∀ ts : List (List Nat), joinT [] ts = ts.flatten
  | [] => rfl
  | [x] => by simp [joinT_e1, joinT_e2, joinT_e3]
  | x :: y :: r => by
    have ih := joinT_nil (y :: r)
    show x ++ [] ++ joinT [] (y :: r) = _
    rw [ih]; simp
theorem strsAre_dat {news : List (Addr × Obj)} : ∀ {ts : List (List Nat)} {vs : List Value}, DatAll news vs (ts.map fun t => .str (S t)) → StrsAre vs (ts.map S)
  | [], _, h => by cases h; exact .nil
  | t :: ts, _, h => by
    cases h with
    | cons h1 h2 =>
    cases h1
    exact .cons _ _ (strsAre_dat h2)
theorem sum_S (ts : List (List Nat)) : ((ts.map S).map (·.length)).sum = ts.flatten.length := by
  induction ts with
  | nil => rfl
  | cons t ts ih => simp only [List.map_cons, List.sum_cons, ih, S_len, List.flatten_cons, List.length_append]
section
variable {prog : Program} {w : World} {M : Model} {A : Around} {E : Value → Shared → Prop} {s : Shared} {a b : List Nat} {t u : Tok} {Q : Value → Shared → Prop} {env : Env} {h₀ : Heap} {L : Addr} {led : List (Addr × Obj)}
theorem join_S {l : Addr} {vs : List Value} {n : Nat} {news : List (Addr × Obj)} {ts : List (List Nat)} (N : News h₀ L s.heap led) (hl : (l, listOf vs.toArray n) ∈ led) (hd : DatAll news vs (ts.map fun t => .str (S t)))
    (hsz : ts.flatten.length + ts.length * a.length ≤ 16777216) (h : ∀ t' k, Q (.str (S (joinT a ts)) t') { s with toks := k }) :
    wpAny (model prog w) A (call (.builtin "str.join") [.str (S a) t, .ref l]) Q E s :=
  join_list (ys := ts.map S) ⟨_, (N _ hl).1, rfl, n, rfl⟩ (strsAre_dat hd) (by rw [sum_S, List.length_map, S_len]; exact hsz) fun t' k => by
    rw [eq_of_beq (join_plain_closes (S a) (ts.map S)), joinT_S]
    exact h t' k
theorem join0_S {l : Addr} {vs : List Value} {n : Nat} {news : List (Addr × Obj)} {ts : List (List Nat)} (N : News h₀ L s.heap led) (hl : (l, listOf vs.toArray n) ∈ led) (hd : DatAll news vs (ts.map fun t => .str (S t)))
    (hsz : ts.flatten.length ≤ 16777216) (h : ∀ t' k, Q (.str (S ts.flatten) t') { s with toks := k }) :
    wpAny (model prog w) A (call (.builtin "str.join") [.str (S []) t, .ref l]) Q E s :=
  join_S N hl hd (by simpa using hsz) (by rw [joinT_nil]; exact h)
theorem item_led {value slice : PySem.Expr} {l : Addr} {vs : List Value} {n : Nat} {k : Int} {v : Value} (N : News h₀ L s.heap led) (hl : (l, listOf vs.toArray n) ∈ led) (h0 : 0 ≤ k) (hhi : k < 2 ^ 63) (hx : vs[k.toNat]? = some v) (h : Q v s)
    (hs : subscripted slice false (.ref l) (.int k u) = operate [.ref l, .int k u] (getItem (.ref l) (.int k u))) :
    wpAny (model prog w) A (subscriptTail value slice (.ref l) (.int k u)) Q E s :=
  tail_any (s := s) (Heap.IsList.typeIs ⟨_, (N _ hl).1, rfl, n, rfl⟩) slot_list_getitem.lookup (wpAny_getItem_list ⟨_, (N _ hl).1, rfl, n, rfl⟩ h0 hhi (by simpa using hx) h) hs
end
example : True := by
  k_with "subscriptTail" =>
    (((with_reducible show wpAny _ _ (subscriptTail _ _ (Value.ref _) (Value.int _ _)) _ _ _); refine' Mine.item_led ?mq1N95 ?mq1l95 ?mq1a95 ?mq1b95 ?mq1c95 ?_ ?mq1d95; (case mq1N95 => k_asm); (case mq1l95 => first | assumption | exact List.Mem.tail _ (by assumption) | k_mem); (case mq1a95 => decide); (case mq1b95 => decide); (case mq1c95 => rfl); (case mq1d95 => first | with_reducible exact Mine.sub_name | with_reducible exact Mine.sub_const | with_reducible exact Mine.sub_binop | with_reducible exact Mine.sub_unop | with_reducible exact Mine.sub_slice | with_unfolding_all rfl)))
  trivial
example : True := by
  k_with "call builtin:str.join" =>
    (((with_reducible show wpAny _ _ (call (Value.builtin _) [Value.str _ _, Value.ref _]) _ _ _); (first | refine' Mine.join0_S ?mjN96 ?mjl96 ?mjd96 ?mjs96 ?_ | refine' Mine.join_S ?mjN96 ?mjl96 ?mjd96 ?mjs96 ?_); (case mjN96 => k_asm); (case mjl96 => first | assumption | exact List.Mem.tail _ (by assumption) | k_mem); (case mjd96 => assumption); (case mjs96 => ((try simp only [List.length_append, List.length_cons, List.length_nil, Nat.mul_zero]); omega)); intro _ _))
  trivial
end
section
open PySem PySem.Sre
set_option maxRecDepth 100000
set_option maxHeartbeats 1000000
theorem el2 {A B G : Prop} (h : A ∧ B) (k : A → B → G) : G := k h.1 h.2
theorem el3 {A B C G : Prop} (h : A ∧ B ∧ C) (k : A → B → C → G) : G := k h.1 h.2.1 h.2.2
theorem nomem {α : Type} {P : α → Prop} : ∀ f ∈ ([] : List α), P f := List.forall_mem_nil P

/-- the machine comes, in at most k steps, to m' -/
noncomputable def Comes (k : Nat) (m m' : M) : Prop := ∃ j, j ≤ k ∧ M.runFor j m = m'
theorem step_out {m : M} (h : m.outcome.isSome = true) : m.step = m := by
  unfold M.step
  rw [if_pos h]
theorem runFor_out {m : M} (h : m.outcome.isSome = true) : ∀ n, M.runFor n m = m
  | 0 => rfl
  | n + 1 => by show (if m.outcome.isSome then m else M.runFor n m.step) = m; rw [if_pos h]
theorem runFor_succ {m : M} (n : Nat) : M.runFor (n + 1) m = M.runFor n m.step := by
  by_cases h : m.outcome.isSome = true
  · rw [runFor_out h, step_out h, runFor_out h]
  · show (if m.outcome.isSome then m else M.runFor n m.step) = _
    rw [if_neg h]
theorem runFor_add (a b : Nat) : ∀ m : M, M.runFor (a + b) m = M.runFor b (M.runFor a m) := by
  induction a with
  | zero => intro m; rw [Nat.zero_add]; rfl
  | succ a ih => intro m; rw [Nat.succ_add, runFor_succ, runFor_succ, ih]
theorem Comes.refl (m : M) : Comes 0 m m := ⟨0, Nat.le_refl _, rfl⟩
theorem Comes.step {k : Nat} {m m' : M} (h : Comes k m.step m') : Comes (k + 1) m m' := by
  obtain ⟨j, hj, e⟩ := h
  exact ⟨j + 1, by lia, by rw [runFor_succ]; exact e⟩
theorem Comes.mono {k k' : Nat} {m m' : M} (h : Comes k m m') (l : k ≤ k') : Comes k' m m' := by
  obtain ⟨j, hj, e⟩ := h
  exact ⟨j, by lia, e⟩
theorem Comes.at {k : Nat} {m m' m'' : M} (e : m.step = m'') (h : Comes k m'' m') : Comes (k + 1) m m' := Comes.step (e ▸ h)

section
variable {m : M}
theorem st_exec (ho : m.outcome = none) (ha : m.answer = none) (hp : m.pc < m.code.size) : m.step = m.exec := by
  unfold M.step
  rw [ho, ha]
  simp [hp]
theorem st_lit_yes (ho : m.outcome = none) (ha : m.answer = none) (hp : m.pc < m.code.size) (hop : ops[m.code.getD m.pc 0]? = some .LITERAL) (hl : m.pos < m.lim) (hc : m.text.getD m.pos 0 = m.code.getD (m.pc + 1) 0) :
    m.step = { m with seen := m.seen.add (m.word 0), pc := m.pc + 2, pos := m.pos + 1 } := by
  rw [st_exec ho ha hp]
  unfold M.exec
  have hop' : ops[m.word 0]? = some .LITERAL := hop
  rw [hop']
  have hn : ¬ m.pos ≥ m.lim := by lia
  simp only [hn, if_false, accepts, hop, itemWidth, hc, beq_self_eq_true]
theorem st_lit_no (ho : m.outcome = none) (ha : m.answer = none) (hp : m.pc < m.code.size) (hop : ops[m.code.getD m.pc 0]? = some .LITERAL) (hc : m.pos < m.lim → m.text.getD m.pos 0 ≠ m.code.getD (m.pc + 1) 0) :
    m.step = { m with seen := m.seen.add (m.word 0), answer := some false } := by
  rw [st_exec ho ha hp]
  unfold M.exec
  have hop' : ops[m.word 0]? = some .LITERAL := hop
  rw [hop']
  by_cases hl : m.pos ≥ m.lim
  · simp only [hl, if_true, M.say]
  · have := hc (by lia)
    have hb : (m.text.getD m.pos 0 == m.code.getD (m.pc + 1) 0) = false := by simpa using this
    simp only [hl, if_false, accepts, hop, hb, M.say]
theorem st_success (ho : m.outcome = none) (ha : m.answer = none) (hp : m.pc < m.code.size) (hop : ops[m.code.getD m.pc 0]? = some .SUCCESS) (hw : m.wholeText = false) (hm : m.mustAdvance = false) :
    m.step = { m with seen := m.seen.add (m.word 0), handed := m.pos, answer := some true } := by
  rw [st_exec ho ha hp]
  unfold M.exec
  have hop' : ops[m.word 0]? = some .SUCCESS := hop
  rw [hop']
  simp only [hw, hm, Bool.false_and, Bool.or_false, Bool.and_false, Bool.false_eq_true, if_false, M.say]
theorem st_jump (ho : m.outcome = none) (ha : m.answer = none) (hp : m.pc < m.code.size) (hop : ops[m.code.getD m.pc 0]? = some .JUMP) :
    m.step = { m with seen := m.seen.add (m.word 0), pc := m.pc + 1 + m.word 1 } := by
  rw [st_exec ho ha hp]
  unfold M.exec
  have hop' : ops[m.word 0]? = some .JUMP := hop
  rw [hop']
  rfl
theorem st_at (ho : m.outcome = none) (ha : m.answer = none) (hp : m.pc < m.code.size) (hop : ops[m.code.getD m.pc 0]? = some .AT) (h1 : m.code.getD (m.pc + 1) 0 = 1) (b : Bool) (hb : (m.pos == 0 || m.text.getD (m.pos - 1) 0 == 10) = b) :
    ∃ sn, m.step = if b then { m with seen := sn, pc := m.pc + 2 } else { m with seen := sn, answer := some false } := by
  rw [st_exec ho ha hp]
  unfold M.exec
  have hop' : ops[m.word 0]? = some .AT := hop
  have h1' : m.word 1 = 1 := h1
  have e9 : ({ m with seen := m.seen.add (m.word 0) } : M).isAt (({ m with seen := m.seen.add (m.word 0) } : M).word 1) = .ok b := by
    rw [show ({ m with seen := m.seen.add (m.word 0) } : M).word 1 = 1 from h1, ← hb]
    rfl
  rw [hop']
  dsimp only
  rw [e9]
  refine ⟨_, rfl⟩
theorem st_branch (ho : m.outcome = none) (ha : m.answer = none) (hp : m.pc < m.code.size) (hop : ops[m.code.getD m.pc 0]? = some .BRANCH) (hi : m.inner = none) (hw : m.weight < 100) (h0 : (m.code.getD (m.pc + 1) 0 == 0) = false) :
    ∃ f : Sre.Frame, f.wait = .nextBranch ∧ f.pc = m.pc + 1 ∧ f.pos = m.pos ∧ f.outermost = m.outermost ∧ f.kept.marks = #[] ∧ f.kept.whole = false ∧ f.kept.lastmark = m.lastmark ∧ f.kept.lastindex = m.lastindex ∧
      m.step = { m with seen := m.seen.add (m.word 0), frames := f :: m.frames, weight := m.weight + 1, pc := m.pc + 2, handed := m.pos } := by
  rw [st_exec ho ha hp]
  unfold M.exec
  have hop' : ops[m.word 0]? = some .BRANCH := hop
  rw [hop']
  simp only [M.alternative, h0, M.attempt, M.frame, M.keep, hi, Option.isSome_none, Bool.false_eq_true, if_false]
  have hw' : ¬ (m.weight + 1 + (#[] : Array (Option Nat)).size > 16777216) := by simp; lia
  rw [if_neg hw']
  refine ⟨_, rfl, rfl, rfl, rfl, rfl, rfl, rfl, rfl, rfl⟩
/-- an answer that closes the outermost start: yes -/
theorem st_end (ho : m.outcome = none) (b : Bool) (ha : m.answer = some b) (hf : m.frames = []) : m.step = { m with outcome := some (if b then .matched else .failed) } := by
  unfold M.step
  rw [ho, ha, hf]
  simp
theorem st_pop {f : Sre.Frame} {rest : List Sre.Frame} (ho : m.outcome = none) (b : Bool) (ha : m.answer = some b) (hf : m.frames = f :: rest) :
    m.step = M.resume { m with answer := none, frames := rest, weight := m.weight - (1 + f.kept.marks.size), pc := f.pc, pos := f.pos, outermost := f.outermost } f b := by
  unfold M.step
  rw [ho, ha, hf]
  simp
end
end
section
open PySem PySem.Sre
set_option maxRecDepth 100000
set_option maxHeartbeats 1000000
structure Ax (C x : Array Nat) (s pc pos : Nat) (fs : List Sre.Frame) (ans : Option Bool) (hd : Nat) (m : M) : Prop where
  code : m.code = C
  text : m.text = x
  lim : m.lim = x.size
  start : m.start = s
  last : m.lastStart = x.size
  whole : m.wholeText = false
  must : m.mustAdvance = false
  pc : m.pc = pc
  pos : m.pos = pos
  inner : m.inner = none
  frames : m.frames = fs
  weight : m.weight ≤ fs.length
  outcome : m.outcome = none
  answer : m.answer = ans
  handed : ans = some true → m.handed = hd
  kept : ∀ f ∈ fs, f.kept.marks = #[]
section
variable {C x : Array Nat} {s pc pos hd : Nat} {fs : List Sre.Frame} {m : M}
theorem Ax.lit_yes (a : Ax C x s pc pos fs none hd m) (hp : pc < C.size) (hop : ops[C.getD pc 0]? = some .LITERAL) (hl : pos < x.size) (hc : x.getD pos 0 = C.getD (pc + 1) 0) : Ax C x s (pc + 2) (pos + 1) fs none hd m.step := by
  obtain ⟨h1, h2, h3, h4, h5, h6, h7, h8, h9, h10, h11, h12, h13, h14, h15, h16⟩ := a
  rw [st_lit_yes h13 h14 (by rw [h1, h8]; exact hp) (by rw [h1, h8]; exact hop) (by rw [h9, h3]; exact hl) (by rw [h1, h2, h8, h9]; exact hc)]
  exact ⟨h1, h2, h3, h4, h5, h6, h7, by show m.pc + 2 = _; rw [h8], by show m.pos + 1 = _; rw [h9], h10, h11, h12, h13, h14, nofun, h16⟩
theorem Ax.lit_no (a : Ax C x s pc pos fs none hd m) (hp : pc < C.size) (hop : ops[C.getD pc 0]? = some .LITERAL) (hc : pos < x.size → x.getD pos 0 ≠ C.getD (pc + 1) 0) : Ax C x s pc pos fs (some false) hd m.step := by
  obtain ⟨h1, h2, h3, h4, h5, h6, h7, h8, h9, h10, h11, h12, h13, h14, h15, h16⟩ := a
  rw [st_lit_no h13 h14 (by rw [h1, h8]; exact hp) (by rw [h1, h8]; exact hop) (by rw [h1, h2, h3, h8, h9]; exact hc)]
  exact ⟨h1, h2, h3, h4, h5, h6, h7, h8, h9, h10, h11, h12, h13, rfl, nofun, h16⟩
theorem Ax.success (a : Ax C x s pc pos fs none hd m) (hp : pc < C.size) (hop : ops[C.getD pc 0]? = some .SUCCESS) : Ax C x s pc pos fs (some true) pos m.step := by
  obtain ⟨h1, h2, h3, h4, h5, h6, h7, h8, h9, h10, h11, h12, h13, h14, h15, h16⟩ := a
  rw [st_success h13 h14 (by rw [h1, h8]; exact hp) (by rw [h1, h8]; exact hop) h6 h7]
  exact ⟨h1, h2, h3, h4, h5, h6, h7, h8, h9, h10, h11, h12, h13, rfl, fun _ => h9, h16⟩
theorem Ax.jump (a : Ax C x s pc pos fs none hd m) (hp : pc < C.size) (hop : ops[C.getD pc 0]? = some .JUMP) : Ax C x s (pc + 1 + C.getD (pc + 1) 0) pos fs none hd m.step := by
  obtain ⟨h1, h2, h3, h4, h5, h6, h7, h8, h9, h10, h11, h12, h13, h14, h15, h16⟩ := a
  rw [st_jump h13 h14 (by rw [h1, h8]; exact hp) (by rw [h1, h8]; exact hop)]
  exact ⟨h1, h2, h3, h4, h5, h6, h7, by show m.pc + 1 + m.code.getD (m.pc + 1) 0 = _; rw [h8, h1], h9, h10, h11, h12, h13, h14, nofun, h16⟩
theorem Ax.at_yes (a : Ax C x s pc pos fs none hd m) (hp : pc < C.size) (hop : ops[C.getD pc 0]? = some .AT) (h1' : C.getD (pc + 1) 0 = 1) (hb : (pos == 0 || x.getD (pos - 1) 0 == 10) = true) : Ax C x s (pc + 2) pos fs none hd m.step := by
  obtain ⟨h1, h2, h3, h4, h5, h6, h7, h8, h9, h10, h11, h12, h13, h14, h15, h16⟩ := a
  obtain ⟨sn, e⟩ := st_at h13 h14 (by rw [h1, h8]; exact hp) (by rw [h1, h8]; exact hop) (by rw [h1, h8]; exact h1') true (by rw [h9, h2]; exact hb)
  rw [e, if_pos rfl]
  exact ⟨h1, h2, h3, h4, h5, h6, h7, by show m.pc + 2 = _; rw [h8], h9, h10, h11, h12, h13, h14, nofun, h16⟩
theorem Ax.at_no (a : Ax C x s pc pos fs none hd m) (hp : pc < C.size) (hop : ops[C.getD pc 0]? = some .AT) (h1' : C.getD (pc + 1) 0 = 1) (hb : (pos == 0 || x.getD (pos - 1) 0 == 10) = false) : Ax C x s pc pos fs (some false) hd m.step := by
  obtain ⟨h1, h2, h3, h4, h5, h6, h7, h8, h9, h10, h11, h12, h13, h14, h15, h16⟩ := a
  obtain ⟨sn, e⟩ := st_at h13 h14 (by rw [h1, h8]; exact hp) (by rw [h1, h8]; exact hop) (by rw [h1, h8]; exact h1') false (by rw [h9, h2]; exact hb)
  rw [e, if_neg (by decide)]
  exact ⟨h1, h2, h3, h4, h5, h6, h7, h8, h9, h10, h11, h12, h13, rfl, nofun, h16⟩
theorem Ax.branch (a : Ax C x s pc pos fs none hd m) (hp : pc < C.size) (hop : ops[C.getD pc 0]? = some .BRANCH) (h0 : (C.getD (pc + 1) 0 == 0) = false) (hf : fs.length < 50) :
    ∃ f : Sre.Frame, f.wait = .nextBranch ∧ f.pc = pc + 1 ∧ f.pos = pos ∧ Ax C x s (pc + 2) pos (f :: fs) none hd m.step := by
  obtain ⟨h1, h2, h3, h4, h5, h6, h7, h8, h9, h10, h11, h12, h13, h14, h15, h16⟩ := a
  obtain ⟨f, f1, f2, f3, f4, f5, f6, f7, f8, e⟩ := st_branch h13 h14 (by rw [h1, h8]; exact hp) (by rw [h1, h8]; exact hop) h10 (by omega) (by rw [h1, h8]; exact h0)
  refine ⟨f, f1, by rw [f2, h8], by rw [f3, h9], ?_⟩
  rw [e]
  exact ⟨h1, h2, h3, h4, h5, h6, h7, by show m.pc + 2 = _; rw [h8], h9, h10, by show f :: m.frames = _; rw [h11], by show m.weight + 1 ≤ _; simp; omega, h13, h14, nofun, fun g hg => by rcases List.mem_cons.mp hg with rfl | hg; exact f5; exact h16 g hg⟩
theorem Ax.pop_branch_no {f : Sre.Frame} (a : Ax C x s pc pos (f :: fs) (some false) hd m) (hw : f.wait = .nextBranch) (h0 : (C.getD (f.pc + C.getD f.pc 0) 0 == 0) = false) (hf : fs.length < 50) :
    ∃ f' : Sre.Frame, f'.wait = .nextBranch ∧ f'.pc = f.pc + C.getD f.pc 0 ∧ f'.pos = f.pos ∧ Ax C x s (f.pc + C.getD f.pc 0 + 1) f.pos (f' :: fs) none hd m.step := by
  obtain ⟨h1, h2, h3, h4, h5, h6, h7, h8, h9, h10, h11, h12, h13, h14, h15, h16⟩ := a
  have hk : f.kept.marks = #[] := h16 f (.head _)
  have hwt : m.weight ≤ fs.length + 1 := h12
  rw [st_pop h13 false h14 h11]
  unfold M.resume
  rw [hw]
  dsimp only
  first | rw [if_neg Bool.false_ne_true] | skip
  subst h1
  simp only [M.putBack, M.alternative, h0, Bool.false_eq_true, if_false, M.attempt, M.frame, hk]
  have hw' : ¬ (m.weight - (1 + (#[] : Array (Option Nat)).size) + 1 + (#[] : Array (Option Nat)).size > 16777216) := by
    simp; omega
  rw [if_neg hw']
  refine ⟨{ wait := .nextBranch, pc := f.pc + m.code.getD f.pc 0, pos := f.pos, outermost := f.outermost, kept := f.kept }, rfl, rfl, rfl, ⟨rfl, h2, h3, h4, h5, h6, h7, rfl, rfl, h10, rfl, ?_, h13, rfl, nofun, fun g hg => ?_⟩⟩
  · show m.weight - (1 + (#[] : Array (Option Nat)).size) + 1 + (#[] : Array (Option Nat)).size ≤ fs.length + 1
    simp; omega
  · rcases List.mem_cons.mp hg with rfl | hg
    · exact hk
    · exact h16 g (.tail _ hg)
theorem Ax.pop_yes {f : Sre.Frame} (a : Ax C x s pc pos (f :: fs) (some true) hd m) (hw : f.wait = .nextBranch ∨ f.wait = .nextStart) : Ax C x s f.pc f.pos fs (some true) hd m.step := by
  obtain ⟨h1, h2, h3, h4, h5, h6, h7, h8, h9, h10, h11, h12, h13, h14, h15, h16⟩ := a
  have h12' : m.weight ≤ fs.length + 1 := h12
  rw [st_pop h13 true h14 h11]
  unfold M.resume
  rcases hw with hw | hw <;>
  · simp only [hw, if_true, M.say]
    exact ⟨h1, h2, h3, h4, h5, h6, h7, rfl, rfl, h10, rfl, by show m.weight - _ ≤ _; omega, h13, rfl, h15, fun g hg => h16 g (.tail _ hg)⟩
theorem Ax.assert_not (a : Ax C x s pc pos fs none hd m) (hp : pc < C.size) (hop : ops[C.getD pc 0]? = some .ASSERT_NOT) (h2' : C.getD (pc + 2) 0 = 0) (hf : fs.length < 50) :
    ∃ f : Sre.Frame, f.wait = .lookNot ∧ f.pc = pc ∧ f.pos = pos ∧ Ax C x s (pc + 3) pos (f :: fs) none hd m.step := by
  obtain ⟨h1, h2, h3, h4, h5, h6, h7, h8, h9, h10, h11, h12, h13, h14, h15, h16⟩ := a
  subst h1 h8 h9
  rw [st_exec h13 h14 hp]
  unfold M.exec
  have hop' : ops[m.word 0]? = some .ASSERT_NOT := hop
  rw [hop']
  have e2 : m.code.getD (m.pc + 2) 0 = 0 := h2'
  simp only [M.word, e2, Nat.not_lt_zero, if_false, M.attempt, M.frame, M.keep, h10, Option.isSome_none, Bool.and_false, Bool.false_eq_true, if_true, Nat.sub_zero]
  have hw' : ¬ (m.weight + 1 + (#[] : Array (Option Nat)).size > 16777216) := by simp; omega
  rw [if_neg hw']
  refine ⟨_, rfl, rfl, rfl, ⟨rfl, h2, h3, h4, h5, h6, h7, rfl, rfl, rfl, by show _ :: m.frames = _; rw [h11], by show m.weight + 1 + 0 ≤ _; simp; omega, h13, h14, nofun, fun g hg => ?_⟩⟩
  rcases List.mem_cons.mp hg with rfl | hg
  · rfl
  · exact h16 g hg
theorem Ax.pop_look_no {f : Sre.Frame} (a : Ax C x s pc pos (f :: fs) (some false) hd m) (hw : f.wait = .lookNot) : Ax C x s (f.pc + 1 + C.getD (f.pc + 1) 0) f.pos fs none hd m.step := by
  obtain ⟨h1, h2, h3, h4, h5, h6, h7, h8, h9, h10, h11, h12, h13, h14, h15, h16⟩ := a
  have hk : f.kept.marks = #[] := h16 f (.head _)
  have hwt : m.weight ≤ fs.length + 1 := h12
  rw [st_pop h13 false h14 h11]
  unfold M.resume
  rw [hw]
  dsimp only
  first | rw [if_neg Bool.false_ne_true] | skip
  subst h1
  exact ⟨rfl, h2, h3, h4, h5, h6, h7, rfl, rfl, h10, rfl, by show m.weight - _ ≤ _; omega, h13, rfl, nofun, fun g hg => h16 g (.tail _ hg)⟩
/-- the start is given up: the next one is sought -/
theorem Ax.pop_start_no {f : Sre.Frame} (a : Ax C x s pc pos [f] (some false) hd m) (hw : f.wait = .nextStart) :
    ∃ m₁ : M, Ax C x s f.pc f.pos [] none hd m₁ ∧ m.step = if f.pos < x.size then m₁.attemptFrom (f.pos + 1) false else m₁.say false := by
  obtain ⟨h1, h2, h3, h4, h5, h6, h7, h8, h9, h10, h11, h12, h13, h14, h15, h16⟩ := a
  have hwt : m.weight ≤ 1 := h12
  rw [st_pop h13 false h14 h11]
  unfold M.resume
  rw [hw]
  dsimp only
  first | rw [if_neg Bool.false_ne_true] | skip
  refine ⟨{ m with answer := none, frames := [], weight := m.weight - (1 + f.kept.marks.size), pc := f.pc, pos := f.pos, outermost := f.outermost }, ⟨h1, h2, h3, h4, h5, h6, h7, rfl, rfl, h10, rfl, by show m.weight - _ ≤ 0; omega, h13, rfl, nofun, nomem⟩, ?_⟩
  rw [← h5]
  obtain ⟨_⟩ := m
  cases h7
  rfl
theorem Ax.say_no (a : Ax C x s pc pos [] none hd m) : Ax C x s pc pos [] (some false) hd (m.say false) := by
  obtain ⟨h1, h2, h3, h4, h5, h6, h7, h8, h9, h10, h11, h12, h13, h14, h15, h16⟩ := a
  exact ⟨h1, h2, h3, h4, h5, h6, h7, h8, h9, h10, h11, h12, h13, rfl, nofun, h16⟩
theorem Ax.attemptAt (a : Ax C x s pc pos [] none hd m) (s' : Nat) (first : Bool) :
    ∃ f : Sre.Frame, f.wait = .nextStart ∧ f.pc = pc ∧ f.pos = s' ∧ Ax C x s' pc s' [f] none hd (m.attemptAt s' first) := by
  obtain ⟨h1, h2, h3, h4, h5, h6, h7, h8, h9, h10, h11, h12, h13, h14, h15, h16⟩ := a
  have hwt : m.weight ≤ 0 := h12
  unfold M.attemptAt M.attempt
  simp only []
  have hw' : ¬ (m.weight + 1 + (#[] : Array (Option Nat)).size > 16777216) := by simp; omega
  rw [if_neg hw']
  refine ⟨_, rfl, h8, rfl, ⟨h1, h2, h3, rfl, h5, h6, h7, h8, rfl, h10, by show _ :: m.frames = _; rw [h11], by show m.weight + 1 + 0 ≤ 1; omega, h13, h14, nofun, fun g hg => ?_⟩⟩
  rw [List.mem_singleton.mp hg]
theorem Ax.fin {b : Bool} (a : Ax C x s pc pos [] (some b) hd m) : m.step.outcome = some (if b then .matched else .failed) ∧ m.step.start = s ∧ (b = true → m.step.handed = hd) := by
  obtain ⟨h1, h2, h3, h4, h5, h6, h7, h8, h9, h10, h11, h12, h13, h14, h15, h16⟩ := a
  rw [st_end h13 b h14 h11]
  exact ⟨rfl, h4, fun e => h15 (by rw [e])⟩
end
end
section
open PySem PySem.Sre
set_option maxRecDepth 100000
set_option maxHeartbeats 1000000
noncomputable def codeD : Array Nat := #[14, 4, 0, 1, 1, 6, 1, 16, 46, 1]
noncomputable def codeE : Array Nat := #[14, 9, 4, 1, 2, 16, 10, 16, 13, 0, 7, 7, 16, 13, 16, 10, 15, 18, 5, 16, 10, 15, 13, 11, 16, 13, 5, 5, 0, 16, 10, 1, 15, 2, 0, 1]
noncomputable def codeF : Array Nat := #[14, 14, 4, 1, 1, 9, 0, 64, 0, 1342177280, 0, 0, 0, 0, 0, 17, 0, 13, 11, 9, 0, 64, 0, 1342177280, 0, 0, 0, 0, 0, 17, 1, 1]
noncomputable def isDot (x : Array Nat) (s : Nat) : Bool := (s == 0 || x.getD (s - 1) 0 == 10) && (decide (s < x.size) && x.getD s 0 == 46)
noncomputable def isEol (x : Array Nat) (s : Nat) : Bool := decide (s < x.size) && (x.getD s 0 == 10 || x.getD s 0 == 13)
noncomputable def eolLen (x : Array Nat) (s : Nat) : Nat := if x.getD s 0 = 13 ∧ s + 1 < x.size ∧ x.getD (s + 1) 0 = 10 then 2 else 1
/-- what a search from s on finds -/
noncomputable def Found (p : Nat → Bool) (len : Nat → Nat) (s : Nat) (m' : M) : Prop :=
  (∃ s', s ≤ s' ∧ p s' = true ∧ (∀ k, s ≤ k → k < s' → p k = false) ∧ m'.outcome = some .matched ∧ m'.start = s' ∧ m'.handed = s' + len s') ∨
  ((∀ k, s ≤ k → p k = false) ∧ m'.outcome = some .failed)
theorem Found.skip {p : Nat → Bool} {len : Nat → Nat} {s : Nat} {m' : M} (h : p s = false) (f : Found p len (s + 1) m') : Found p len s m' := by
  rcases f with ⟨s', h1, h2, h3, h4⟩ | ⟨h1, h2⟩
  · refine .inl ⟨s', by lia, h2, fun k hk hk' => ?_, h4⟩
    by_cases e : k = s
    · rw [e]; exact h
    · exact h3 k (by lia) hk'
  · refine .inr ⟨fun k hk => ?_, h2⟩
    by_cases e : k = s
    · rw [e]; exact h
    · exact h1 k (by lia)
theorem hasFirst_D {m : M} (h : m.code = codeD) : m.hasFirstSet = false := by unfold M.hasFirstSet; rw [h]; rfl
theorem hasFirst_E {m : M} (h : m.code = codeE) : m.hasFirstSet = true := by unfold M.hasFirstSet; rw [h]; rfl
theorem hasFirst_F {m : M} (h : m.code = codeF) : m.hasFirstSet = true := by unfold M.hasFirstSet; rw [h]; rfl
theorem say_fail (m : M) (ho : m.outcome = none) (hf : m.frames = []) : ∃ m', Comes 1 (m.say false) m' ∧ m'.outcome = some .failed := by
  have e : (m.say false).step = _ := st_end (m := m.say false) ho false rfl hf
  exact ⟨_, .at e (.refl _), rfl⟩
theorem comes_fail {C x : Array Nat} {s pc pos hd : Nat} {m : M} (a : Ax C x s pc pos [] (some false) hd m) : ∃ m', Comes 1 m m' ∧ m'.outcome = some .failed :=
  ⟨m.step, .at rfl (.refl _), a.fin.1⟩
theorem dot_run {x : Array Nat} {hd : Nat} : ∀ (n s : Nat) (m : M) (f : Sre.Frame), x.size - s = n → s ≤ x.size → f.wait = .nextStart → f.pc = 5 → f.pos = s → Ax codeD x s 5 s [f] none hd m →
    ∃ m', Comes (5 * (n + 1) + 5) m m' ∧ Found (isDot x) (fun _ => 1) s m' := by
  intro n
  induction n with
  | zero =>
    intro s m f hn hs f1 f2 f3 a
    have hd0 : isDot x s = false := by
      unfold isDot; rw [decide_eq_false (by lia)]; simp
    have none : ∀ k, s ≤ k → isDot x k = false := fun k hk => by unfold isDot; rw [decide_eq_false (by lia)]; simp
    have end_ : ∀ {pc pos : Nat} {m : M}, Ax codeD x s pc pos [f] (some false) hd m → ∃ m', Comes 2 m m' ∧ m'.outcome = some .failed := by
      intro pc pos m a
      obtain ⟨m₁, a₁, e⟩ := a.pop_start_no f1
      rw [if_neg (by lia)] at e
      obtain ⟨m', c, o⟩ := comes_fail a₁.say_no
      exact ⟨m', .at e c, o⟩
    cases hb : (s == 0 || x.getD (s - 1) 0 == 10) with
    | false =>
      obtain ⟨m', c, o⟩ := end_ (a.at_no (by decide) rfl rfl hb)
      exact ⟨m', (Comes.at rfl c).mono (by lia), .inr ⟨none, o⟩⟩
    | true =>
      have a₁ := a.at_yes (by decide) rfl rfl hb
      obtain ⟨m', c, o⟩ := end_ (a₁.lit_no (by decide) rfl fun h => by lia)
      exact ⟨m', (Comes.at rfl (Comes.at rfl c)).mono (by lia), .inr ⟨none, o⟩⟩
  | succ n ih =>
    intro s m f hn hs f1 f2 f3 a
    have next : ∀ {pc pos : Nat} {m : M}, Ax codeD x s pc pos [f] (some false) hd m → isDot x s = false → ∃ m', Comes (1 + (5 * (n + 1) + 5)) m m' ∧ Found (isDot x) (fun _ => 1) s m' := by
      intro pc pos m a hd
      obtain ⟨m₁, a₁, e⟩ := a.pop_start_no f1
      rw [if_pos (by lia), f3] at e
      unfold M.attemptFrom at e
      rw [hasFirst_D a₁.code] at e
      simp only [Bool.not_false, if_true] at e
      obtain ⟨g, g1, g2, g3, a₂⟩ := a₁.attemptAt (s + 1) false
      rw [f2] at g2 a₂
      obtain ⟨m', c, o⟩ := ih (s + 1) _ g (by lia) (by lia) g1 g2 g3 a₂
      exact ⟨m', by rw [Nat.add_comm]; exact .at e c, o.skip hd⟩
    cases hb : (s == 0 || x.getD (s - 1) 0 == 10) with
    | false =>
      obtain ⟨m', c, o⟩ := next (a.at_no (by decide) rfl rfl hb) (by unfold isDot; rw [hb]; rfl)
      exact ⟨m', (Comes.at rfl c).mono (by lia), o⟩
    | true =>
      have a₁ := a.at_yes (by decide) rfl rfl hb
      by_cases hc : x.getD s 0 = 46
      · have a₂ := a₁.lit_yes (by decide) rfl (by lia) hc
        have a₃ := a₂.success (by decide) rfl
        have a₄ := a₃.pop_yes (.inr f1)
        obtain ⟨e1, e2, e3⟩ := a₄.fin
        refine ⟨_, (Comes.at rfl (Comes.at rfl (Comes.at rfl (Comes.at rfl (Comes.at rfl (Comes.refl _)))))).mono (by lia), .inl ⟨s, Nat.le_refl _, ?_, fun k h1 h2 => by lia, e1, e2, e3 rfl⟩⟩
        unfold isDot
        rw [hb, decide_eq_true (by lia), hc]
        rfl
      · obtain ⟨m', c, o⟩ := next (a₁.lit_no (by decide) rfl fun _ => hc) (by
          unfold isDot
          have : (x.getD s 0 == 46) = false := by simpa using hc
          rw [this]; simp)
        exact ⟨m', (Comes.at rfl (Comes.at rfl c)).mono (by lia), o⟩
theorem dot_search {x : Array Nat} (s : Nat) (hs : s ≤ x.size) : ∃ m', Comes (5 * (x.size + 1) + 5) (forSearch codeD x 0 s x.size false) m' ∧ Found (isDot x) (fun _ => 1) s m' := by
  unfold forSearch
  simp -iota only [show (header codeD).1 = 1 from rfl, show (header codeD).2 = 5 from rfl]
  by_cases h : s = x.size
  · rw [if_pos (by simp; lia)]
    have H : ∀ m₀ : M, m₀.outcome = none → m₀.frames = [] → ∃ m', Comes (5 * (x.size + 1) + 5) (m₀.say false) m' ∧ Found (isDot x) (fun _ => 1) s m' := fun m₀ h1 h2 => by
      obtain ⟨m', c, o⟩ := say_fail m₀ h1 h2
      exact ⟨m', c.mono (by lia), .inr ⟨fun k hk => by unfold isDot; rw [decide_eq_false (by lia)]; simp, o⟩⟩
    exact H _ rfl rfl
  · rw [if_neg (by simp; lia)]
    unfold M.attemptFrom
    rw [hasFirst_D (by rfl)]
    simp -iota only [Bool.not_false, if_true]
    suffices H : ∀ m₀ : M, Ax codeD x s 5 s [] none 0 m₀ → ∃ m', Comes (5 * (x.size + 1) + 5) (m₀.attemptAt s true) m' ∧ Found (isDot x) (fun _ => 1) s m' from
      H _ ⟨rfl, rfl, rfl, rfl, rfl, rfl, rfl, rfl, rfl, rfl, rfl, Nat.le_refl _, rfl, rfl, nofun, nomem⟩
    intro m₀ a
    obtain ⟨g, g1, g2, g3, a₂⟩ := a.attemptAt s true
    obtain ⟨m', c, o⟩ := dot_run (x.size - s) s _ g rfl hs g1 g2 g3 a₂
    exact ⟨m', c.mono (by lia), o⟩

theorem inSet_lit {code : Array Nat} {c n i : Nat} {yes : Bool} (sn : Seen) (h : ops[code.getD (i + 0) 0]? = some .LITERAL) : ∃ sn', inSet code c (n + 1) i yes sn = if c == code.getD (i + 1) 0 then .ok (yes, sn') else inSet code c n (i + 2) yes sn' := by
  refine ⟨sn.add (code.getD (i + 0) 0), ?_⟩
  conv => lhs; whnf
  rw [h]
theorem inSet_end {code : Array Nat} {c n i : Nat} {yes : Bool} (sn : Seen) (h : ops[code.getD (i + 0) 0]? = some .FAILURE) : ∃ sn', inSet code c (n + 1) i yes sn = .ok (!yes, sn') := by
  refine ⟨sn.add (code.getD (i + 0) 0), ?_⟩
  conv => lhs; whnf
  rw [h]
theorem inSet_chars {code : Array Nat} {c n i : Nat} {yes : Bool} (sn : Seen) (h : ops[code.getD (i + 0) 0]? = some .CHARSET) (e : (decide (c < 256) && (code.getD (i + (1 + c / 32)) 0).testBit (c % 32)) = false) : ∃ sn', inSet code c (n + 1) i yes sn = inSet code c n (i + 9) yes sn' := by
  refine ⟨sn.add (code.getD (i + 0) 0), ?_⟩
  conv => lhs; whnf
  rw [h]
  dsimp only
  rw [e]
  rfl
theorem inSet_E (c : Nat) (sn : Seen) : ∃ sn', inSet codeE c codeE.size 5 true sn = .ok (c == 10 || c == 13, sn') := by
  rw [show codeE.size = 33 + 1 + 1 + 1 from rfl]
  obtain ⟨s1, e1⟩ := inSet_lit (code := codeE) (c := c) (n := 33 + 1 + 1) (i := 5) (yes := true) sn rfl
  obtain ⟨s2, e2⟩ := inSet_lit (code := codeE) (c := c) (n := 33 + 1) (i := 5 + 2) (yes := true) s1 rfl
  obtain ⟨s3, e3⟩ := inSet_end (code := codeE) (c := c) (n := 33) (i := 5 + 2 + 2) (yes := true) s2 rfl
  rw [e1, e2, e3]
  by_cases h1 : c = 10
  · subst h1; exact ⟨_, rfl⟩
  · have q1 : (c == codeE.getD (5 + 1) 0) = false := by show (c == 10) = false; simpa using h1
    have q1' : (c == 10) = false := by simpa using h1
    rw [if_neg (by rw [q1]; decide), q1']
    by_cases h2 : c = 13
    · subst h2; exact ⟨_, rfl⟩
    · have q2 : (c == codeE.getD (5 + 2 + 1) 0) = false := by show (c == 13) = false; simpa using h2
      have q2' : (c == 13) = false := by simpa using h2
      rw [if_neg (by rw [q2]; decide), q2']
      exact ⟨_, rfl⟩
theorem set_F : ∀ c : Nat, c < 256 → c ≠ 38 → c ≠ 124 → c ≠ 126 → (codeF.getD (5 + (1 + c / 32)) 0).testBit (c % 32) = false := by decide +kernel
theorem inSet_F (c : Nat) (sn : Seen) (h1 : c ≠ 38) (h2 : c ≠ 124) (h3 : c ≠ 126) : ∃ sn', inSet codeF c codeF.size 5 true sn = .ok (false, sn') := by
  have e : (decide (c < 256) && (codeF.getD (5 + (1 + c / 32)) 0).testBit (c % 32)) = false := by
    by_cases h : c < 256
    · rw [set_F c h h1 h2 h3, Bool.and_false]
    · rw [decide_eq_false h, Bool.false_and]
  rw [show codeF.size = 30 + 1 + 1 from rfl]
  obtain ⟨s1, e1⟩ := inSet_chars (code := codeF) (c := c) (n := 30 + 1) (i := 5) (yes := true) sn rfl e
  obtain ⟨s2, e2⟩ := inSet_end (code := codeF) (c := c) (n := 30) (i := 5 + 9) (yes := true) s1 rfl
  rw [e1, e2]
  exact ⟨_, rfl⟩
theorem admitted_out {m : M} {fuel s : Nat} {sn : Seen} (hs : s ≥ m.lim) : M.admitted m (fuel + 1) s sn = .ok (none, sn) := by
  show (if s ≥ m.lim then _ else _) = _
  rw [if_pos hs]
theorem admitted_in {m : M} {fuel s : Nat} {sn sn' : Seen} {b : Bool} (hs : ¬ s ≥ m.lim) (e : inSet m.code (m.text.getD s 0) m.code.size 5 true sn = .ok (b, sn')) : M.admitted m (fuel + 1) s sn = if b = true then .ok (some s, sn') else M.admitted m fuel (s + 1) sn' := by
  show (if s ≥ m.lim then _ else _) = _
  rw [if_neg hs, e]
  cases b <;> rfl
theorem admitted_E {x : Array Nat} {m : M} (hc : m.code = codeE) (ht : m.text = x) (hl : m.lim = x.size) : ∀ (fuel s : Nat) (sn : Seen), x.size - s < fuel →
    (∃ s' sn', s ≤ s' ∧ isEol x s' = true ∧ (∀ k, s ≤ k → k < s' → isEol x k = false) ∧ M.admitted m fuel s sn = .ok (some s', sn')) ∨ ((∀ k, s ≤ k → isEol x k = false) ∧ ∃ sn', M.admitted m fuel s sn = .ok (none, sn')) := by
  intro fuel
  induction fuel with
  | zero => intro s sn h; lia
  | succ fuel ih =>
    intro s sn h
    by_cases hs : s ≥ m.lim
    · rw [admitted_out hs]
      refine .inr ⟨fun k hk => ?_, _, rfl⟩
      unfold isEol; rw [decide_eq_false (by lia)]; rfl
    · obtain ⟨sn', e⟩ := inSet_E (x.getD s 0) sn
      rw [admitted_in hs (by rw [hc, ht]; exact e)]
      cases hb : (x.getD s 0 == 10 || x.getD s 0 == 13) with
      | true =>
        refine .inl ⟨s, sn', Nat.le_refl _, ?_, fun k h1 h2 => by lia, rfl⟩
        unfold isEol; rw [hb, decide_eq_true (by lia)]; rfl
      | false =>
        have h0 : isEol x s = false := by unfold isEol; rw [hb, Bool.and_false]
        have step : ∀ k, s ≤ k → s + 1 ≤ k ∨ k = s := fun k hk => by lia
        rcases ih (s + 1) sn' (by lia) with ⟨s', sn'', h1, h2, h3, h4⟩ | ⟨h1, sn'', h2⟩
        · refine .inl ⟨s', sn'', by lia, h2, fun k hk hk' => ?_, h4⟩
          rcases step k hk with q | q
          · exact h3 k q hk'
          · rw [q]; exact h0
        · refine .inr ⟨fun k hk => ?_, sn'', h2⟩
          rcases step k hk with q | q
          · exact h1 k q
          · rw [q]; exact h0
theorem admitted_F {x : Array Nat} {m : M} (hc : m.code = codeF) (ht : m.text = x) (hx : ∀ k, k < x.size → x.getD k 0 ≠ 38 ∧ x.getD k 0 ≠ 124 ∧ x.getD k 0 ≠ 126) (hl : m.lim = x.size) : ∀ (fuel s : Nat) (sn : Seen),
    ∃ sn', M.admitted m fuel s sn = .ok (none, sn') := by
  intro fuel
  induction fuel with
  | zero => intro s sn; exact ⟨_, rfl⟩
  | succ fuel ih =>
    intro s sn
    by_cases hs : s ≥ m.lim
    · rw [admitted_out hs]; exact ⟨_, rfl⟩
    · skip
      obtain ⟨q1, q2, q3⟩ := hx s (by lia)
      obtain ⟨sn', e⟩ := inSet_F (x.getD s 0) sn q1 q2 q3
      rw [admitted_in hs (by rw [hc, ht]; exact e)]
      exact ih (s + 1) sn'
/-- an admitted start always matches -/
theorem eol_run {x : Array Nat} {hd s : Nat} {m : M} {f : Sre.Frame} (he : isEol x s = true) (f1 : f.wait = .nextStart) (a : Ax codeE x s 10 s [f] none hd m) :
    ∃ m', Comes 20 m m' ∧ m'.outcome = some .matched ∧ m'.start = s ∧ m'.handed = s + eolLen x s := by
  have hs : s < x.size := by unfold isEol at he; rw [Bool.and_eq_true] at he; exact of_decide_eq_true he.1
  have hc : x.getD s 0 = 10 ∨ x.getD s 0 = 13 := by unfold isEol at he; rw [Bool.and_eq_true, Bool.or_eq_true] at he; simpa using he.2
  have close : ∀ {pos : Nat} {m : M} {g : Sre.Frame}, g.wait = .nextBranch → Ax codeE x s 35 pos [g, f] none hd m → ∃ m', Comes 4 m m' ∧ m'.outcome = some .matched ∧ m'.start = s ∧ m'.handed = pos := by
    intro pos m g g1 a
    have a₁ := a.success (by decide) rfl
    have a₂ := a₁.pop_yes (.inl g1)
    have a₃ := a₂.pop_yes (.inr f1)
    obtain ⟨e1, e2, e3⟩ := a₃.fin
    exact ⟨_, (Comes.at rfl (Comes.at rfl (Comes.at rfl (Comes.at rfl (Comes.refl _))))), e1, e2, e3 rfl⟩
  obtain ⟨g, g1, g2, g3, a₁⟩ := a.branch (by decide) rfl rfl (by simp)
  rcases hc with hc | hc
  · have a₂ := a₁.lit_no (by decide) rfl fun _ => by rw [hc]; decide
    obtain ⟨k, k1, k2, k3, a₃⟩ := a₂.pop_branch_no g1 (by rw [g2]; rfl) (by simp)
    rw [g2, g3] at a₃
    have a₄ := a₃.lit_yes (by decide) rfl hs hc
    have a₅ := a₄.jump (by decide) rfl
    obtain ⟨m', c, o1, o2, o3⟩ := close k1 a₅
    refine ⟨m', (Comes.at rfl (Comes.at rfl (Comes.at rfl (Comes.at rfl (Comes.at rfl c))))).mono (by lia), o1, o2, ?_⟩
    rw [o3]; unfold eolLen; rw [if_neg (by rw [hc]; simp)]
  · have a₂ := a₁.lit_yes (by decide) rfl hs hc
    by_cases hn : s + 1 < x.size ∧ x.getD (s + 1) 0 = 10
    · have a₃ := a₂.lit_yes (by decide) rfl hn.1 hn.2
      have a₄ := a₃.jump (by decide) rfl
      obtain ⟨m', c, o1, o2, o3⟩ := close g1 a₄
      refine ⟨m', (Comes.at rfl (Comes.at rfl (Comes.at rfl (Comes.at rfl c)))).mono (by lia), o1, o2, ?_⟩
      rw [o3]; unfold eolLen; rw [if_pos ⟨hc, hn⟩]
    · have no : s + 1 < x.size → x.getD (s + 1) 0 ≠ 10 := fun h e => hn ⟨h, e⟩
      have a₃ := a₂.lit_no (by decide) rfl no
      obtain ⟨k, k1, k2, k3, a₄⟩ := a₃.pop_branch_no g1 (by rw [g2]; rfl) (by simp)
      rw [g2, g3] at a₄
      rw [g2] at k2
      have a₅ := a₄.lit_no (by decide) rfl fun _ => by rw [hc]; decide
      obtain ⟨j, j1, j2, j3, a₆⟩ := a₅.pop_branch_no k1 (by rw [k2]; rfl) (by simp)
      rw [k2, k3, g3] at a₆
      have a₇ := a₆.lit_yes (by decide) rfl hs hc
      obtain ⟨l, l1, l2, l3, a₈⟩ := a₇.assert_not (by decide) rfl rfl (by simp)
      have a₉ := a₈.lit_no (by decide) rfl no
      have b₁ := a₉.pop_look_no l1
      rw [l2, l3] at b₁
      have b₂ := b₁.jump (by decide) rfl
      obtain ⟨m', c, o1, o2, o3⟩ := close j1 b₂
      refine ⟨m', (Comes.at rfl (Comes.at rfl (Comes.at rfl (Comes.at rfl (Comes.at rfl (Comes.at rfl (Comes.at rfl (Comes.at rfl (Comes.at rfl (Comes.at rfl (Comes.at rfl c))))))))))).mono (by lia), o1, o2, ?_⟩
      rw [o3]; unfold eolLen; rw [if_neg fun q => hn q.2]
theorem eol_search {x : Array Nat} (s : Nat) (hs : s ≤ x.size) : ∃ m', Comes 30 (forSearch codeE x 0 s x.size false) m' ∧ Found (isEol x) (eolLen x) s m' := by
  unfold forSearch
  simp only [show (header codeE).1 = 1 from rfl, show (header codeE).2 = 10 from rfl]
  by_cases h : s = x.size
  · rw [if_pos (by simp; lia)]
    have H : ∀ m₀ : M, m₀.outcome = none → m₀.frames = [] → ∃ m', Comes 30 (m₀.say false) m' ∧ Found (isEol x) (eolLen x) s m' := fun m₀ h1 h2 => by
      obtain ⟨m', c, o⟩ := say_fail m₀ h1 h2
      exact ⟨m', c.mono (by lia), .inr ⟨fun k hk => by unfold isEol; rw [decide_eq_false (by lia)]; simp, o⟩⟩
    exact H _ rfl rfl
  · rw [if_neg (by simp; lia)]
    suffices H : ∀ m₀ : M, Ax codeE x s 10 s [] none 0 m₀ → ∃ m', Comes 30 (m₀.attemptFrom s true) m' ∧ Found (isEol x) (eolLen x) s m' from
      H _ ⟨rfl, rfl, rfl, rfl, rfl, rfl, rfl, rfl, rfl, rfl, rfl, Nat.le_refl _, rfl, rfl, nofun, nomem⟩
    intro m₀ a
    unfold M.attemptFrom
    rw [hasFirst_E a.code]
    simp only [Bool.not_true, Bool.false_eq_true, if_false]
    rcases admitted_E a.code a.text a.lim (m₀.lim + 1 - s) s m₀.seen (by rw [a.lim]; lia) with ⟨s', sn', h1, h2, h3, h4⟩ | ⟨h1, sn', h2⟩
    · rw [h4]
      have a' : Ax codeE x s 10 s [] none 0 { m₀ with mustAdvance := false, seen := sn' } := ⟨a.code, a.text, a.lim, a.start, a.last, a.whole, rfl, a.pc, a.pos, a.inner, a.frames, a.weight, a.outcome, a.answer, a.handed, a.kept⟩
      obtain ⟨g, g1, g2, g3, a₂⟩ := a'.attemptAt s' true
      obtain ⟨m', c, o1, o2, o3⟩ := eol_run h2 g1 a₂
      exact ⟨m', c.mono (by lia), .inl ⟨s', h1, h2, h3, o1, o2, o3⟩⟩
    · rw [h2]
      obtain ⟨m', c, o⟩ := say_fail { m₀ with seen := sn' } a.outcome a.frames
      exact ⟨m', c.mono (by lia), .inr ⟨h1, o⟩⟩
theorem none_search {x : Array Nat} (hx : ∀ k, k < x.size → x.getD k 0 ≠ 38 ∧ x.getD k 0 ≠ 124 ∧ x.getD k 0 ≠ 126) : ∃ m', Comes 3 (forSearch codeF x 1 0 x.size false) m' ∧ m'.outcome = some .failed := by
  unfold forSearch
  simp only [show (header codeF).1 = 1 from rfl, show (header codeF).2 = 15 from rfl]
  have fails : ∀ m₀ : M, m₀.outcome = none → m₀.frames = [] → ∃ m', Comes 3 (m₀.say false) m' ∧ m'.outcome = some .failed := fun m₀ h1 h2 => by
    obtain ⟨m', c, o⟩ := say_fail m₀ h1 h2
    exact ⟨m', c.mono (by lia), o⟩
  by_cases h : x.size = 0
  · rw [if_pos (by rw [Bool.or_eq_true]; exact .inr (decide_eq_true (by lia)))]
    exact fails _ rfl rfl
  · rw [if_neg (by rw [Bool.or_eq_true]; rintro (q | q) <;> (have := of_decide_eq_true q; lia))]
    suffices H : ∀ m₀ : M, m₀.code = codeF → m₀.text = x → m₀.lim = x.size → m₀.outcome = none → m₀.frames = [] → ∃ m', Comes 3 (m₀.attemptFrom 0 true) m' ∧ m'.outcome = some .failed from H _ rfl rfl rfl rfl rfl
    intro m₀ h1 h2 h3 h4 h5
    unfold M.attemptFrom
    rw [hasFirst_F h1]
    simp only [Bool.not_true, Bool.false_eq_true, if_false]
    obtain ⟨sn', e⟩ := admitted_F h1 h2 hx h3 (m₀.lim + 1 - 0) 0 m₀.seen
    rw [e]
    exact fails { m₀ with seen := sn' } h4 h5
end
section
open PySem PySem.Sre PySem.W PyProof.Rows PySem.Calls PySem.Builtin.Re
set_option maxRecDepth 100000
set_option maxHeartbeats 1000000
theorem Comes.exact {k : Nat} {m m' : M} (h : Comes k m m') (o : m'.outcome.isSome = true) : M.runFor k m = m' := by
  obtain ⟨j, hj, e⟩ := h
  obtain ⟨d, rfl⟩ : ∃ d, k = j + d := ⟨k - j, by lia⟩
  rw [runFor_add, e, runFor_out o]
section
variable {Mo : Model} {A : Around} {E : Value → Shared → Prop} {s : Shared}
theorem wp_drive {m' : M} {Q : M → Shared → Prop} (o : m'.outcome.isSome = true) (h : Q m' s) : ∀ (turns k : Nat) (m : M), M.runFor k m = m' → k ≤ 4 * turns → 0 < turns → wpAny Mo A (reDrive turns m) Q E s := by
  intro turns
  induction turns with
  | zero => intro k m _ _ h; exact absurd h (Nat.lt_irrefl _)
  | succ turns ih =>
    intro k m hk hle _
    by_cases ho : (M.runFor reTurnSteps m).outcome.isSome = true
    · first | ((refine wpIfT ?hwi ?_); (case hwi => exact ho)) | rw [if_pos ho]
      refine wpAny_pure ?_
      have : M.runFor reTurnSteps m = m' := by
        by_cases h4 : k ≤ 4
        · obtain ⟨d, hd⟩ : ∃ d, reTurnSteps = k + d := ⟨4 - k, by show 4 = _; lia⟩
          rw [hd, runFor_add, hk, runFor_out o]
        · obtain ⟨d, hd⟩ : ∃ d, k = reTurnSteps + d := ⟨k - 4, by show k = 4 + _; lia⟩
          rw [hd, runFor_add, runFor_out ho] at hk
          exact hk
      rw [this]; exact h
    · first | ((refine wpIfF ?hwi ?_); (case hwi => exact ho)) | rw [if_neg ho]
      have h4 : ¬ k ≤ 4 := fun h4 => ho (by
        obtain ⟨d, hd⟩ : ∃ d, reTurnSteps = k + d := ⟨4 - k, by show 4 = _; lia⟩
        rw [hd, runFor_add, hk, runFor_out o]; exact o)
      obtain ⟨d, hd⟩ : ∃ d, k = reTurnSteps + d := ⟨k - 4, by show k = 4 + _; lia⟩
      have hd' : k = 4 + d := hd
      rw [hd, runFor_add] at hk
      exact wpAny_bind (wpAny_rule (ih d _ hk (by lia) (by lia)))
theorem wp_toEnd {m m' : M} {k : Nat} {Q : Option M → Shared → Prop} (hc : Comes k m m') (hk : k ≤ 1000000000) (h : (m'.outcome = some .matched ∧ Q (some m') s) ∨ (m'.outcome = some .failed ∧ Q none s)) : wpAny Mo A (reRunToEnd m) Q E s := by
  have o : m'.outcome.isSome = true := by rcases h with h | h <;> rw [h.1] <;> rfl
  unfold reRunToEnd
  refine wpAny_bind (wp_drive o ?_ _ k m (hc.exact o) (Nat.le_trans hk (by decide)) (by decide))
  have loop : ∀ (l : List Nat) (Q' : PUnit → Shared → Prop), Q' PUnit.unit s → wpAny Mo A (forIn l PUnit.unit fun i _ => do
      if m'.seen.has i = true then do
        rule (names.getD i "")
        pure (ForInStep.yield PUnit.unit)
      else pure (ForInStep.yield PUnit.unit)) Q' E s := by
    intro l Q' hq
    induction l with
    | nil => exact wpAny_pure hq
    | cons i l ih =>
      rw [List.forIn_cons]
      refine wpAny_bind ?_
      split
      · exact wpAny_bind (wpAny_rule (wpAny_pure ih))
      · exact wpAny_pure ih
  refine wpAny_bind (loop _ _ ?_)
  rcases h with h | h
  · rw [h.1]; exact wpAny_pure h.2
  · rw [h.1]; exact wpAny_pure h.2
end
end
section
open PySem PySem.Sre PySem.W PyProof.Rows PySem.Calls PySem.Builtin.Re PySem.Builtin
set_option maxRecDepth 100000
set_option maxHeartbeats 1000000
theorem entry_sub_loop : entryFor table "re.Pattern.sub.loop" = some Builtin.«re.Pattern.sub.loop» := entryFor_of_tree (by kernel_rfl)
theorem entry_sub : entryFor table "re.Pattern.sub" = some Builtin.«re.Pattern.sub» := entryFor_of_tree (by kernel_rfl)
theorem slot_sub : Slot "re.Pattern" "sub" "re.Pattern.sub" :=
  .of (owner := "re.Pattern") (n := "sub") (by rw [typeLookup_type, builtinLookup_eq_fast]; kernel_rfl) (by decide +kernel) (by decide +kernel) (by decide +kernel)
    (by first | exact .inl (by decide +kernel) | exact .inr (by decide +kernel)) (by rw [isSubtype_type]; kernel_rfl)
theorem type_sub : typeOf (.builtin "re.Pattern.sub") = pure (.type "method_descriptor") := by show builtinType _ = _; rw [builtinType_eq_fast]; kernel_rfl
theorem plain_sub : PlainAttrs "re.Pattern" := ⟨⟨"object.__getattribute__", by rw [typeLookup_type, builtinLookup_eq_fast]; kernel_rfl, by decide +kernel⟩, by rw [typeLookup_type, builtinLookup_eq_fast]; kernel_rfl⟩
theorem args_sub (a b c : Value) : argsOk "re.Pattern.sub" ⟨[a, b, c], []⟩ := by
  unfold argsOk; kernel_rfl
theorem quiet_loop (args : Args) : (Code.builtin "re.Pattern.sub.loop" args).quiet = true := plainId_quiet (by decide +kernel) args
theorem str_no_call : typeLookup (.type "str") "__call__" = pure none := by rw [typeLookup_type, builtinLookup_eq_fast]; kernel_rfl

noncomputable abbrev patObj (pv fl : Value) (g : Nat) (C : Addr) (kd : Nat) : Obj := { cls := .type "re.Pattern", data := .fields #[pv, fl, .int g 0, .none, .none, .ref C, .int kd 0] }
structure IsPat (h : Heap) (P : Addr) (code : Array Nat) (g kd : Nat) : Prop where
  obj : ∃ pv fl C vs n, h.get? P = some (patObj pv fl g C kd) ∧ h.get? C = some { cls := .type "tuple", data := .seq vs n } ∧ (vs.map reRawOf).map (·.toNat) = code
theorem IsPat.keeps {h h' : Heap} {P : Addr} {code : Array Nat} {g kd : Nat} (x : IsPat h P code g kd) (k : ∀ b o, h.get? b = some o → h'.get? b = some o) : IsPat h' P code g kd := by
  obtain ⟨pv, fl, C, vs, n, a, b, c⟩ := x
  exact ⟨pv, fl, C, vs, n, k _ _ a, k _ _ b, c⟩
section
variable {prog : Program} {w : World} {A : Around} {E : Value → Shared → Prop} {s : Shared}
theorem whole_str {P : Addr} {code : Array Nat} {g : Nat} {x : Str} {t : Tok} {Q : ReTarget → Shared → Prop} (H : IsPat s.heap P code g 0)
    (h : Q { pattern := .ref P, string := .str x t, code := code, text := x.cps, kind := 0, groups := g, pos := 0, lim := x.cps.size } s) : wpAny (model prog w) A (reWholeTarget (.ref P) (.str x t)) Q E s := by
  obtain ⟨pv, fl, C, vs, n, a, b, c⟩ := H
  unfold reWholeTarget
  refine wpAny_bind (wpAny_fieldsOf a rfl ?_)
  have e : reTextOf (.str x t) = pure (x.cps, 0) := rfl
  rw [e]
  refine wpAny_bind (wpAny_pure ?_)
  dsimp only
  have e1 : reRawNat ((#[pv, fl, .int g 0, .none, .none, .ref C, .int (0 : Nat) 0] : Array Value).getD 6 .none) = 0 := rfl
  rw [e1]
  simp only [beq_self_eq_true, Bool.true_and, show ((0 : Nat) == 1) = false from rfl, Bool.false_and, Bool.false_eq_true, if_false]
  refine wpAny_bind (wpAny_pure ?_)
  have e3 : (#[pv, fl, .int g 0, .none, .none, .ref C, .int (0 : Nat) 0] : Array Value).getD 5 .none = .ref C := rfl
  have e4 : reRawNat ((#[pv, fl, .int g 0, .none, .none, .ref C, .int (0 : Nat) 0] : Array Value).getD 2 .none) = g := rfl
  rw [e3, e4]
  unfold reRawItems
  refine wpAny_bind (wpAny_bind (wpAny_seqItems b rfl (wpAny_pure ?_)))
  simp only [Option.getD_some, c]
  exact wpAny_pure h
theorem slice_str {x : List Nat} {b e : Nat} {Q : Value → Shared → Prop} (hx : x.length ≤ 16777216) (h : ∀ t, Q (.str (S ((x.drop b).take (e - b))) t) { s with toks := s.toks + 1 }) : wpAny (model prog w) A (reSlice (S x).cps 0 b e) Q E s := by
  unfold reSlice
  simp only [beq_self_eq_true, if_true]
  have e1 : (⟨(S x).cps.extract b e⟩ : Str) = S ((x.drop b).take (e - b)) := by simp [S, List.extract_toArray]
  rw [e1]
  exact wpAny_mkStr (h _) (by rw [S_len, sizeLine_eq]; simp only [List.length_take, List.length_drop]; exact Nat.le_trans (Nat.min_le_right _ _) (Nat.le_trans (Nat.sub_le _ _) hx))

/-- what is left of the text behind q: r, its texts -/
structure Subs (x : List Nat) (code : Array Nat) (g : Nat) (p : Nat → Bool) (len : Nat → Nat) (rep : List Nat) (F : Nat → List Nat) : Prop where
  search : ∀ q, q ≤ x.length → ∃ m' k, k ≤ 1000000000 ∧ Comes k (forSearch code (S x).cps g q x.length false) m' ∧ Found p len q m'
  lens : ∀ q, p q = true → 1 ≤ len q ∧ q + len q ≤ x.length
  hit : ∀ q q', q ≤ q' → p q' = true → (∀ k, q ≤ k → k < q' → p k = false) → F q = (x.drop q).take (q' - q) ++ rep ++ F (q' + len q')
  none : ∀ q, q ≤ x.length → (∀ k, q ≤ k → p k = false) → F q = x.drop q

variable {h₀ : Heap} {L D P : Addr} {m : Str → Option Value} {led : List (Addr × Obj)} {x rep : List Nat} {code : Array Nat} {g : Nat} {p : Nat → Bool} {len : Nat → Nat} {F : Nat → List Nat}
theorem push_obj (ys : List Value) (n : Nat) (v : Value) : Obj.mapSeq (fun a => a.push v) (listOf ys.toArray n) = listOf (ys ++ [v]).toArray (n + 1) := by
  have e1 : ys.toArray.push v = (ys ++ [v]).toArray := by simp
  have e2 : ((ys ++ [v]).toArray.size == ys.toArray.size) = false := by simp
  show (⟨_, _, .seq (ys.toArray.push v) (if (ys.toArray.push v).size == ys.toArray.size then n else n + 1), _⟩ : Obj) = _
  rw [e1, e2]
  rfl
theorem push_led {h : Heap} {ys : List Value} {n : Nat} (F' : Fr h₀ L h m) (N : News h₀ L h ((D, listOf ys.toArray n) :: led)) (hne : ∀ p ∈ led, p.1 ≠ D) (v : Value) :
    Fr h₀ L (h.update D (Obj.mapSeq fun a => a.push v)) m ∧ News h₀ L (h.update D (Obj.mapSeq fun a => a.push v)) ((D, listOf (ys ++ [v]).toArray (n + 1)) :: led) := by
  have z := push_obj ys n v
  generalize listOf ys.toArray n = o at N z
  have hf : (listOf (ys ++ [v]).toArray (n + 1)).isFreed = false := rfl
  generalize listOf (ys ++ [v]).toArray (n + 1) = o' at z hf ⊢
  generalize (Obj.mapSeq fun a => a.push v) = f at z ⊢
  exact news_upd (pre := []) (post := led) (d := D) (o := o) (o' := o') (f := f) F' N (fun _ h => nomatch h) hne z hf
theorem upd_led {h : Heap} {ys : List Value} {n : Nat} {v : Value} {Q : Unit → Shared → Prop} (hs : s.heap = h) (N : News h₀ L h ((D, listOf ys.toArray n) :: led)) (hz : ys.length < 16777216)
    (h' : Q () { s with heap := h.update D (Obj.mapSeq fun a => a.push v) }) : wpAny (model prog w) A (updateSeq D fun a => a.push v) Q E s := by
  subst hs
  exact wpAny_updateSeq (N _ (.head _)).1 rfl h' (by rw [List.size_toArray, sizeLine_eq]; lia) (by simp only [Array.size_push, List.size_toArray, sizeLine_eq]; lia)
end
end
section
open PySem PySem.Sre PySem.W PyProof.Rows PySem.Calls PySem.Builtin.Re PySem.Builtin
set_option maxRecDepth 100000
set_option maxHeartbeats 1000000
section
variable {prog : Program} {w : World} {E : Value → Shared → Prop} {s : Shared}
variable {h₀ : Heap} {L D P : Addr} {m : Str → Option Value} {led : List (Addr × Obj)} {x rep : List Nat} {code : Array Nat} {g : Nat} {p : Nat → Bool} {len : Nat → Nat} {F : Nat → List Nat}
theorem dat_snoc {ys : List Value} {ts : List (List Nat)} (h : DatAll [] ys (ts.map fun t => .str (S t))) (t : List Nat) (u : Tok) : DatAll [] (ys ++ [.str (S t) u]) ((ts ++ [t]).map fun t => .str (S t)) := by
  rw [List.map_append]
  exact h.append (.one (.str _ _))
theorem sub_loop {A : Around} {R : Result → Shared → Prop} (H : Subs x code g p len rep F) (hx : x.length ≤ 100000) (hP : IsPat h₀ P code g 0) (hF : (F 0).length ≤ 16777216) (tx tr : Tok) (hne : ∀ p ∈ led, p.1 ≠ D)
    (hR : ∀ t h' tk', Fr h₀ L h' m → News h₀ L h' led → R (.ok (.ret (.str (S (F 0)) t))) { s with heap := h', toks := tk' }) :
    ∀ (n q : Nat) (h : Heap) (tk : Nat) (ys : List Value) (ts : List (List Nat)) (nn : Nat) (cnt : Int), x.length - q < n → q ≤ x.length → Fr h₀ L h m → News h₀ L h ((D, listOf ys.toArray nn) :: led) →
      DatAll [] ys (ts.map fun t => .str (S t)) → ts.flatten ++ F q = F 0 → ts.length ≤ 2 * q →
      codeAny (model prog w) A (.builtin "re.Pattern.sub.loop" ⟨[.ref P, .str (S x) tx, .str (S rep) tr, rawInt 0, rawInt 0, rawInt cnt, rawInt q, rawInt q, .bool false, .ref D, .bool false], []⟩) R { s with heap := h, toks := tk } := by
  intro n
  induction n with
  | zero =>
    intro q h tk ys ts nn cnt hn hq Fr' N hd hout hlen
    lia
  | succ n ih =>
    intro q h tk ys ts nn cnt hn hq Fr' N hd hout hlen
    refine codeAny_builtin entry_sub_loop ?_
    unfold Builtin.«re.Pattern.sub.loop»
    dsimp only [rawInt]
    refine wpAny_bind (whole_str (hP.keeps Fr'.keep) ?_)
    simp -iota only [beq_self_eq_true, if_true, bne_self_eq_false, Bool.false_and, Bool.false_eq_true, if_false]
    have e0 : reLiteralCannotBeTurned (.str (S rep) tr) = pure () := rfl
    rw [e0]
    refine wpAny_bind (wpAny_pure ?_)
    unfold reNextFound
    dsimp only
    have hsz : (S x).cps.size = x.length := by simp [S]
    obtain ⟨m', k, hk, hc, hfound⟩ := H.search q hq
    rw [hsz, Int.toNat_natCast]
    refine wpAny_bind (wp_toEnd hc hk ?_)
    rcases hfound with ⟨q', h1, h2, h3, h4, h5, h6⟩ | ⟨h1, h2⟩
    · refine .inl ⟨h4, ?_⟩
      refine el2 (H.lens q' h2) fun l1 l2 => ?_
      have hF' := H.hit q q' h1 h2 h3
      have end_ : ∀ (h : Heap) (tk : Nat) (ys : List Value) (ts : List (List Nat)) (nn : Nat), Fr h₀ L h m → News h₀ L h ((D, listOf ys.toArray nn) :: led) → DatAll [] ys (ts.map fun t => .str (S t)) → ts.flatten ++ rep ++ F (q' + len q') = F 0 → ts.length ≤ 2 * q + 1 → ys.length ≤ 2 * q + 1 → ∀ (A' : Around),
          wpAny (model prog w) A' (do
            updateSeq D fun x => x.push (.str (S rep) tr)
            again (.builtin "re.Pattern.sub.loop" ⟨[.ref P, .str (S x) tx, .str (S rep) tr, .int 0 0, .int 0 0, .int (cnt + 1) 0, .int m'.handed 0, .int m'.handed 0, .bool (m'.handed == q'), .ref D, .bool false], []⟩))
            (fun fin s' => match fin with | .done f => R (.ok f) s' | .again c' => c'.quiet = true ∧ codeAny (model prog w) A c' R s') (fun e s' => R (.error e) s') { s with heap := h, toks := tk } := by
        intro h tk ys ts nn F₁ N₁ hd₁ hout₁ hlen₁ hlen₂ A'
        refine el2 (push_led F₁ N₁ hne (.str (S rep) tr)) fun F₂ N₂ => ?_
        refine wpAny_bind (upd_led (h := h) rfl N₁ (by lia) (wpAny_pure ⟨quiet_loop _, ?_⟩))
        rw [h6, show (q' + len q' == q') = false by simp; lia]
        exact ih (q' + len q') _ tk _ (ts ++ [rep]) _ (cnt + 1) (by lia) l2 F₂ N₂ (dat_snoc hd₁ rep tr) (by rw [List.flatten_append]; simpa using hout₁) (by rw [List.length_append]; simp; lia)
      have hyl : ys.length = ts.length := by have := hd.length; rwa [List.length_map] at this
      dsimp only
      rw [h5]
      by_cases hlt : q < q'
      · first | ((with_reducible refine wpIfT ?hwi ?_); (case hwi => exact hlt)) | rw [if_pos hlt]
        refine wpAny_bind (slice_str (by first | (clear end_; lia) | lia) fun t => ?_)
        refine el2 (push_led Fr' N hne (.str (S ((x.drop q).take (q' - q))) t)) fun F₂ N₂ => ?_
        refine wpAny_bind (upd_led (h := h) rfl N (by first | (clear end_; lia) | lia) (wpAny_bind (wpAny_pure ?_)))
        first | ((with_reducible refine wpIfT ?hwi ?_); (case hwi => exact (show (Value.str (S rep) tr != Value.none) = true from rfl))) | rw [if_pos (show (Value.str (S rep) tr != Value.none) = true from rfl)]
        refine end_ _ _ _ (ts ++ [(x.drop q).take (q' - q)]) _ F₂ N₂ (dat_snoc hd _ t) ?_ (by clear end_; rw [List.length_append]; simp; lia) (by clear end_; rw [List.length_append]; simp; lia) _
        rw [List.flatten_append, ← hout, hF']
        simp
      · have e : q' = q := by clear end_; lia
        first | ((with_reducible refine wpIfF ?hwi ?_); (case hwi => exact hlt)) | rw [if_neg hlt]
        refine wpAny_bind (wpAny_pure ?_)
        first | ((with_reducible refine wpIfT ?hwi ?_); (case hwi => exact (show (Value.str (S rep) tr != Value.none) = true from rfl))) | rw [if_pos (show (Value.str (S rep) tr != Value.none) = true from rfl)]
        refine end_ _ _ _ ts _ Fr' N hd ?_ (by first | (clear end_; lia) | lia) (by first | (clear end_; lia) | lia) _
        rw [← hout, hF', e]
        simp
    · refine .inr ⟨h2, ?_⟩
      have hFn := H.none q hq h1
      have hyl : ys.length = ts.length := by have := hd.length; rwa [List.length_map] at this
      dsimp only
      have end_ : ∀ (h : Heap) (tk : Nat) (ys : List Value) (ts : List (List Nat)) (nn : Nat), Fr h₀ L h m → News h₀ L h ((D, listOf ys.toArray nn) :: led) → DatAll [] ys (ts.map fun t => .str (S t)) → ts.flatten = F 0 → ∀ (A' : Around),
          wpAny (model prog w) A' (do
            let joiner ← reSlice (S x).cps 0 0 0
            let a ← seqItems? (.ref D)
            if (a.getD #[]).isEmpty = true then (do
              let b ← pure joiner
              ret b) else (do
              let b ← call (.builtin "str.join") [joiner, .ref D]
              ret b))
            (fun fin s' => match fin with | .done f => R (.ok f) s' | .again c' => c'.quiet = true ∧ codeAny (model prog w) A c' R s') (fun e s' => R (.error e) s') { s with heap := h, toks := tk } := by
        intro h tk ys ts nn F₁ N₁ hd₁ hout₁ A'
        refine wpAny_bind (slice_str (by first | (clear end_; lia) | lia) fun t => ?_)
        refine wpAny_bind (wpAny_seqItems (N₁ _ (.head _)).1 rfl ?_)
        simp -iota only [Option.getD_some]
        cases ys with
        | nil =>
          cases ts with
          | nil =>
            first | ((with_reducible refine wpIfT ?hwi ?_); (case hwi => exact (by rfl))) | rw [if_pos (by rfl)]
            refine wpAny_bind (wpAny_pure (wpAny_pure ?_))
            have e : S ((x.drop 0).take (0 - 0)) = S (F 0) := by rw [← hout₁]; rfl
            rw [e]
            exact hR _ _ _ F₁ (news_sub N₁ fun p hp => .tail _ hp)
          | cons t ts => cases hd₁
        | cons y ys =>
          first | ((with_reducible refine wpIfF ?hwi ?_); (case hwi => exact (by simp))) | rw [if_neg (by simp)]
          have e : S ((x.drop 0).take (0 - 0)) = S [] := rfl
          rw [e]
          refine wpAny_bind (join0_S N₁ (.head _) hd₁ (by rw [hout₁]; exact hF) fun t' k => wpAny_pure ?_)
          rw [hout₁]
          exact hR _ _ _ F₁ (news_sub N₁ fun p hp => .tail _ hp)
      by_cases hlt : q < x.length
      · first | ((with_reducible refine wpIfT ?hwi ?_); (case hwi => exact hlt)) | rw [if_pos hlt]
        refine wpAny_bind (slice_str (by first | (clear end_; lia) | lia) fun t => ?_)
        refine el2 (push_led Fr' N hne (.str (S ((x.drop q).take (x.length - q))) t)) fun F₂ N₂ => ?_
        refine wpAny_bind (upd_led (h := h) rfl N (by first | (clear end_; lia) | lia) ?_)
        refine end_ _ _ _ (ts ++ [(x.drop q).take (x.length - q)]) _ F₂ N₂ (dat_snoc hd _ t) ?_ _
        rw [List.flatten_append, ← hout, hFn]
        simp [List.take_of_length_le]
      · first | ((with_reducible refine wpIfF ?hwi ?_); (case hwi => exact hlt)) | rw [if_neg hlt]
        refine end_ _ _ _ ts _ Fr' N hd ?_ _
        rw [← hout, hFn, List.drop_of_length_le (by first | (clear end_; lia) | lia)]
        simp
theorem named_sub (a b : Value) : reNamed "re.Pattern.sub" "sub" ["repl", "string", "count"] 2 [a, b] [] = pure [some a, some b, none] := by kernel_rfl
theorem no92 {rep : List Nat} (h : rep.contains 92 = false) : (S rep).cps.contains 92 = false := by
  simpa [S] using h
theorem call_sub_str {A : Around} {Q : Value → Shared → Prop} (H : Subs x code g p len rep F) (hx : x.length ≤ 100000) (hP : IsPat h₀ P code g 0) (hF : (F 0).length ≤ 16777216) (hrep : rep.contains 92 = false) (tx tr : Tok)
    (Fr' : Fr h₀ L s.heap m) (N : News h₀ L s.heap led)
    (hQ : ∀ t h' tk', Fr h₀ L h' m → News h₀ L h' led → Q (.str (S (F 0)) t) { s with heap := h', toks := tk' }) :
    wpAny (model prog w) A (call (.builtin "re.Pattern.sub") [.ref P, .str (S rep) tr, .str (S x) tx]) Q E s := by
  obtain ⟨pv, fl, C, vs, n, oP, oC, hcode⟩ := hP.keeps Fr'.keep
  have hT : s.TypeIs (.ref P) "re.Pattern" := ⟨_, oP, rfl⟩
  refine wpAny_call (codeAny_call_builtin slot_sub.plain entry_sub (slot_sub.check _ _ _ _ _ _ _ _ hT (args_sub _ _ _) ?_))
  unfold Builtin.«re.Pattern.sub» reSubstitute
  dsimp only
  rw [named_sub]
  refine wpAny_bind (wpAny_pure ?_)
  dsimp only
  refine wpAny_bind (wpAny_pure ?_)
  refine wpAny_bind (wpAny_specialOf (typeIs_str _ _ _) str_no_call ?_)
  simp -iota only [Option.isSome_none, Bool.false_eq_true, if_false]
  try dsimp only
  have e1 : asStr? (.str (S rep) tr) = pure (some (S rep)) := rfl
  rw [e1]
  refine wpAny_bind (wpAny_pure ?_)
  try dsimp only
  simp -iota only [no92 hrep, Bool.not_false]
  try dsimp only
  refine wpAny_bind (wpAny_pure ?_)
  try simp -iota only [if_true]
  try dsimp only
  refine wpAny_bind (wpAny_pure ?_)
  dsimp only
  refine wpAny_bind (wpAny_holding (whole_str (hP.keeps Fr'.keep) ?_))
  first | ((with_reducible refine wpIfF ?hwi ?_); (case hwi => exact (by decide))) | rw [if_neg (by decide)]
  refine wpAny_bind (newList_N Fr' N (fun h₁ F₁ N₁ => ?_) (by rw [List.length_nil, sizeLine_eq]; lia))
  have hnew : ∀ p ∈ led, p.1 ≠ s.heap.objs.size := fun p hp => Nat.ne_of_lt (Heap.lt_size (N p hp).1)
  refine wpAny_pure ⟨quiet_loop _, ?_⟩
  exact sub_loop (D := s.heap.objs.size) (R := fun r s' => match r with | .ok (.ret v) => Q v s' | .ok _ => False | .error e => E e s') H hx hP hF tx tr hnew (fun t h' tk' F' N' => hQ t h' tk' F' N') (x.length + 1) 0 h₁ s.toks [] [] 0 0 (by lia) (by lia) F₁ N₁ .nil rfl (by simp)
end
end
section
open PySem PySem.Sre PySem.W PyProof.Rows PySem.Calls PySem.Builtin.Re PySem.Builtin
set_option maxRecDepth 100000
set_option maxHeartbeats 1000000
/-- every line end becomes a return and a line feed -/
noncomputable def fixE : List Nat → List Nat
  | [] => []
  | [c] => if c = 10 ∨ c = 13 then [13, 10] else [c]
  | c :: d :: r => if c = 13 ∧ d = 10 then 13 :: 10 :: fixE r else (if c = 10 ∨ c = 13 then [13, 10] else [c]) ++ fixE (d :: r)
theorem fixE_e1 : fixE [] = [] := rfl
theorem fixE_e2 {c : Nat} : fixE [c] = if c = 10 ∨ c = 13 then [13, 10] else [c] := rfl
theorem fixE_e3 {c d : Nat} {r : List Nat} : fixE (c :: d :: r) = if c = 13 ∧ d = 10 then 13 :: 10 :: fixE r else (if c = 10 ∨ c = 13 then [13, 10] else [c]) ++ fixE (d :: r) := rfl
/-- a dot that opens a line (b: a line opens here) is doubled -/
noncomputable def dots : Bool → List Nat → List Nat
  | _, [] => []
  | b, c :: r => (if b && c == 46 then [46, 46] else [c]) ++ dots (c == 10) r
theorem dots_e1 {b : Bool} : dots b [] = [] := rfl
theorem dots_e2 {b : Bool} {c : Nat} {r : List Nat} : dots b (c :: r) = (if b && c == 46 then [46, 46] else [c]) ++ dots (c == 10) r := rfl

theorem S_size (x : List Nat) : (S x).cps.size = x.length := by simp [S]
theorem S_getD (x : List Nat) (k : Nat) : (S x).cps.getD k 0 = x.getD k 0 := by simp [S, Array.getD_eq_getD_getElem?, List.getD_eq_getElem?_getD]
theorem drop_get {x : List Nat} {q : Nat} (h : q < x.length) : x.drop q = x.getD q 0 :: x.drop (q + 1) := by
  rw [List.drop_eq_getElem_cons h, List.getD_eq_getElem?_getD, List.getElem?_eq_getElem h]; rfl
theorem isEol_S (x : List Nat) (q : Nat) : isEol (S x).cps q = (decide (q < x.length) && (x.getD q 0 == 10 || x.getD q 0 == 13)) := by
  unfold isEol; rw [S_size, S_getD]
theorem isDot_S (x : List Nat) (q : Nat) : isDot (S x).cps q = ((q == 0 || x.getD (q - 1) 0 == 10) && (decide (q < x.length) && x.getD q 0 == 46)) := by
  unfold isDot; rw [S_size, S_getD, S_getD]
theorem eolLen_S (x : List Nat) (q : Nat) : eolLen (S x).cps q = if x.getD q 0 = 13 ∧ q + 1 < x.length ∧ x.getD (q + 1) 0 = 10 then 2 else 1 := by
  unfold eolLen; rw [S_size, S_getD, S_getD]
theorem fixE_skip {c : Nat} {r : List Nat} (h1 : c ≠ 10) (h2 : c ≠ 13) : fixE (c :: r) = c :: fixE r := by
  cases r with
  | nil => simp [fixE_e1, fixE_e2, fixE_e3, h1, h2]
  | cons d r => simp [fixE_e1, fixE_e2, fixE_e3, h1, h2]
theorem fixE_none : ∀ (r : List Nat), (∀ c ∈ r, c ≠ 10 ∧ c ≠ 13) → fixE r = r
  | [], _ => rfl
  | c :: r, h => by
    rw [fixE_skip (h c (.head _)).1 (h c (.head _)).2, fixE_none r fun d hd => h d (.tail _ hd)]
theorem subsE {x : List Nat} (hx : x.length ≤ 100000) : Subs x codeE 0 (isEol (S x).cps) (eolLen (S x).cps) [13, 10] (fun q => fixE (x.drop q)) where
  search := fun q hq => by
    obtain ⟨m', c, f⟩ := eol_search (x := (S x).cps) q (by rw [S_size]; exact hq)
    rw [S_size] at c
    exact ⟨m', 30, by lia, c, f⟩
  lens := fun q hq => by
    rw [isEol_S, Bool.and_eq_true] at hq
    have := of_decide_eq_true hq.1
    rw [eolLen_S]
    split <;> lia
  hit := fun q q' hle hp hn => by
    obtain ⟨n, hn'⟩ : ∃ n, n = q' - q := ⟨_, rfl⟩
    induction n generalizing q with
    | zero =>
      have e : q = q' := by lia
      subst e
      rw [isEol_S, Bool.and_eq_true] at hp
      have hlt := of_decide_eq_true hp.1
      have hc : x.getD q 0 = 10 ∨ x.getD q 0 = 13 := by simpa using hp.2
      rw [Nat.sub_self, List.take_zero, List.nil_append, eolLen_S, drop_get hlt]
      by_cases h2 : q + 1 < x.length
      · rw [drop_get h2]
        show (if _ then _ else _) = _
        by_cases h3 : x.getD q 0 = 13 ∧ x.getD (q + 1) 0 = 10
        · rw [if_pos h3, if_pos ⟨h3.1, h2, h3.2⟩]; rfl
        · rw [if_neg h3, if_pos hc, if_neg (fun z : x.getD q 0 = 13 ∧ q + 1 < x.length ∧ x.getD (q + 1) 0 = 10 => h3 ⟨z.1, z.2.2⟩), ← drop_get h2]
      · rw [if_neg fun z => h2 z.2.1, List.drop_of_length_le (by lia)]
        show (if _ then _ else _) = _
        rw [if_pos hc]; rfl
    | succ n ih =>
      have hlt : q < q' := by lia
      rw [isEol_S, Bool.and_eq_true] at hp
      have hlt' := of_decide_eq_true hp.1
      have h0 := hn q (Nat.le_refl _) hlt
      rw [isEol_S, decide_eq_true (by lia), Bool.true_and, Bool.or_eq_false_iff] at h0
      have h1 : x.getD q 0 ≠ 10 := by simpa using h0.1
      have h2 : x.getD q 0 ≠ 13 := by simpa using h0.2
      have e : q' - q = (q' - (q + 1)) + 1 := by lia
      have ih' := ih (q + 1) (by lia) (fun k a b => hn k (by lia) b) (by lia)
      rw [drop_get (by lia : q < x.length), fixE_skip h1 h2, ih', e, List.take_succ_cons]
      rfl
  none := fun q hq hn => by
    refine fixE_none _ fun c hc => ?_
    obtain ⟨i, hi, rfl⟩ := List.getElem_of_mem hc
    rw [List.length_drop] at hi
    have h0 := hn (q + i) (by lia)
    rw [isEol_S, decide_eq_true (by lia), Bool.true_and, Bool.or_eq_false_iff, List.getD_eq_getElem?_getD, List.getElem?_eq_getElem (by lia)] at h0
    rw [List.getElem_drop]
    simpa using h0
noncomputable def bol (x : List Nat) (q : Nat) : Bool := q == 0 || x.getD (q - 1) 0 == 10
theorem subsD {x : List Nat} (hx : x.length ≤ 100000) : Subs x codeD 0 (isDot (S x).cps) (fun _ => 1) [46, 46] (fun q => dots (bol x q) (x.drop q)) where
  search := fun q hq => by
    obtain ⟨m', c, f⟩ := dot_search (x := (S x).cps) q (by rw [S_size]; exact hq)
    rw [S_size] at c
    exact ⟨m', _, by lia, c, f⟩
  lens := fun q hq => by
    rw [isDot_S, Bool.and_eq_true, Bool.and_eq_true] at hq
    have := of_decide_eq_true hq.2.1
    lia
  hit := fun q q' hle hp hn => by
    obtain ⟨n, hn'⟩ : ∃ n, n = q' - q := ⟨_, rfl⟩
    have hp' := hp
    rw [isDot_S, Bool.and_eq_true, Bool.and_eq_true] at hp'
    have hlt' := of_decide_eq_true hp'.2.1
    induction n generalizing q with
    | zero =>
      have e : q = q' := by lia
      subst e
      have hc : x.getD q 0 = 46 := by simpa using hp'.2.2
      have hb : bol x q = true := hp'.1
      have hb' : bol x (q + 1) = false := by unfold bol; rw [Nat.add_sub_cancel, hc]; rfl
      rw [Nat.sub_self, List.take_zero, List.nil_append, drop_get hlt', hb, hb', hc]
      rfl
    | succ n ih =>
      have hlt : q < q' := by lia
      have h0 := hn q (Nat.le_refl _) hlt
      rw [isDot_S, decide_eq_true (by lia), Bool.true_and] at h0
      have e : q' - q = (q' - (q + 1)) + 1 := by lia
      have ih' := ih (q + 1) (by lia) (fun k a b => hn k (by lia) b) (by lia)
      have hb' : bol x (q + 1) = (x.getD q 0 == 10) := by unfold bol; rw [Nat.add_sub_cancel]; simp
      have h0' : (bol x q && x.getD q 0 == 46) = false := h0
      rw [drop_get (by lia : q < x.length)]
      show (if (bol x q && x.getD q 0 == 46) = true then _ else _) ++ _ = _
      rw [h0', ← hb', ih', e, List.take_succ_cons]
      rfl
  none := fun q hq hn => by
    obtain ⟨n, hn'⟩ : ∃ n, n = x.length - q := ⟨_, rfl⟩
    induction n generalizing q with
    | zero => rw [List.drop_of_length_le (by lia)]; rfl
    | succ n ih =>
      have h0 := hn q (Nat.le_refl _)
      rw [isDot_S, decide_eq_true (by lia), Bool.true_and] at h0
      have h0' : (bol x q && x.getD q 0 == 46) = false := h0
      have hb' : bol x (q + 1) = (x.getD q 0 == 10) := by unfold bol; rw [Nat.add_sub_cancel]; simp
      rw [drop_get (by lia : q < x.length)]
      show (if (bol x q && x.getD q 0 == 46) = true then _ else _) ++ _ = _
      rw [h0', ← hb', ih (q + 1) (by lia) (fun k a => hn k (by lia)) (by lia)]
      rfl
theorem subsF {x : List Nat} (hx : ∀ c ∈ x, c ≠ 38 ∧ c ≠ 124 ∧ c ≠ 126) : ∃ m', Comes 3 (forSearch codeF (S x).cps 1 0 x.length false) m' ∧ m'.outcome = some .failed := by
  have := none_search (x := (S x).cps) fun k hk => by
    rw [S_size] at hk
    rw [S_getD, List.getD_eq_getElem?_getD, List.getElem?_eq_getElem hk]
    exact hx _ (List.getElem_mem hk)
  rwa [S_size] at this
end
section
open PySem PySem.Sre PySem.W PyProof.Rows PySem.Calls PySem.Builtin.Re PySem.Builtin PySem.W.KBy
set_option maxRecDepth 100000
set_option maxHeartbeats 1000000
section
variable {prog : Program} {w : World} {A : Around} {E : Value → Shared → Prop} {s : Shared}
theorem wp_forIn_range {β : Type} {f : Nat → β → Sem (ForInStep β)} {Q : β → Shared → Prop} (I : Nat → β → Prop) {n : Nat} {b₀ : β} (h0 : I 0 b₀)
    (step : ∀ i b, i < n → I i b → ∀ Q' : ForInStep β → Shared → Prop, (∀ b', I (i + 1) b' → Q' (.yield b') s) → wpAny (model prog w) A (f i b) Q' E s)
    (done : ∀ b, I n b → Q b s) : wpAny (model prog w) A (forIn [0:n] b₀ f) Q E s := by
  rw [Std.Legacy.Range.forIn_eq_forIn_range']
  have key : ∀ (k i : Nat) (b : β), i + k = n → I i b → wpAny (model prog w) A (forIn (List.range' i k) b f) Q E s := by
    intro k
    induction k with
    | zero => intro i b e hi; rw [show i = n by lia] at hi; exact wpAny_pure (done b hi)
    | succ k ih =>
      intro i b e hi
      rw [List.range'_succ, List.forIn_cons]
      exact wpAny_bind (step i b (by lia) hi _ fun b' hb' => ih (i + 1) b' (by lia) hb')
  have := key n 0 b₀ (by lia) h0
  simpa [Std.Legacy.Range.size] using this
noncomputable def Bs (t : List Nat) : Array UInt8 := (t.map (·.toUInt8)).toArray
inductive BAre : List Value → List (Array UInt8) → Prop
  | nil : BAre [] []
  | cons (b : Array UInt8) (t : Tok) {vs : List Value} {bs : List (Array UInt8)} : BAre vs bs → BAre (.bytes b t :: vs) (b :: bs)
theorem BAre.length {vs : List Value} {bs : List (Array UInt8)} (h : BAre vs bs) : vs.length = bs.length := by
  induction h with
  | nil => rfl
  | cons b t _ ih => simp [ih]
theorem BAre.get {vs : List Value} {bs : List (Array UInt8)} (h : BAre vs bs) : ∀ {i : Nat} (_ : i < bs.length), ∃ t, vs[i]? = some (.bytes (bs.getD i #[]) t) := by
  induction h with
  | nil => intro i h; exact absurd h (Nat.not_lt_zero _)
  | cons b t _ ih =>
    intro i h
    cases i with
    | zero => exact ⟨t, rfl⟩
    | succ i => exact ih (Nat.lt_of_succ_lt_succ h)
theorem BAre.snoc {vs : List Value} {bs : List (Array UInt8)} (h : BAre vs bs) (b : Array UInt8) (t : Tok) : BAre (vs ++ [.bytes b t]) (bs ++ [b]) := by
  induction h with
  | nil => exact .cons b t .nil
  | cons c u _ ih => exact .cons c u ih
theorem entry_bjoin : entryFor table "bytes.join" = some Builtin.«bytes.join» := entryFor_of_tree (by kernel_rfl)
theorem slot_bjoin : Slot "bytes" "join" "bytes.join" :=
  .of (owner := "bytes") (n := "join") (by rw [typeLookup_type, builtinLookup_eq_fast]; kernel_rfl) (by decide +kernel) (by decide +kernel) (by decide +kernel)
    (by first | exact .inl (by decide +kernel) | exact .inr (by decide +kernel)) (by rw [isSubtype_type]; kernel_rfl)
theorem args_bjoin (a b : Value) : argsOk "bytes.join" ⟨[a, b], []⟩ := by unfold argsOk; kernel_rfl
theorem takeQuiet_eq {id : String} {b : Array UInt8} {t : Tok} : Bytes.takeBufferQuiet? id (.bytes b t) 0 = pure (some (b, none)) := by
  unfold Bytes.takeBufferQuiet? Bytes.takeBuffer?
  rw [special_eq look_buffer, own_buffer]
  simp -iota only [pure_bind, Bool.not_true, Bool.false_eq_true, if_false]
  dsimp only
  rw [show ((0 : Int) == Bytes.fullReadOnly) = false from by decide, buffer_eq]
  rfl
theorem joined_nil (bs : List (Array UInt8)) : Bytes.joined #[] bs = (bs.map Array.toList).flatten.toArray := by
  unfold Bytes.joined
  have key : ∀ (l : List (Array UInt8)) (k : Nat) (acc : Array UInt8), (l.zipIdx k).foldl (fun out (p, i) => (if i > 0 then out ++ (#[] : Array UInt8) else out) ++ p) acc = acc ++ (l.map Array.toList).flatten.toArray := by
    intro l
    induction l with
    | nil => intro k acc; simp
    | cons b l ih =>
      intro k acc
      rw [List.zipIdx_cons, List.foldl_cons, ih]
      apply Array.ext'
      simp
  rw [key]; simp
theorem wp_joinLetGo {keep : List Value} {Q : Unit → Shared → Prop} (h : Q () s) : ∀ (taken : List (Value × Option Value)), (∀ p ∈ taken, p.2 = none) → wpAny (model prog w) A (Bytes.joinLetGo taken keep) Q E s
  | [], _ => wpAny_pure h
  | (x, o) :: r, hn => by
    have : o = none := hn _ (.head _)
    subst this
    exact wpAny_bind (wpAny_letGo (wp_joinLetGo h r fun p hp => hn p (.tail _ hp)))
theorem m1_one {α : Type} (x : Value) (f : Value → α) (g : Array Value → α) : Bytes.joinM.match_1 (fun _ => α) #[x] f g = f x := rfl
theorem m1_other {α : Type} (a : Array Value) (f : Value → α) (g : Array Value → α) (h : ¬ a.size = 1) : Bytes.joinM.match_1 (fun _ => α) a f g = g a := by
  unfold Bytes.joinM.match_1
  rw [dif_neg h]
theorem bjoin {l : Addr} {vs : List Value} {n : Nat} {bs : List (Array UInt8)} {t : Tok} {Q : Value → Shared → Prop} (hl : s.heap.get? l = some (listOf vs.toArray n)) (hb : BAre vs bs) (hsz : ((bs.map Array.toList).flatten).length ≤ 16777216)
    (h : ∀ t' k, Q (.bytes ((bs.map Array.toList).flatten.toArray) t') { s with toks := k }) : wpAny (model prog w) A (call (.builtin "bytes.join") [.bytes #[] t, .ref l]) Q E s := by
  refine wpAny_call_entry slot_bjoin rfl entry_bjoin ?_ (args_bjoin _ _)
  unfold «bytes.join» Bytes.joinM
  dsimp only
  have e1 : selfAndOne (toString Bytes.Kind.bytes.name ++ toString ".join") ⟨[.bytes #[] t, .ref l], []⟩ = pure (.bytes #[] t, .ref l) := rfl
  rw [e1]
  refine wpAny_bind (wpAny_pure ?_)
  dsimp only
  first | ((with_reducible refine wpIfT ?hwi ?_); (case hwi => exact (by rfl))) | rw [if_pos (by rfl)]
  unfold Bytes.joinItems
  refine wpAny_bind (wpAny_bind (wpAny_typeOf ⟨_, hl, rfl⟩ ?_))
  first | ((with_reducible refine wpIfT ?hwi ?_); (case hwi => exact (by rfl))) | rw [if_pos (by rfl)]
  refine wpAny_pure (wpAny_bind (wpAny_seqItems hl rfl ?_))
  dsimp only
  first | ((with_reducible refine wpIfT ?hwi ?_); (case hwi => exact (by rfl))) | rw [if_pos (by rfl)]
  have hlen : bs.length = vs.length := hb.length.symm
  by_cases h1 : vs.toArray.size = 1
  · obtain ⟨x, rfl⟩ : ∃ x, vs = [x] := by
      rw [List.size_toArray] at h1
      exact List.length_eq_one_iff.mp h1
    rw [m1_one]
    cases hb with
    | cons b u hb' =>
    cases hb'
    have e2 : typeOf (.bytes b u) = pure (.type "bytes") := rfl
    rw [e2]
    refine wpAny_bind (wpAny_pure ?_)
    first | ((with_reducible refine wpIfT ?hwi ?_); (case hwi => exact (by rfl))) | rw [if_pos (by rfl)]
    refine wpAny_bind (wpAny_rule (wpAny_pure ⟨_, rfl, ?_⟩))
    have := h u s.toks
    simpa using this
  · rw [m1_other _ _ _ h1]
    refine wpAny_bind (wp_forIn_range (I := fun i b => b.1 = (bs.take i).toArray ∧ ∀ p ∈ b.2, p.2 = none ∧ p.1.onHeap = false) ⟨rfl, nomem⟩ ?_ ?_)
    · rintro i ⟨parts, taken⟩ hi ⟨hp, ht⟩ Q' hQ'
      dsimp only at hp ht ⊢
      subst hp
      rw [List.size_toArray, ← hlen] at hi
      obtain ⟨t', hget⟩ := hb.get hi
      refine wpAny_bind (wpAny_seqItems hl rfl ?_)
      have e3 : vs.toArray.getD i .none = .bytes (bs.getD i #[]) t' := by
        rw [Array.getD_eq_getD_getElem?, List.getElem?_toArray, hget]; rfl
      have e4 : (taken.any fun x => x.1.onHeap) = false := by
        rw [List.any_eq_false]
        intro p hp
        rw [(ht p hp).2]; decide
      dsimp only
      rw [e4, e3]
      first | ((with_reducible refine wpIfF ?hwi ?_); (case hwi => exact (by decide))) | rw [if_neg (by decide)]
      refine wpAny_bind (wpAny_holding (wpAny_of_eq takeQuiet_eq ?_))
      dsimp only
      refine wpAny_bind (wpAny_seqItems hl rfl ?_)
      dsimp only
      first | ((with_reducible refine wpIfF ?hwi ?_); (case hwi => exact (by simp))) | rw [if_neg (by simp)]
      refine wpAny_pure (hQ' _ ⟨?_, fun p hp => ?_⟩)
      · rw [List.take_add_one, List.getElem?_eq_getElem hi]
        have : bs.getD i #[] = bs[i] := by rw [List.getD_eq_getElem?_getD, List.getElem?_eq_getElem hi]; rfl
        rw [this]; simp
      · rcases List.mem_append.mp hp with hp | hp
        · exact ht p hp
        · rw [List.mem_singleton.mp hp]; exact ⟨rfl, rfl⟩
    · rintro ⟨parts, taken⟩ ⟨hp, ht⟩
      dsimp only at hp ht ⊢
      rw [List.size_toArray, ← hlen, List.take_length] at hp
      subst hp
      have e5 : Bytes.payload (.bytes #[] t) = pure #[] := rfl
      rw [e5]
      refine wpAny_bind (wpAny_pure ?_)
      have hsum : ∀ (l : List (Array UInt8)) (k : Nat), l.toArray.foldl (fun a b => a + b.size) k = k + ((l.map Array.toList).flatten).length := by
        intro l
        induction l with
        | nil => intro k; simp
        | cons b l ih => intro k; have := ih (k + b.size); simp at this ⊢; lia
      have hz : ((#[] : Array UInt8).size * (bs.toArray.size - 1)) = 0 := by simp
      rw [hz, hsum, tooLong_not (by lia)]
      first | ((with_reducible refine wpIfF ?hwi ?_); (case hwi => exact (by decide))) | rw [if_neg (by decide)]
      have e6 : Bytes.Kind.new .bytes (Bytes.joined #[] bs.toArray.toList) = mkBytes ((bs.map Array.toList).flatten.toArray) := by
        show mkBytes _ = _
        rw [← joined_nil]
      rw [e6]
      unfold mkBytes
      rw [if_neg (by rw [sizeLine_eq]; simp at hsz ⊢; lia)]
      refine wpAny_bind (wpAny_bind (wpAny_fresh (wpAny_pure ?_)))
      refine wpAny_bind (wpAny_holding (wpAny_point ?_))
      refine wpAny_bind (wp_joinLetGo ?_ taken fun p hp => (ht p hp).1)
      exact wpAny_pure ⟨_, rfl, h _ _⟩
end
end
section
open PySem PySem.Sre PySem.W PyProof.Rows PySem.Calls PySem.Builtin.Re PySem.Builtin PySem.W.KBy
set_option maxRecDepth 100000
set_option maxHeartbeats 1000000
theorem bytes_no_call : typeLookup (.type "bytes") "__call__" = pure none := by rw [typeLookup_type, builtinLookup_eq_fast]; kernel_rfl
theorem Bs_text {x : List Nat} (hb : ∀ c ∈ x, c < 256) : (Bs x).map (·.toNat) = (S x).cps := by
  unfold Bs S
  rw [List.map_toArray, List.map_map]
  congr 1
  conv => rhs; rw [← List.map_id x]
  refine List.map_congr_left fun c hc => ?_
  have := hb c hc
  simp [Nat.mod_eq_of_lt this]
theorem bare_snoc {ys : List Value} {ts : List (List Nat)} (h : BAre ys (ts.map Bs)) (t : List Nat) (u : Tok) : BAre (ys ++ [.bytes (Bs t) u]) ((ts ++ [t]).map Bs) := by
  rw [List.map_append]
  exact h.snoc _ _
theorem flat_Bs (ts : List (List Nat)) : ((ts.map Bs).map Array.toList).flatten = ts.flatten.map (·.toUInt8) := by
  induction ts with
  | nil => rfl
  | cons t ts ih => simp only [List.map_cons, List.flatten_cons, ih, List.map_append]; rfl
theorem lit_bytes {b : Array UInt8} {t : Tok} : reLiteralCannotBeTurned (.bytes b t) = pure () := by
  unfold reLiteralCannotBeTurned
  have e : asStr? (.bytes b t) = pure none := rfl
  rw [e, isInstance_eq]
  rfl
section
variable {prog : Program} {w : World} {E : Value → Shared → Prop} {s : Shared}
variable {h₀ : Heap} {L D P : Addr} {m : Str → Option Value} {led : List (Addr × Obj)} {x rep : List Nat} {code : Array Nat} {g : Nat} {p : Nat → Bool} {len : Nat → Nat} {F : Nat → List Nat}
theorem whole_bytes {A : Around} {t : Tok} {Q : ReTarget → Shared → Prop} (hb : ∀ c ∈ x, c < 256) (H : IsPat s.heap P code g 1)
    (h : Q { pattern := .ref P, string := .bytes (Bs x) t, code := code, text := (S x).cps, kind := 1, groups := g, pos := 0, lim := (S x).cps.size } s) : wpAny (model prog w) A (reWholeTarget (.ref P) (.bytes (Bs x) t)) Q E s := by
  obtain ⟨pv, fl, C, vs, n, a, b, c⟩ := H
  unfold reWholeTarget
  refine wpAny_bind (wpAny_fieldsOf a rfl ?_)
  have e : reTextOf (.bytes (Bs x) t) = pure ((S x).cps, 1) := by
    unfold reTextOf
    have e : asStr? (.bytes (Bs x) t) = pure none := rfl
    rw [e, quiet_eq, ← Bs_text hb]
    rfl
  rw [e]
  refine wpAny_bind (wpAny_pure ?_)
  dsimp only
  have e1 : reRawNat ((#[pv, fl, .int g 0, .none, .none, .ref C, .int (1 : Nat) 0] : Array Value).getD 6 .none) = 1 := rfl
  rw [e1]
  first | ((with_reducible refine wpIfF ?hwi ?_); (case hwi => exact (by decide))) | rw [if_neg (by decide)]
  first | ((with_reducible refine wpIfF ?hwi ?_); (case hwi => exact (by decide))) | rw [if_neg (by decide)]
  have e2 : reNoCollectionInside (.bytes (Bs x) t) 1 = pure () := by
    unfold reNoCollectionInside
    rw [isInstance_eq]
    rfl
  rw [e2]
  refine wpAny_bind (wpAny_pure ?_)
  have e3 : (#[pv, fl, .int g 0, .none, .none, .ref C, .int (1 : Nat) 0] : Array Value).getD 5 .none = .ref C := rfl
  have e4 : reRawNat ((#[pv, fl, .int g 0, .none, .none, .ref C, .int (1 : Nat) 0] : Array Value).getD 2 .none) = g := rfl
  rw [e3, e4]
  unfold reRawItems
  refine wpAny_bind (wpAny_bind (wpAny_seqItems b rfl (wpAny_pure ?_)))
  simp only [Option.getD_some, c]
  exact wpAny_pure h
theorem slice_bytes {A : Around} {b e : Nat} {Q : Value → Shared → Prop} (_hb : ∀ c ∈ x, c < 256) (hx : x.length ≤ 16777216) (h : ∀ t, Q (.bytes (Bs ((x.drop b).take (e - b))) t) { s with toks := s.toks + 1 }) : wpAny (model prog w) A (reSlice (S x).cps 1 b e) Q E s := by
  unfold reSlice
  first | ((with_reducible refine wpIfF ?hwi ?_); (case hwi => exact (by decide))) | rw [if_neg (by decide)]
  have e1 : ((S x).cps.extract b e).map (·.toUInt8) = Bs ((x.drop b).take (e - b)) := by simp [S, Bs, List.extract_toArray]
  rw [e1]
  unfold mkBytes
  rw [if_neg (by rw [sizeLine_eq]; simp only [Bs, List.size_toArray, List.length_map, List.length_take, List.length_drop]; lia)]
  exact wpAny_bind (wpAny_fresh (wpAny_pure (h _)))
theorem sub_loopB {A : Around} {R : Result → Shared → Prop} (H : Subs x code g p len rep F) (hb : ∀ c ∈ x, c < 256) (hx : x.length ≤ 100000) (hP : IsPat h₀ P code g 1) (hF : (F 0).length ≤ 16777216) (tx tr : Tok) (hne : ∀ p ∈ led, p.1 ≠ D)
    (hR : ∀ t h' tk', Fr h₀ L h' m → News h₀ L h' led → R (.ok (.ret (.bytes (Bs (F 0)) t))) { s with heap := h', toks := tk' }) :
    ∀ (n q : Nat) (h : Heap) (tk : Nat) (ys : List Value) (ts : List (List Nat)) (nn : Nat) (cnt : Int), x.length - q < n → q ≤ x.length → Fr h₀ L h m → News h₀ L h ((D, listOf ys.toArray nn) :: led) →
      BAre ys (ts.map Bs) → ts.flatten ++ F q = F 0 → ts.length ≤ 2 * q →
      codeAny (model prog w) A (.builtin "re.Pattern.sub.loop" ⟨[.ref P, .bytes (Bs x) tx, .bytes (Bs rep) tr, rawInt 0, rawInt 0, rawInt cnt, rawInt q, rawInt q, .bool false, .ref D, .bool false], []⟩) R { s with heap := h, toks := tk } := by
  intro n
  induction n with
  | zero =>
    intro q h tk ys ts nn cnt hn hq Fr' N hd hout hlen
    lia
  | succ n ih =>
    intro q h tk ys ts nn cnt hn hq Fr' N hd hout hlen
    refine codeAny_builtin entry_sub_loop ?_
    unfold Builtin.«re.Pattern.sub.loop»
    dsimp only [rawInt]
    refine wpAny_bind (whole_bytes hb (hP.keeps Fr'.keep) ?_)
    simp -iota only [beq_self_eq_true, if_true, bne_self_eq_false, Bool.false_and, Bool.false_eq_true, if_false]
    have e0 : reLiteralCannotBeTurned (.bytes (Bs rep) tr) = pure () := lit_bytes
    rw [e0]
    refine wpAny_bind (wpAny_pure ?_)
    unfold reNextFound
    dsimp only
    have hsz : (S x).cps.size = x.length := by simp [S]
    obtain ⟨m', k, hk, hc, hfound⟩ := H.search q hq
    rw [hsz, Int.toNat_natCast]
    refine wpAny_bind (wp_toEnd hc hk ?_)
    rcases hfound with ⟨q', h1, h2, h3, h4, h5, h6⟩ | ⟨h1, h2⟩
    · refine .inl ⟨h4, ?_⟩
      refine el2 (H.lens q' h2) fun l1 l2 => ?_
      have hF' := H.hit q q' h1 h2 h3
      have end_ : ∀ (h : Heap) (tk : Nat) (ys : List Value) (ts : List (List Nat)) (nn : Nat), Fr h₀ L h m → News h₀ L h ((D, listOf ys.toArray nn) :: led) → BAre ys (ts.map Bs) → ts.flatten ++ rep ++ F (q' + len q') = F 0 → ts.length ≤ 2 * q + 1 → ys.length ≤ 2 * q + 1 → ∀ (A' : Around),
          wpAny (model prog w) A' (do
            updateSeq D fun x => x.push (.bytes (Bs rep) tr)
            again (.builtin "re.Pattern.sub.loop" ⟨[.ref P, .bytes (Bs x) tx, .bytes (Bs rep) tr, .int 0 0, .int 0 0, .int (cnt + 1) 0, .int m'.handed 0, .int m'.handed 0, .bool (m'.handed == q'), .ref D, .bool false], []⟩))
            (fun fin s' => match fin with | .done f => R (.ok f) s' | .again c' => c'.quiet = true ∧ codeAny (model prog w) A c' R s') (fun e s' => R (.error e) s') { s with heap := h, toks := tk } := by
        intro h tk ys ts nn F₁ N₁ hd₁ hout₁ hlen₁ hlen₂ A'
        refine el2 (push_led F₁ N₁ hne (.bytes (Bs rep) tr)) fun F₂ N₂ => ?_
        refine wpAny_bind (upd_led (h := h) rfl N₁ (by lia) (wpAny_pure ⟨quiet_loop _, ?_⟩))
        rw [h6, show (q' + len q' == q') = false by simp; lia]
        exact ih (q' + len q') _ tk _ (ts ++ [rep]) _ (cnt + 1) (by lia) l2 F₂ N₂ (bare_snoc hd₁ rep tr) (by rw [List.flatten_append]; simpa using hout₁) (by rw [List.length_append]; simp; lia)
      have hyl : ys.length = ts.length := by have := hd.length; rwa [List.length_map] at this
      dsimp only
      rw [h5]
      by_cases hlt : q < q'
      · first | ((with_reducible refine wpIfT ?hwi ?_); (case hwi => exact hlt)) | rw [if_pos hlt]
        refine wpAny_bind (slice_bytes hb (by first | (clear end_; lia) | lia) fun t => ?_)
        refine el2 (push_led Fr' N hne (.bytes (Bs ((x.drop q).take (q' - q))) t)) fun F₂ N₂ => ?_
        refine wpAny_bind (upd_led (h := h) rfl N (by first | (clear end_; lia) | lia) (wpAny_bind (wpAny_pure ?_)))
        first | ((with_reducible refine wpIfT ?hwi ?_); (case hwi => exact (show (Value.bytes (Bs rep) tr != Value.none) = true from rfl))) | rw [if_pos (show (Value.bytes (Bs rep) tr != Value.none) = true from rfl)]
        refine end_ _ _ _ (ts ++ [(x.drop q).take (q' - q)]) _ F₂ N₂ (bare_snoc hd _ t) ?_ (by clear end_; rw [List.length_append]; simp; lia) (by clear end_; rw [List.length_append]; simp; lia) _
        rw [List.flatten_append, ← hout, hF']
        simp
      · have e : q' = q := by clear end_; lia
        first | ((with_reducible refine wpIfF ?hwi ?_); (case hwi => exact hlt)) | rw [if_neg hlt]
        refine wpAny_bind (wpAny_pure ?_)
        first | ((with_reducible refine wpIfT ?hwi ?_); (case hwi => exact (show (Value.bytes (Bs rep) tr != Value.none) = true from rfl))) | rw [if_pos (show (Value.bytes (Bs rep) tr != Value.none) = true from rfl)]
        refine end_ _ _ _ ts _ Fr' N hd ?_ (by first | (clear end_; lia) | lia) (by first | (clear end_; lia) | lia) _
        rw [← hout, hF', e]
        simp
    · refine .inr ⟨h2, ?_⟩
      have hFn := H.none q hq h1
      have hyl : ys.length = ts.length := by have := hd.length; rwa [List.length_map] at this
      dsimp only
      have end_ : ∀ (h : Heap) (tk : Nat) (ys : List Value) (ts : List (List Nat)) (nn : Nat), Fr h₀ L h m → News h₀ L h ((D, listOf ys.toArray nn) :: led) → BAre ys (ts.map Bs) → ts.flatten = F 0 → ∀ (A' : Around),
          wpAny (model prog w) A' (do
            let joiner ← reSlice (S x).cps 1 0 0
            let a ← seqItems? (.ref D)
            if (a.getD #[]).isEmpty = true then (do
              let b ← pure joiner
              ret b) else (do
              let b ← call (.builtin "bytes.join") [joiner, .ref D]
              ret b))
            (fun fin s' => match fin with | .done f => R (.ok f) s' | .again c' => c'.quiet = true ∧ codeAny (model prog w) A c' R s') (fun e s' => R (.error e) s') { s with heap := h, toks := tk } := by
        intro h tk ys ts nn F₁ N₁ hd₁ hout₁ A'
        refine wpAny_bind (slice_bytes hb (by first | (clear end_; lia) | lia) fun t => ?_)
        refine wpAny_bind (wpAny_seqItems (N₁ _ (.head _)).1 rfl ?_)
        simp -iota only [Option.getD_some]
        cases ys with
        | nil =>
          cases ts with
          | nil =>
            first | ((with_reducible refine wpIfT ?hwi ?_); (case hwi => exact (by rfl))) | rw [if_pos (by rfl)]
            refine wpAny_bind (wpAny_pure (wpAny_pure ?_))
            have e : Bs ((x.drop 0).take (0 - 0)) = Bs (F 0) := by rw [← hout₁]; rfl
            rw [e]
            exact hR _ _ _ F₁ (news_sub N₁ fun p hp => .tail _ hp)
          | cons t ts => cases hd₁
        | cons y ys =>
          first | ((with_reducible refine wpIfF ?hwi ?_); (case hwi => exact (by simp))) | rw [if_neg (by simp)]
          have e : Bs ((x.drop 0).take (0 - 0)) = #[] := rfl
          rw [e]
          refine wpAny_bind (bjoin (N₁ _ (.head _)).1 hd₁ (by rw [flat_Bs, List.length_map, hout₁]; exact hF) fun t' k => wpAny_pure ?_)
          rw [flat_Bs, hout₁]
          exact hR _ _ _ F₁ (news_sub N₁ fun p hp => .tail _ hp)
      by_cases hlt : q < x.length
      · first | ((with_reducible refine wpIfT ?hwi ?_); (case hwi => exact hlt)) | rw [if_pos hlt]
        refine wpAny_bind (slice_bytes hb (by first | (clear end_; lia) | lia) fun t => ?_)
        refine el2 (push_led Fr' N hne (.bytes (Bs ((x.drop q).take (x.length - q))) t)) fun F₂ N₂ => ?_
        refine wpAny_bind (upd_led (h := h) rfl N (by first | (clear end_; lia) | lia) ?_)
        refine end_ _ _ _ (ts ++ [(x.drop q).take (x.length - q)]) _ F₂ N₂ (bare_snoc hd _ t) ?_ _
        rw [List.flatten_append, ← hout, hFn]
        simp [List.take_of_length_le]
      · first | ((with_reducible refine wpIfF ?hwi ?_); (case hwi => exact hlt)) | rw [if_neg hlt]
        refine end_ _ _ _ ts _ Fr' N hd ?_ _
        rw [← hout, hFn, List.drop_of_length_le (by first | (clear end_; lia) | lia)]
        simp
theorem call_sub_bytes {A : Around} {Q : Value → Shared → Prop} (H : Subs x code g p len rep F) (hb : ∀ c ∈ x, c < 256) (hx : x.length ≤ 100000) (hP : IsPat h₀ P code g 1) (hF : (F 0).length ≤ 16777216) (hrep : (Bs rep).contains 92 = false) (tx tr : Tok)
    (Fr' : Fr h₀ L s.heap m) (N : News h₀ L s.heap led)
    (hQ : ∀ t h' tk', Fr h₀ L h' m → News h₀ L h' led → Q (.bytes (Bs (F 0)) t) { s with heap := h', toks := tk' }) :
    wpAny (model prog w) A (call (.builtin "re.Pattern.sub") [.ref P, .bytes (Bs rep) tr, .bytes (Bs x) tx]) Q E s := by
  obtain ⟨pv, fl, C, vs, n, oP, oC, hcode⟩ := hP.keeps Fr'.keep
  have hT : s.TypeIs (.ref P) "re.Pattern" := ⟨_, oP, rfl⟩
  refine wpAny_call (codeAny_call_builtin slot_sub.plain entry_sub (slot_sub.check _ _ _ _ _ _ _ _ hT (args_sub _ _ _) ?_))
  unfold Builtin.«re.Pattern.sub» reSubstitute
  dsimp only
  rw [named_sub]
  refine wpAny_bind (wpAny_pure ?_)
  dsimp only
  refine wpAny_bind (wpAny_pure ?_)
  rw [special_eq bytes_no_call]
  refine wpAny_bind (wpAny_pure ?_)
  simp -iota only [Option.isSome_none, Bool.false_eq_true, if_false]
  try dsimp only
  have e1 : asStr? (.bytes (Bs rep) tr) = pure none := rfl
  rw [e1]
  refine wpAny_bind (wpAny_pure ?_)
  dsimp only
  rw [quiet_eq]
  refine wpAny_bind (wpAny_pure ?_)
  dsimp only
  rw [hrep]
  refine wpAny_bind (wpAny_pure ?_)
  first | ((with_reducible refine wpIfT ?hwi ?_); (case hwi => exact (by rfl))) | rw [if_pos (by rfl)]
  refine wpAny_bind (wpAny_pure ?_)
  dsimp only
  refine wpAny_bind (wpAny_holding (whole_bytes hb (hP.keeps Fr'.keep) ?_))
  first | ((with_reducible refine wpIfF ?hwi ?_); (case hwi => exact (by decide))) | rw [if_neg (by decide)]
  refine wpAny_bind (newList_N Fr' N (fun h₁ F₁ N₁ => ?_) (by rw [List.length_nil, sizeLine_eq]; lia))
  have hnew : ∀ p ∈ led, p.1 ≠ s.heap.objs.size := fun p hp => Nat.ne_of_lt (Heap.lt_size (N p hp).1)
  refine wpAny_pure ⟨quiet_loop _, ?_⟩
  exact sub_loopB (D := s.heap.objs.size) (R := fun r s' => match r with | .ok (.ret v) => Q v s' | .ok _ => False | .error e => E e s') H hb hx hP hF tx tr hnew (fun t h' tk' F' N' => hQ t h' tk' F' N') (x.length + 1) 0 h₁ s.toks [] [] 0 0 (by lia) (by lia) F₁ N₁ .nil rfl (by simp)
end
end
section
open PySem PySem.Sre PySem.W PyProof.Rows PySem.Calls PySem.Builtin.Re PySem.Builtin
set_option maxRecDepth 100000
set_option maxHeartbeats 1000000
theorem fn_call : ∃ v, typeLookup (.type "function") "__call__" = pure (some v) := ⟨.builtin "function.__call__", by rw [typeLookup_type, builtinLookup_eq_fast]; kernel_rfl⟩
theorem str_no_bytearray : isSubtype (.type "str") (.type "bytearray") = pure false := by rw [isSubtype_type]; kernel_rfl
section
variable {prog : Program} {w : World} {E : Value → Shared → Prop} {s : Shared}
variable {h₀ : Heap} {L D P : Addr} {m : Str → Option Value} {led : List (Addr × Obj)} {x : List Nat}
theorem sub_none_loop {A : Around} {R : Result → Shared → Prop} (hc : ∀ c ∈ x, c ≠ 38 ∧ c ≠ 124 ∧ c ≠ 126) (hx : x.length ≤ 100000) (hP : IsPat h₀ P codeF 1 0) (tx : Tok) (r : Value) (hne : ∀ p ∈ led, p.1 ≠ D)
    (hR : ∀ t h' tk', Fr h₀ L h' m → News h₀ L h' led → R (.ok (.ret (.str (S x) t))) { s with heap := h', toks := tk' })
    (h : Heap) (tk : Nat) (Fr' : Fr h₀ L h m) (N : News h₀ L h ((D, listOf ([] : List Value).toArray 0) :: led)) :
      codeAny (model prog w) A (.builtin "re.Pattern.sub.loop" ⟨[.ref P, .str (S x) tx, r, rawInt 1, rawInt 0, rawInt 0, rawInt 0, rawInt 0, .bool false, .ref D, .bool false], []⟩) R { s with heap := h, toks := tk } := by
  refine codeAny_builtin entry_sub_loop ?_
  unfold Builtin.«re.Pattern.sub.loop»
  dsimp only [rawInt]
  refine wpAny_bind (whole_str (hP.keeps Fr'.keep) ?_)
  first | ((with_reducible refine wpIfF ?hwi ?_); (case hwi => exact (by decide))) | rw [if_neg (by decide)]
  dsimp only
  first | ((with_reducible refine wpIfF ?hwi ?_); (case hwi => exact (by decide))) | rw [if_neg (by decide)]
  unfold reNextFound
  dsimp only
  have hsz : (S x).cps.size = x.length := by simp [S]
  obtain ⟨m', hcm, ho⟩ := subsF (x := x) hc
  rw [hsz]
  refine wpAny_bind (wp_toEnd (k := 3) hcm (by lia) (.inr ⟨ho, ?_⟩))
  dsimp only
  have end_ : ∀ (h : Heap) (tk : Nat) (ys : List Value) (ts : List (List Nat)) (nn : Nat), Fr h₀ L h m → News h₀ L h ((D, listOf ys.toArray nn) :: led) → DatAll [] ys (ts.map fun t => .str (S t)) → ts.flatten = x → ∀ (A' : Around),
      wpAny (model prog w) A' (do
        let joiner ← reSlice (S x).cps 0 0 0
        let a ← seqItems? (.ref D)
        if (a.getD #[]).isEmpty = true then (do
          let b ← pure joiner
          ret b) else (do
          let b ← call (.builtin "str.join") [joiner, .ref D]
          ret b))
        (fun fin s' => match fin with | .done f => R (.ok f) s' | .again c' => c'.quiet = true ∧ codeAny (model prog w) A c' R s') (fun e s' => R (.error e) s') { s with heap := h, toks := tk } := by
    intro h tk ys ts nn F₁ N₁ hd₁ hout₁ A'
    refine wpAny_bind (slice_str (by lia) fun t => ?_)
    refine wpAny_bind (wpAny_seqItems (N₁ _ (.head _)).1 rfl ?_)
    simp -iota only [Option.getD_some]
    cases ys with
    | nil =>
      cases ts with
      | nil =>
        first | ((with_reducible refine wpIfT ?hwi ?_); (case hwi => exact (by rfl))) | rw [if_pos (by rfl)]
        refine wpAny_bind (wpAny_pure (wpAny_pure ?_))
        have e : S ((x.drop 0).take (0 - 0)) = S x := by rw [← hout₁]; rfl
        rw [e]
        exact hR _ _ _ F₁ (news_sub N₁ fun p hp => .tail _ hp)
      | cons t ts => cases hd₁
    | cons y ys =>
      first | ((with_reducible refine wpIfF ?hwi ?_); (case hwi => exact (by simp))) | rw [if_neg (by simp)]
      have e : S ((x.drop 0).take (0 - 0)) = S [] := rfl
      rw [e]
      refine wpAny_bind (join0_S N₁ (.head _) hd₁ (by rw [hout₁]; lia) fun t' k => wpAny_pure ?_)
      rw [hout₁]
      exact hR _ _ _ F₁ (news_sub N₁ fun p hp => .tail _ hp)
  by_cases hlt : 0 < x.length
  · first | ((with_reducible refine wpIfT ?hwi ?_); (case hwi => exact (by simpa using hlt))) | rw [if_pos (by simpa using hlt)]
    refine wpAny_bind (slice_str (by clear end_; lia) fun t => ?_)
    refine el2 (push_led Fr' N hne (.str (S ((x.drop 0).take (x.length - 0))) t)) fun F₂ N₂ => ?_
    refine wpAny_bind (upd_led (h := h) rfl N (by simp) ?_)
    refine end_ _ _ _ [(x.drop 0).take (x.length - 0)] _ F₂ N₂ (.cons (.str _ _) .nil) ?_ _
    simp
  · first | ((with_reducible refine wpIfF ?hwi ?_); (case hwi => exact (by simpa using hlt))) | rw [if_neg (by simpa using hlt)]
    refine end_ _ _ _ [] _ Fr' N .nil ?_ _
    have : x = [] := List.length_eq_zero_iff.mp (by clear end_; lia)
    rw [this]; rfl
theorem call_sub_none {A : Around} {Q : Value → Shared → Prop} {f : Addr} (hc : ∀ c ∈ x, c ≠ 38 ∧ c ≠ 124 ∧ c ≠ 126) (hx : x.length ≤ 100000) (hP : IsPat h₀ P codeF 1 0) (tx : Tok) (hf : s.TypeIs (.ref f) "function")
    (Fr' : Fr h₀ L s.heap m) (N : News h₀ L s.heap led)
    (hQ : ∀ t h' tk', Fr h₀ L h' m → News h₀ L h' led → Q (.str (S x) t) { s with heap := h', toks := tk' }) :
    wpAny (model prog w) A (call (.builtin "re.Pattern.sub") [.ref P, .ref f, .str (S x) tx]) Q E s := by
  obtain ⟨pv, fl, C, vs, n, oP, oC, hcode⟩ := hP.keeps Fr'.keep
  have hT : s.TypeIs (.ref P) "re.Pattern" := ⟨_, oP, rfl⟩
  refine wpAny_call (codeAny_call_builtin slot_sub.plain entry_sub (slot_sub.check _ _ _ _ _ _ _ _ hT (args_sub _ _ _) ?_))
  unfold Builtin.«re.Pattern.sub» reSubstitute
  dsimp only
  rw [named_sub]
  refine wpAny_bind (wpAny_pure ?_)
  dsimp only
  refine wpAny_bind (wpAny_pure ?_)
  obtain ⟨v, hv⟩ := fn_call
  refine wpAny_bind (wpAny_specialOf hf hv ?_)
  first | ((with_reducible refine wpIfT ?hwi ?_); (case hwi => exact (by rfl))) | rw [if_pos (by rfl)]
  refine wpAny_bind (wpAny_pure ?_)
  first | ((with_reducible refine wpIfT ?hwi ?_); (case hwi => exact (by rfl))) | rw [if_pos (by rfl)]
  refine wpAny_bind (wpAny_pure ?_)
  dsimp only
  refine wpAny_bind (wpAny_holding (whole_str (hP.keeps Fr'.keep) ?_))
  first | ((with_reducible refine wpIfT ?hwi ?_); (case hwi => exact (by decide))) | rw [if_pos (by decide)]
  unfold reNotHeld
  refine wpAny_bind (wpAny_bind (wpAny_isInstance (typeIs_str _ _ _) str_no_bytearray ?_))
  first | ((with_reducible refine wpIfF ?hwi ?_); (case hwi => exact (by decide))) | rw [if_neg (by decide)]
  refine wpAny_pure ?_
  refine wpAny_bind (newList_N Fr' N (fun h₁ F₁ N₁ => ?_) (by rw [List.length_nil, sizeLine_eq]; lia))
  have hnew : ∀ p ∈ led, p.1 ≠ s.heap.objs.size := fun p hp => Nat.ne_of_lt (Heap.lt_size (N p hp).1)
  refine wpAny_pure ⟨quiet_loop _, ?_⟩
  exact sub_none_loop (D := s.heap.objs.size) (R := fun r s' => match r with | .ok (.ret v) => Q v s' | .ok _ => False | .error e => E e s') hc hx hP tx (.ref f) hnew (fun t h' tk' F' N' => hQ t h' tk' F' N') h₁ s.toks F₁ N₁
end
end
section
theorem LocW2.hereW2 : True := trivial
open LocW2
open PySem PySem.W PyProof.Rows PySem.Calls
set_option maxRecDepth 100000
set_option maxHeartbeats 8000000
noncomputable def It.text : It → List Nat
  | .star => [42]
  | .qm => [63]
  | .lit c => [c]
  | .br neg ms => (if neg then [91, 33] else [91]) ++ ms.flatten ++ [93]
theorem text_e1 : It.text .star = [42] := rfl
theorem text_e2 : It.text .qm = [63] := rfl
theorem text_e3 {c : Nat} : It.text (.lit c) = [c] := rfl
theorem text_e4 {neg : Bool} {ms : List (List Nat)} : It.text (.br neg ms) = (if neg then [91, 33] else [91]) ++ ms.flatten ++ [93] := rfl
noncomputable def patText (its : List It) : List Nat := its.flatMap It.text
theorem patText_take (its : List It) (i : Nat) (hi : i < its.length) : patText (its.take (i + 1)) = patText (its.take i) ++ its[i].text := by
  unfold patText
  rw [List.take_add_one, List.getElem?_eq_getElem hi, List.flatMap_append]
  simp
theorem patText_le (its : List It) (i : Nat) : (patText (its.take i)).length ≤ (patText its).length := by
  have h := List.take_append_drop i its
  have : patText its = patText (its.take i) ++ patText (its.drop i) := by
    unfold patText; rw [← List.flatMap_append, h]
  rw [this, List.length_append]; lia

theorem dat_two {news : List (Addr × Obj)} {v : Value} {k : Int} {d : Dat} (h : DatIn news v (.tuple [.int k, d])) : ∃ a n t r, v = .ref a ∧ (a, tupOf [.int k t, r] n) ∈ news ∧ DatIn news r d := by
  cases h with
  | tuple h1 h2 =>
  cases h2 with
  | cons h3 h4 =>
  cases h3
  cases h4 with
  | cons h5 h6 =>
  cases h6
  exact ⟨_, _, _, _, rfl, h1, h5⟩
theorem dat_lst {news : List (Addr × Obj)} {v : Value} {ds : List Dat} (h : DatIn news v (.list ds)) : ∃ a n vs, v = .ref a ∧ (a, listOf vs.toArray n) ∈ news ∧ DatAll news vs ds := by
  cases h with
  | list h1 h2 => exact ⟨_, _, _, rfl, h1, h2⟩
inductive D0 (news : List (Addr × Obj)) (v : Value) (k : Int) : Prop
  | mk (a n t r : _) (h1 : v = .ref a) (h2 : (a, tupOf [.int k t, r] n) ∈ news) : D0 news v k
inductive D1 (news : List (Addr × Obj)) (v : Value) (c : Nat) : Prop
  | mk (a n t : _) (l : Addr) (n2 : Nat) (t2 : Tok) (h1 : v = .ref a) (h2 : (a, tupOf [.int 4 t, .ref l] n) ∈ news) (h3 : (l, listOf [Value.str (S [c]) t2].toArray n2) ∈ news) : D1 news v c
inductive D2 (news : List (Addr × Obj)) (v : Value) (k : Int) (ds : List Dat) : Prop
  | mk (a n t : _) (l : Addr) (n2 : Nat) (vs : List Value) (h1 : v = .ref a) (h2 : (a, tupOf [.int k t, .ref l] n) ∈ news) (h3 : (l, listOf vs.toArray n2) ∈ news) (h4 : DatAll news vs ds) : D2 news v k ds
theorem dat_star {news : List (Addr × Obj)} {v : Value} (h : DatIn news v (It.dat .star)) : D0 news v 0 := by
  obtain ⟨a, n, t, r, e, h1, _⟩ := dat_two h
  exact ⟨a, n, t, r, e, h1⟩
theorem dat_qm {news : List (Addr × Obj)} {v : Value} (h : DatIn news v (It.dat .qm)) : D0 news v 1 := by
  obtain ⟨a, n, t, r, e, h1, _⟩ := dat_two h
  exact ⟨a, n, t, r, e, h1⟩
theorem dat_lit {news : List (Addr × Obj)} {v : Value} {c : Nat} (h : DatIn news v (It.dat (.lit c))) : D1 news v c := by
  obtain ⟨a, n, t, r, e, h1, h2⟩ := dat_two h
  obtain ⟨l, n2, vs, rfl, h3, h4⟩ := dat_lst h2
  cases h4 with
  | cons h5 h6 =>
  cases h5
  cases h6
  exact ⟨a, n, t, l, n2, _, e, h1, h3⟩
theorem dat_br {news : List (Addr × Obj)} {v : Value} {neg : Bool} {ms : List (List Nat)} (h : DatIn news v (It.dat (.br neg ms))) : D2 news v (brKind neg) (ms.map fun m => .str (S m)) := by
  obtain ⟨a, n, t, r, e, h1, h2⟩ := dat_two h
  obtain ⟨l, n2, vs, rfl, h3, h4⟩ := dat_lst h2
  exact ⟨a, n, t, l, n2, vs, e, h1, h3, h4⟩
example : True := by
  k_with "exec For Tuple Name cons nil" =>
    (fail_if_success (fail_if_success (have := hereW2)))
    ((refine halt ?_))
  trivial
theorem pattern (w : World) (r : Value) (its : List It) (hsz : (patText its).length ≤ 100000) : Spec w 117 [r] (fun news => DatIn news r (itemsDat its)) (fun _ r => ∃ t, r = .str (S (patText its)) t) := by
  unfold Spec PR
  k_fill
  intro dp un gd cn cs a ccd cl outer A₀ base h₀ L m p loose mean mg mb news s Q E B F X N T hk hpre hd hu hret
  refine wpAny_call ?_
  k_dflt cell_enter
  refine letA ?_
  intro A1
  refine letV ?_
  intro e1
  k_steps
  rename_i g' L' hh0 FG' B' X' T' h1 F1 N1
  cases hpre with
  | @list l vs nn ds hl hall =>
    show wpAny _ _ _ _ _ _
    try k_fold
    refine for_list (h₀ := g') (l := l) (vs := vs) (nn := nn) rfl (fun i m led => led = news ∧ ∃ t, Has m [("whole", .str (S (patText (its.take i))) t)]) (fun i m led h => h.1 ▸ hl) (fun _ => rfl) ?_ ?_ ?_
    · k_steps
      exact ⟨rfl, _, _, _, _, rfl, F1, N1, rfl, _, Has.cons rfl Has.nil⟩
    · rintro E' i v m₁ led h tk₁ I o hv ⟨rfl, t, H⟩ F₂ N₂ hne
      refine letT ?_
      intro R9
      k_fold
      replace F₂ : Fr g' L' h _ := fr_at F₂ H
      dsimp only [kB_e1, kB_e2] at F₂
      replace N₂ : News g' L' h ((I, o) :: led) := N₂
      obtain ⟨hi, hD⟩ := dat_len hall hv
      rw [List.getElem_map] at hD
      rw [List.length_map] at hi
      have e1 := patText_take its i hi
      have l1 := patText_le its (i + 1)
      generalize hit : its[i] = it at hD e1
      rw [e1, List.length_append] at l1
      have own : ∀ q ∈ [(I, o)], ∀ p ∈ led, p.1 ≠ q.1 := fun q hq p hp => by rw [List.mem_singleton.mp hq]; exact hne p hp
      cases it with
      | star =>
        obtain ⟨T, n1, t1, r1, rfl, h1⟩ := dat_star hD
        clear hD
        refine asg2 rfl F₂ N₂ (.tail _ h1) (fun h' tk' F3 N3 => ?_) (by rfl) (by rfl) (by rfl)
        k_steps
        exact ⟨_, _, _, _, rfl, by assumption, by assumption, own, rfl, _, Has.co (by rw [e1]; rfl) Has.nil⟩
      | qm =>
        obtain ⟨T, n1, t1, r1, rfl, h1⟩ := dat_qm hD
        clear hD
        refine asg2 rfl F₂ N₂ (.tail _ h1) (fun h' tk' F3 N3 => ?_) (by rfl) (by rfl) (by rfl)
        k_steps
        exact ⟨_, _, _, _, rfl, by assumption, by assumption, own, rfl, _, Has.co (by rw [e1]; rfl) Has.nil⟩
      | lit c =>
        obtain ⟨T, n1, t1, r1, n2, t2, rfl, h1, h7⟩ := dat_lit hD
        clear hD
        refine asg2 rfl F₂ N₂ (.tail _ h1) (fun h' tk' F3 N3 => ?_) (by rfl) (by rfl) (by rfl)
        k_steps
        exact ⟨_, _, _, _, rfl, by assumption, by assumption, own, rfl, _, Has.co (by rw [e1]; rfl) Has.nil⟩
      | br neg ms =>
        obtain ⟨T, n1, t1, r1, n2, vs2, rfl, h1, h7, h8⟩ := dat_br hD
        clear hD
        refine asg2 rfl F₂ N₂ (.tail _ h1) (fun h' tk' F3 N3 => ?_) (by rfl) (by rfl) (by rfl)
        have l2 : ms.flatten.length ≤ 100000 := by
          simp only [text_e1, text_e2, text_e3, text_e4, List.length_append] at l1; omega
        cases neg
        · dsimp only [brKind_e1, brKind_e2] at F3
          k_steps
          exact ⟨_, _, _, _, rfl, by assumption, by assumption, own, rfl, _, Has.co (by rw [e1]; simp only [text_e1, text_e2, text_e3, text_e4]; rfl) Has.nil⟩
        · dsimp only [brKind_e1, brKind_e2] at F3
          k_steps
          exact ⟨_, _, _, _, rfl, by assumption, by assumption, own, rfl, _, Has.co (by rw [e1]; simp only [text_e1, text_e2, text_e3, text_e4]; rfl) Has.nil⟩
    · rintro m₁ led h tk₁ ⟨rfl, t, H⟩ F₂ N₂
      replace F₂ : Fr g' L' h _ := fr_at F₂ H
      dsimp only [kB_e1, kB_e2] at F₂
      replace N₂ : News g' L' h led := N₂
      k_steps
      have hv : vs.length = its.length := by have := hall.length; rwa [List.length_map] at this
      rw [hv, List.take_length]
      have N₃ := news_sub (news' := led) (news := led ++ []) (by assumption) (by simp)
      exact hret _ [] _ _ (by assumption) N₃ (by simp) ⟨_, rfl⟩
end
section
open PySem PySem.W PyProof.Rows PySem.Calls
set_option maxRecDepth 100000
set_option maxHeartbeats 8000000
section
variable {w : World} {h : Heap}
theorem pat84 (X : (Mine.hp.heap_1 w.params).In h) : IsPat h 84 codeE 0 0 := ⟨_, _, 83, _, _, X 84 _ (by rfl), X 83 _ (by rfl), by kernel_rfl⟩
theorem pat74 (X : (Mine.hp.heap_1 w.params).In h) : IsPat h 74 codeD 0 0 := ⟨_, _, 73, _, _, X 74 _ (by rfl), X 73 _ (by rfl), by kernel_rfl⟩
theorem pat79 (X : (Mine.hp.heap_1 w.params).In h) : IsPat h 79 codeD 0 1 := ⟨_, _, 78, _, _, X 79 _ (by rfl), X 78 _ (by rfl), by kernel_rfl⟩
theorem pat36 (X : (Mine.hp.heap_1 w.params).In h) : IsPat h 36 codeF 1 0 := ⟨_, _, 35, _, _, X 36 _ (by rfl), X 35 _ (by rfl), by kernel_rfl⟩
end
section
variable {M : Model} {A : Around} {E : Value → Shared → Prop} {s : Shared}
theorem getm_sub {P : Addr} {code : Array Nat} {g kd : Nat} {pl : Sem Bool} {Q : Value × List Value → Shared → Prop} (H : IsPat s.heap P code g kd) (h : Q (.builtin "re.Pattern.sub", [.ref P]) s) : wpAny M A (getMethod (.ref P) "sub" pl) Q E s := by
  obtain ⟨pv, fl, C, vs, n, a, b, c⟩ := H
  exact getMethod_builtin ⟨_, a, rfl⟩ plain_sub slot_sub type_sub (fun a' e => by cases e; exact ⟨_, a, rfl⟩) h
end
example : True := by
  k_with "getMethod ref" =>
    ((k_here; refine' Mine.getm_sub (IsPat.keeps (by first | exact Mine.pat84 (by assumption) | exact Mine.pat74 (by assumption) | exact Mine.pat79 (by assumption) | exact Mine.pat36 (by assumption)) (Fr.keep (by k_asm))) ?_))
  trivial

theorem fixE_len : ∀ x : List Nat, (fixE x).length ≤ 2 * x.length
  | [] => by simp [fixE_e1, fixE_e2, fixE_e3]
  | [c] => by rw [fixE_e2]; split <;> simp
  | c :: d :: r => by
    have h1 := fixE_len r
    have h2 := fixE_len (d :: r)
    rw [fixE_e3]
    simp only [List.length_cons] at h2 ⊢
    split
    · simp only [List.length_cons]; lia
    · rw [List.length_append]; split <;> simp only [List.length_cons, List.length_nil] <;> lia
theorem dots_len : ∀ (b : Bool) (x : List Nat), (dots b x).length ≤ 2 * x.length
  | _, [] => by simp [dots_e1, dots_e2]
  | b, c :: r => by
    have h := dots_len (c == 10) r
    rw [dots_e2]
    rw [List.length_append]
    split <;> simp only [List.length_cons, List.length_nil] <;> lia
section
variable {prog : Program} {w : World} {A : Around} {E : Value → Shared → Prop} {s : Shared} {h₀ : Heap} {L : Addr} {m : Str → Option Value} {led : List (Addr × Obj)} {x : List Nat} {r : Str} {rb b : Array UInt8} {tr tx : Tok} {Q : Value → Shared → Prop}
theorem sub84 (X : (Mine.hp.heap_1 w.params).In h₀) (F : Fr h₀ L s.heap m) (N : News h₀ L s.heap led) (e : r = S [13, 10]) (hx : x.length ≤ 100000)
    (hQ : ∀ t h' tk', Fr h₀ L h' m → News h₀ L h' led → Q (.str (S (fixE x)) t) { s with heap := h', toks := tk' }) :
    wpAny (model prog w) A (call (.builtin "re.Pattern.sub") [.ref 84, .str r tr, .str (S x) tx]) Q E s := by
  subst e
  exact call_sub_str (subsE hx) hx (pat84 X) (by have := fixE_len (x.drop 0); simp only [List.drop_zero] at this ⊢; lia) (by decide) tx tr F N (by simpa using hQ)
theorem sub74 (X : (Mine.hp.heap_1 w.params).In h₀) (F : Fr h₀ L s.heap m) (N : News h₀ L s.heap led) (e : r = S [46, 46]) (hx : x.length ≤ 100000)
    (hQ : ∀ t h' tk', Fr h₀ L h' m → News h₀ L h' led → Q (.str (S (dots true x)) t) { s with heap := h', toks := tk' }) :
    wpAny (model prog w) A (call (.builtin "re.Pattern.sub") [.ref 74, .str r tr, .str (S x) tx]) Q E s := by
  subst e
  exact call_sub_str (subsD hx) hx (pat74 X) (by have := dots_len (bol x 0) (x.drop 0); simp only [List.drop_zero] at this ⊢; lia) (by decide) tx tr F N hQ
theorem sub79 (X : (Mine.hp.heap_1 w.params).In h₀) (F : Fr h₀ L s.heap m) (N : News h₀ L s.heap led) (e : rb = Bs [46, 46]) (e' : b = Bs x) (hb : ∀ c ∈ x, c < 256) (hx : x.length ≤ 100000)
    (hQ : ∀ t h' tk', Fr h₀ L h' m → News h₀ L h' led → Q (.bytes (Bs (dots true x)) t) { s with heap := h', toks := tk' }) :
    wpAny (model prog w) A (call (.builtin "re.Pattern.sub") [.ref 79, .bytes rb tr, .bytes b tx]) Q E s := by
  subst e e'
  exact call_sub_bytes (subsD hx) hb hx (pat79 X) (by have := dots_len (bol x 0) (x.drop 0); simp only [List.drop_zero] at this ⊢; lia) (by decide +kernel) tx tr F N hQ
end
example : True := by
  k_with "call builtin:re.Pattern.sub" =>
    ((k_here; (first | refine' Mine.sub84 ?msX99 ?msF99 ?msN99 ?mse99 ?msx99 ?_ | refine' Mine.sub74 ?msX99 ?msF99 ?msN99 ?mse99 ?msx99 ?_); (case msX99 => k_asm); (case msF99 => k_asm); (case msN99 => k_asm); (case mse99 => first | exact Mine.c3 | exact Mine.c13 | rfl); (case msx99 => omega); intro _ _ _ _ _))
  trivial

theorem fixeols (w : World) (x : List Nat) (t : Tok) (hsz : x.length ≤ 100000) : Spec w 105 [.str (S x) t] (fun news => True) (fun _ r => ∃ t, r = .str (S (fixE x)) t) := by
  unfold Spec PR
  k_fill
  intro dp un gd cn cs a ccd cl outer A₀ base h₀ L m p loose mean mg mb news s Q E B F X N T hk hpre hd hu hret
  refine wpAny_call ?_
  k_dflt cell_enter
  refine letA ?_
  intro A1
  refine letV ?_
  intro e1
  k_steps
  exact hret _ [] _ _ (by assumption) (by simpa using (by assumption : News _ _ _ _)) (by simp) ⟨_, rfl⟩
theorem quoted (w : World) (x : List Nat) (t : Tok) (hsz : x.length ≤ 50000) : Spec w 91 [.str (S x) t] (fun news => True) (fun _ r => ∃ t, r = .str (S (dots true (fixE x))) t) := by
  unfold Spec PR
  k_fill
  intro dp un gd cn cs a ccd cl outer A₀ base h₀ L m p loose mean mg mb news s Q E B F X N T hk hpre hd hu hret
  have hl := fixE_len x
  refine wpAny_call ?_
  k_dflt cell_enter
  refine letA ?_
  intro A1
  refine letV ?_
  intro e1
  k_steps
  exact hret _ [] _ _ (by assumption) (by simpa using (by assumption : News _ _ _ _)) (by simp) ⟨_, rfl⟩
theorem periods (w : World) (x : List Nat) (t : Tok) (hb : ∀ c ∈ x, c < 256) (hsz : x.length ≤ 100000) : Spec w 98 [.bytes (Bs x) t] (fun news => True) (fun _ r => ∃ t, r = .bytes (Bs (dots true x)) t) := by
  unfold Spec PR
  k_fill
  intro dp un gd cn cs a ccd cl outer A₀ base h₀ L m p loose mean mg mb news s Q E B F X N T hk hpre hd hu hret
  refine wpAny_call ?_
  k_dflt cell_enter
  refine letA ?_
  intro A1
  refine letV ?_
  intro e1
  k_steps
  refine sub79 (by assumption) (by assumption) (by assumption) (by decide +kernel) rfl hb hsz fun t' h' tk' F' N' => ?_
  k_steps
  exact hret _ [] _ _ (by assumption) (by simpa using (by assumption : News _ _ _ _)) (by simp) ⟨_, rfl⟩
end
section
open PySem PySem.W PyProof.Rows PySem.Calls PySem.Builtin PySem.Builtin.ObjectAttr
set_option maxRecDepth 100000
set_option maxHeartbeats 2000000
theorem md_get : typeLookup (.type "method_descriptor") "__get__" = pure (some (.builtin "method_descriptor.__get__")) := by rw [typeLookup_type, builtinLookup_eq_fast]; kernel_rfl
theorem md_set : typeLookup (.type "method_descriptor") "__set__" = pure none := by rw [typeLookup_type, builtinLookup_eq_fast]; kernel_rfl
theorem md_del : typeLookup (.type "method_descriptor") "__delete__" = pure none := by rw [typeLookup_type, builtinLookup_eq_fast]; kernel_rfl
theorem ga_list : typeLookup (.type "list") "__getattribute__" = pure (some (.builtin "list.__getattribute__")) := by rw [typeLookup_type, builtinLookup_eq_fast]; kernel_rfl
theorem slot_ga : Slot "list" "__getattribute__" "list.__getattribute__" :=
  .of (owner := "list") (n := "__getattribute__") ga_list (by decide +kernel) (by decide +kernel) (by decide +kernel)
    (by first | exact .inl (by decide +kernel) | exact .inr (by decide +kernel)) (by rw [isSubtype_type]; kernel_rfl)
theorem entry_ga : entryFor table "list.__getattribute__" = some Builtin.«object.__getattribute__» := entryFor_alias (id' := "object.__getattribute__") (by kernel_rfl) (by first | rfl | decide +kernel) (by decide +kernel) (by kernel_rfl)
theorem args_ga (a b : Value) : argsOk "list.__getattribute__" ⟨[a, b], []⟩ := by unfold argsOk; kernel_rfl
theorem slot_mdget : Slot "method_descriptor" "__get__" "method_descriptor.__get__" :=
  .of (owner := "method_descriptor") (n := "__get__") md_get (by decide +kernel) (by decide +kernel) (by decide +kernel)
    (by first | exact .inl (by decide +kernel) | exact .inr (by decide +kernel)) (by rw [isSubtype_type]; kernel_rfl)
theorem entry_mdget : entryFor table "method_descriptor.__get__" = some Builtin.«method_descriptor.__get__» := entryFor_of_tree (by kernel_rfl)
theorem args_mdget (a b c : Value) : argsOk "method_descriptor.__get__" ⟨[a, b, c], []⟩ := by unfold argsOk; kernel_rfl
theorem type_app : typeOf (.builtin "list.append") = pure (.type "method_descriptor") := by show builtinType _ = _; rw [builtinType_eq_fast]; kernel_rfl
theorem look_app : typeLookup (.type "list") "append" = pure (some (.builtin "list.append")) := by rw [typeLookup_type, builtinLookup_eq_fast]; kernel_rfl
noncomputable abbrev bmObj (l : Addr) : Obj := { cls := .type "builtin_function_or_method", data := .fields #[.builtin "list.append", .ref l] }
section
variable {prog : Program} {w : World} {A : Around} {E : Value → Shared → Prop} {s : Shared}
theorem find_app {l : Addr} {its : Array Value} {n : Nat} {Q : ObjectAttr.Found → Shared → Prop} (ho : s.heap.get? l = some (listOf its n)) (h : Q (.bind (.builtin "method_descriptor.__get__") (.builtin "list.append")) s) :
    wpAny (model prog w) A (find (.ref l) (.type "list") "append") Q E s := by
  unfold find
  rw [look_app]
  refine wpAny_bind (wpAny_pure ?_)
  have e1 : getOf (some (.builtin "list.append")) = pure (some (.builtin "method_descriptor.__get__")) := by
    show specialOf _ _ = _
    unfold specialOf
    rw [type_app]
    exact md_get
  rw [e1]
  refine wpAny_bind (wpAny_pure ?_)
  have e2 : dataDescriptor? (some (.builtin "list.append")) (some (.builtin "method_descriptor.__get__")) = pure none := by
    unfold dataDescriptor? takesStores specialOf
    dsimp only
    rw [type_app]
    simp only [pure_bind]
    rw [md_set, md_del]
    rfl
  rw [e2]
  refine wpAny_bind (wpAny_pure ?_)
  unfold ownThenClass inOwnDict ObjectAttr.ownDict loadHead
  dsimp only
  refine wpAny_bind (wpAny_bind (wpAny_bind (wpAny_loadPart ho ?_)))
  dsimp only
  unfold instanceDict
  refine wpAny_bind (wpAny_loadPart ho ?_)
  dsimp only
  first | ((with_reducible refine wpIfT ?hwi ?_); (case hwi => exact (by rfl))) | rw [if_pos (by rfl)]
  refine wpAny_pure ?_
  unfold inDict
  refine wpAny_pure ?_
  dsimp only
  unfold copiedAttributeGuard
  dsimp only
  first | ((with_reducible refine wpIfF ?hwi ?_); (case hwi => exact (by decide +kernel))) | rw [if_neg (by decide +kernel)]
  refine wpAny_bind (wpAny_pure ?_)
  unfold byTheClass
  exact wpAny_bind (wpAny_rule (wpAny_pure h))
theorem getAttr_append {l : Addr} {its : Array Value} {n : Nat} {e : Bool} {Q : Value → Shared → Prop} (ho : s.heap.get? l = some (listOf its n))
    (h : Q (.ref s.heap.objs.size) { s with heap := s.heap.push (bmObj l), toks := s.toks + 1 }) : wpAny (model prog w) A (getAttr (.ref l) "append" e) Q E s := by
  unfold getAttr getAttrBy
  have hT : s.TypeIs (.ref l) "list" := ⟨_, ho, rfl⟩
  refine wpAny_bind (wpAny_mkText (wpAny_holding ?_))
  refine wpAny_bind (wpAny_typeOf (T := "list") ⟨_, ho, rfl⟩ ?_)
  rw [ga_list]
  refine wpAny_bind (wpAny_pure ?_)
  dsimp only
  first | ((with_reducible refine wpIfF ?hwi ?_); (case hwi => exact (by decide))) | rw [if_neg (by decide)]
  unfold getAttrByItsOwn
  have e1 : hookBefore (.type "list") = pure none := rfl
  rw [e1]
  refine wpAny_bind (wpAny_pure ?_)
  refine wpAny_bind (wpAny_attempt (wpAny_holding ?_))
  have e2 : callGetattribute (.ref l) (.str (Str.ofString "append") s.toks) (.builtin "list.__getattribute__") e = boundAndCalled (.builtin "list.__getattribute__") (.ref l) (.str (Str.ofString "append") s.toks) := by
    unfold callGetattribute
    first | ((with_reducible refine wpIfF ?hwi ?_); (case hwi => exact (by cases e <;> decide))) | rw [if_neg (by cases e <;> decide)]
  rw [e2]
  unfold boundAndCalled
  rw [slot_ga.bind]
  refine wpAny_bind (wpAny_pure ?_)
  dsimp only
  refine wpAny_call_entry slot_ga ⟨_, ho, rfl⟩ entry_ga ?_ (args_ga _ _)
  unfold «object.__getattribute__»
  have e3 : slotArgs "__getattribute__" 1 ⟨[.ref l, .str (Str.ofString "append") s.toks], []⟩ = pure (.ref l, [.str (Str.ofString "append") s.toks]) := rfl
  have e3' : slotArgs "__getattribute__" 1 ⟨.ref l :: [].append [.str (Str.ofString "append") s.toks], []⟩ = pure (.ref l, [.str (Str.ofString "append") s.toks]) := rfl
  rw [e3']
  refine wpAny_bind (wpAny_pure ?_)
  dsimp only
  have e4 : attrName (.str (Str.ofString "append") s.toks) = pure (Str.ofString "append") := rfl
  rw [e4]
  refine wpAny_bind (wpAny_pure ?_)
  refine wpAny_bind (wpAny_typeOf (T := "list") ⟨_, ho, rfl⟩ ?_)
  refine wpAny_bind (find_app ho ?_)
  dsimp only
  unfold bindTo
  dsimp only
  refine wpAny_bind (wpAny_holding ?_)
  refine wpAny_call_entry (self := .builtin "list.append") slot_mdget ?_ entry_mdget ?_ (args_mdget _ _ _)
  · exact type_app
  unfold «method_descriptor.__get__»
  have hsub : isSubtype (.type "list") (.type "list") = pure true := by rw [isSubtype_type]; kernel_rfl
  have htold : Manifest.toldItsClass.contains "list.append" = false := by decide +kernel
  have hT' : Shared.TypeIs { s with toks := s.toks + 1 } (.ref l) "list" := ⟨_, ho, rfl⟩
  have hown : isSubtype (.type "list") (.type (".".intercalate ("list.append".cutAt '.').dropLast)) = pure true := by
    rw [show ".".intercalate ("list.append".cutAt '.').dropLast = "list" from by decide +kernel]; exact hsub
  have hbool : (!(true : Bool)) = false := rfl
  repeat (first
    | with_reducible refine wpAny_bind ?_
    | with_reducible refine wpAny_pure ?_
    | with_reducible refine wpAny_of_eq hown ?_
    | with_reducible refine wpAny_typeOf hT' ?_
    | (rw [htold]; rw [if_neg Bool.false_ne_true])
    | (rw [hbool]; rw [if_neg Bool.false_ne_true])
    | ((with_reducible apply wpAny_ite_false); focus (rfl; done))
    | ((with_reducible apply wpAny_ite_true); focus (rfl; done))
    | with_reducible refine wpAny_rule ?_
    | with_reducible refine wpAny_alloc ?_
    | wp_delta)
  refine ⟨_, rfl, wpAny_pure ⟨_, rfl, ?_⟩⟩
  exact wpAny_pure h
end
end
section
open PySem PySem.W PyProof.Rows PySem.Calls PySem.Builtin PySem.Builtin.ObjectAttr
set_option maxRecDepth 100000
set_option maxHeartbeats 2000000
theorem chk_app (l : Addr) (v : Value) (sg : Manifest.Signature) (e : Manifest.signature? "list.append" = some sg) : Bind.checkArgs "list.append" { sg with full := s!"{Bind.lastOf "list"}.{Bind.lastOf "list.append"}" } ⟨[.ref l, v], []⟩ = pure () := by
  have hi : (Manifest.signature? "list.append").isSome = true := by kernel_rfl
  have : sg = (Manifest.signature? "list.append").get hi := by simp only [e, Option.get_some]
  subst this
  kernel_rfl
section
variable {prog : Program} {w : World} {A : Around} {E : Value → Shared → Prop} {s : Shared}
theorem bound_app {l : Addr} {v : Value} {its : Array Value} {n : Nat} {Q : Unit → Shared → Prop} (ho : s.heap.get? l = some (listOf its n)) (h : Q () s) :
    wpAny (model prog w) A (checkBoundCall "list.append" ⟨[.ref l, v], []⟩) Q E s := by
  unfold checkBoundCall
  have hi : (Manifest.signature? "list.append").isSome = true := by kernel_rfl
  have hs : ∃ sg, Manifest.signature? "list.append" = some sg := Option.isSome_iff_exists.mp hi
  obtain ⟨sg, hs⟩ := hs
  rw [hs]
  have hk : builtinKind "list.append" = some .method := by kernel_rfl
  rw [hk]
  dsimp only
  rw [if_neg (by decide)]
  have hT : s.TypeIs (.ref l) "list" := ⟨_, ho, rfl⟩
  have hsub : isSubtype (.type "list") (.type "module") = pure false := by rw [isSubtype_type]; kernel_rfl
  have hc := chk_app l v sg hs
  have hv : Manifest.varargsMethods.contains "list.append" = false := by decide +kernel
  unfold isInstance isType loadHead
  repeat (first
    | with_reducible refine wpAny_bind ?_
    | with_reducible refine wpAny_pure ?_
    | with_reducible refine wpAny_of_eq hsub ?_
    | with_reducible refine wpAny_of_eq hc ?_
    | with_reducible refine wpAny_typeOf hT ?_
    | with_reducible refine wpAny_loadPart ho ?_
    | (rw [hv]; rw [Bool.false_or, if_neg Bool.false_ne_true])
    | (rw [if_neg Bool.false_ne_true])
    | dsimp only [listOf])
  exact h

theorem code_add {b l : Addr} {v : Value} {its : Array Value} {n : Nat} {Q : Value → Shared → Prop} (hb : s.heap.get? b = some (bmObj l)) (ho : s.heap.get? l = some (listOf its n)) (hz : its.size < 16777216)
    (h : Q .none { s with heap := s.heap.update l (Obj.mapSeq fun a => a.push v) }) : wpAny (model prog w) A (call (.ref b) [v]) Q E s := by
  refine wpAny_call (codeAny_of_tree ?_)
  show wpAny _ A.in1 (callAny (.ref b) ⟨[v], []⟩) _ _ s
  unfold callAny
  dsimp only
  refine wpAny_bind (wpAny_load hb ?_)
  have e1 : (Value.type "builtin_function_or_method" == Value.type "method" || Value.type "builtin_function_or_method" == Value.type "builtin_function_or_method" || Value.type "builtin_function_or_method" == Value.type "method-wrapper") = true := by decide +kernel
  dsimp only [bmObj]
  rw [if_pos e1]
  have e2 : (Value.type "builtin_function_or_method" != Value.type "method") = true := by decide +kernel
  show wpAny _ _ (if (Value.type "builtin_function_or_method" != Value.type "method") = true then _ else _) _ _ _
  rw [if_pos e2]
  refine wpAny_bind (bound_app ho ?_)
  refine wpAny_pure ⟨plainId_quiet (by decide +kernel) _, codeAny_builtin entry_list_append ?_⟩
  rw [Around.under_plainId (by decide +kernel) _]
  show wpAny _ _ (updateSeq l (·.push v) >>= fun _ => ret .none) _ _ s
  refine wpAny_bind ?_
  exact wpAny_updateSeq ho rfl (wpAny_pure (by exact h)) (by rw [sizeLine_eq]; lia) (by simp only [Array.size_push, sizeLine_eq]; lia)
noncomputable def BmP (b l : Addr) (h : Heap) : Prop := h.get? b = some (bmObj l)
variable {M : Model} {env : Env} {pos : Pos} {first : List Value} {Q : Value → Shared → Prop} {h₀ : Heap} {L : Addr} {led : List (Addr × Obj)} {m : Str → Option Value}
theorem keeps_B {b l : Addr} (h : Heap) (X : BmP b l h) : ∃ k, (k = Keeper.frame ∨ k = Keeper.machine ∨ k = Keeper.boundFrame) ∧ Looks M h (keeperOf (.ref b)) k := by
  refine ⟨.machine, .inr (.inl rfl), (Looks.ld (part := none) X).andThen ?_⟩
  have e2 : (Value.type "builtin_function_or_method" != Value.type "method") = true := by decide +kernel
  have e3 : (Value.type "builtin_function_or_method" == Value.type "builtin_function_or_method" || Value.type "builtin_function_or_method" == Value.type "method-wrapper") = true := by decide +kernel
  dsimp only [bmObj]
  rw [if_pos e2, if_pos e3]
  exact .now
theorem callWith_B {b l : Addr} {e : PySem.Expr} {rest : List PySem.Expr} (_N : News h₀ L s.heap led) (_q : (b, bmObj l) ∈ led) (h : wpAny M A (spliced (backTo pos (starEach (e :: rest) env))) (fun vs s₁ => BmP b l s₁.heap ∧ wpAny M A (call (.ref b) (first ++ vs)) Q E s₁) E s)
    (he : starEach (e :: rest) env = (false, eval e env) :: starEach rest env) (hplain : (backTo pos (starEach rest env)).any (·.1) = false) :
    wpAny M A (callWith pos (.ref b) first (backTo pos (starEach (e :: rest) env)) []) Q E s := by
  rw [he] at h ⊢
  exact callWith_of (by show ((false || (backTo pos (starEach rest env)).any (·.1)) || false) = false; rw [hplain]; rfl) keeps_B (evalArgs_plain h)
theorem bmP {b l : Addr} {h : Heap} (N : News h₀ L h led) (hq : (b, bmObj l) ∈ led) : BmP b l h := (N _ hq).1
theorem call_add {b l : Addr} {v : Value} {ys : List Value} {n : Nat} {pre post : List (Addr × Obj)} (F : Fr h₀ L s.heap m) (N : News h₀ L s.heap (pre ++ (l, listOf ys.toArray n) :: post)) (hb : (b, bmObj l) ∈ pre ++ (l, listOf ys.toArray n) :: post)
    (h1 : ∀ p ∈ pre, p.1 ≠ l) (h2 : ∀ p ∈ post, p.1 ≠ l) (hz : ys.length < 16777216)
    (h : ∀ h' tk', Fr h₀ L h' m → News h₀ L h' (pre ++ (l, listOf (ys ++ [v]).toArray (n + 1)) :: post) → Q .none { s with heap := h', toks := tk' }) : wpAny (model prog w) A (call (.ref b) [v]) Q E s := by
  refine code_add (N _ hb).1 (N (l, listOf ys.toArray n) (by simp)).1 (by simpa using hz) ?_
  have u := news_upd (f := Obj.mapSeq fun a => a.push v) F N h1 h2 (push_obj ys n v) rfl
  exact h _ s.toks u.1 u.2
theorem get_add {l : Addr} {its : Array Value} {n : Nat} {e : Bool} (F : Fr h₀ L s.heap m) (N : News h₀ L s.heap led) (ho : (l, listOf its n) ∈ led)
    (h : ∀ b h' tk', (∀ p ∈ led, p.1 < b) → Fr h₀ L h' m → News h₀ L h' ((b, bmObj l) :: led) → Q (.ref b) { s with heap := h', toks := tk' }) : wpAny (model prog w) A (getAttr (.ref l) "append" e) Q E s :=
  getAttr_append (N _ ho).1 (h _ _ _ (fun p hp => Heap.lt_size (N p hp).1) (F.push _) (News.push F N _))
end
end
section
open PySem PySem.W PyProof.Rows PySem.Calls PySem.Builtin PySem.Builtin.Str
set_option maxRecDepth 100000
set_option maxHeartbeats 8000000
noncomputable def es45 (P : Params) : Array DictEntry := match (Mine.hp.heap_1 P).lookup 45 with | some ⟨_, _, .dict es _, _⟩ => es | _ => #[]
noncomputable def lits : List Nat := [46, 97, 45, 93, 33, 94, 38, 126, 124, 92, 35, 32, 9, 133, 233, 10, 13]
noncomputable def spec : List Nat := [40, 41, 91, 93, 123, 125, 63, 42, 43, 45, 124, 94, 36, 92, 46, 38, 126, 35, 32, 9, 10, 13, 11, 12]
noncomputable def escd (c : Nat) : List Nat := if spec.contains c then [92, c] else [c]
noncomputable def intOk (e : DictEntry) : Bool := match e.key with | .int k _ => e.hash == hashInt k | _ => false
theorem ok45 (P : Params) : (es45 P).toList.all intOk = true := by kernel_rfl
theorem intKeys45 (prog : Program) (w : World) : KeysOf (intKind prog w) (es45 w.params) := by
  intro e he
  have h := List.all_eq_true.mp (ok45 w.params) e (Array.mem_toList_iff.mpr he)
  unfold intOk at h
  generalize e1 : e.key = v at h
  cases v with
  | int k t => exact ⟨k, by simp [intKind, Value.isInt], show e.hash = hashInt k by simpa using h⟩
  | _ => cases h
theorem map45 {prog : Program} {w : World} {h : Heap} (X : (Mine.hp.heap_1 w.params).In h) : h.MapOf (intKind prog w) 45 (fun k => findBy Value.isInt (es45 w.params) k) :=
  ⟨_, es45 w.params, _, X 45 _ (by rfl), ⟨rfl, rfl, rfl⟩, by rfl, intKeys45 prog w, fun _ => rfl⟩
theorem find45 (P : Params) : ∀ c ∈ spec, ∃ t, findBy Value.isInt (es45 P) (c : Int) = some (.str (S [92, c]) t) := by
  intro c hc
  simp only [spec, List.mem_cons, List.not_mem_nil, or_false] at hc
  rcases hc with rfl | rfl | rfl | rfl | rfl | rfl | rfl | rfl | rfl | rfl | rfl | rfl | rfl | rfl | rfl | rfl | rfl | rfl | rfl | rfl | rfl | rfl | rfl | rfl <;> exact ⟨_, by rfl⟩
theorem miss45 (P : Params) : ∀ c ∈ lits, c ∉ spec → findBy Value.isInt (es45 P) (c : Int) = none := by
  intro c hc hn
  simp only [lits, List.mem_cons, List.not_mem_nil, or_false] at hc
  rcases hc with rfl | rfl | rfl | rfl | rfl | rfl | rfl | rfl | rfl | rfl | rfl | rfl | rfl | rfl | rfl | rfl | rfl <;> first | rfl | exact absurd (by decide) hn
section
variable {prog : Program} {w : World} {A : Around} {E : Value → Shared → Prop} {s : Shared} {h₀ : Heap} {L : Addr} {m : Str → Option Value} {led : List (Addr × Obj)} {c : Nat}
theorem tab_text {Q : Mapped → Shared → Prop} (X : (Mine.hp.heap_1 w.params).In h₀) (F : Fr h₀ L s.heap m) (hc : c ∈ spec) (h : ∀ tk, Q (.text (S [92, c])) { s with toks := tk }) : wpAny (model prog w) A (tableLookup (.ref 45) c) Q E s := by
  obtain ⟨t, ht⟩ := find45 w.params c hc
  unfold tableLookup
  refine wpAny_bind (wpAny_attempt ?_)
  refine wpAny_bind (wpAny_mkInt ?_)
  refine wpAny_getItem_of (f := fun k => findBy Value.isInt (es45 w.params) k) (knd := intKind prog w) (k := (c : Int)) (by simp [intKind, Value.isInt]) (map45 (X.keeps F.keep)) ht ?_
  dsimp only
  refine wpAny_bind (wpAny_pure ?_)
  dsimp only
  refine wpAny_bind (wpAny_pure ?_)
  dsimp only
  exact wpAny_pure (h _)
theorem tab_keep {Q : Mapped → Shared → Prop} (X : (Mine.hp.heap_1 w.params).In h₀) (F : Fr h₀ L s.heap m) (N : News h₀ L s.heap led) (hh : A.handled = none) (hc : c ∈ lits) (hn : c ∉ spec)
    (h : ∀ h' tk, Fr h₀ L h' m → News h₀ L h' led → Q .keep { s with heap := h', toks := tk }) : wpAny (model prog w) A (tableLookup (.ref 45) c) Q E s := by
  unfold tableLookup
  refine wpAny_bind (wpAny_attempt ?_)
  refine wpAny_bind (wpAny_mkInt ?_)
  refine wpAny_getItem_missing_of (f := fun k => findBy Value.isInt (es45 w.params) k) (knd := intKind prog w) (k := (c : Int)) (by simp [intKind, Value.isInt]) (by decide) hh (map45 (X.keeps F.keep)) (miss45 w.params c hc hn) ?_
  intro h' e ne
  dsimp only
  obtain ⟨ob, t, he, hcl, hd⟩ := ne.there
  have hsub : isSubtype (.type "KeyError") (.type "LookupError") = pure true := by rw [isSubtype_type]; kernel_rfl
  have hT : Shared.TypeIs { s with heap := h', toks := s.toks + 1 + 1 } (.ref e) "KeyError" := ⟨_, he, hcl⟩
  have k : Heap.ExtBut s.heap.objs.size s.heap h' := fun b o _ q => ne.keeps b o q
  unfold isInstance
  repeat (first
    | with_reducible refine wpAny_bind ?_
    | with_reducible refine wpAny_pure ?_
    | with_reducible refine wpAny_of_eq hsub ?_
    | with_reducible refine wpAny_typeOf hT ?_
    | with_reducible refine wpAny_rule ?_
    | rw [if_pos rfl])
  exact h _ _ (fr_ext F k) (news_ext N k)
theorem forIn_one {α β : Type} {m : Type → Type} [Monad m] [LawfulMonad m] (a : α) (b : β) (f : α → β → m (ForInStep β)) : forIn #[a] b f = (f a b >>= fun r => match r with | .done b => pure b | .yield b => pure b) := by
  rw [List.forIn_toArray, List.forIn_cons]; rfl
theorem tr_call {t : Tok} {Q : Value → Shared → Prop} (X : (Mine.hp.heap_1 w.params).In h₀) (F : Fr h₀ L s.heap m) (N : News h₀ L s.heap led) (hh : A.in1.handled = none) (hc : c ∈ lits)
    (h : ∀ t h' tk, Fr h₀ L h' m → News h₀ L h' led → Q (.str (S (escd c)) t) { s with heap := h', toks := tk }) : wpAny (model prog w) A (call (.builtin "str.translate") [.str (S [c]) t, .ref 45]) Q E s := by
  refine wpAny_call_entry PySem.F.slot_str_translate (by exact rfl) PySem.F.entry_str_translate ?_ (PySem.F.args_str_translate_2 _ _)
  unfold «str.translate»
  have e1 : strOneArg "translate" ⟨[.str (S [c]) t, .ref 45], []⟩ = pure (.str (S [c]) t, S [c], .ref 45) := rfl
  rw [e1]
  refine wpAny_bind (wpAny_pure ?_)
  dsimp only
  rw [if_neg (show ¬ (((S [c]).length == 0) = true) from fun h => by cases h)]
  have e2 : (S [c]).cps = #[c] := rfl
  rw [e2]
  have el : List.lookup c ([] : List (Nat × Option Nat)) = none := rfl
  rw [forIn_one]
  dsimp only [List.lookup]
  have tl0 : tooLong 0 = false := by decide
  have tl1 : tooLong (0 + 1) = false := by decide
  have tl2 : tooLong (0 + (S [92, c]).length) = false := by show tooLong 2 = false; decide
  have et : ((S [92, c]).length == 1 && (S [92, c]).cps.all fun x => decide (x < 128)) = false := rfl
  by_cases hsp : c ∈ spec
  · have hlt : c < 128 := (by decide : ∀ c ∈ spec, c < 128) c hsp
    have h128 : (#[c].all fun x => decide (x < 128)) = true := by simp [hlt]
    simp -iota only [h128]
    have hx : escd c = [92, c] := if_pos (List.contains_iff_mem.mpr hsp)
    rw [hx] at h
    repeat (first
      | with_reducible refine wpAny_bind ?_
      | with_reducible refine wpAny_pure ?_
      | (with_reducible refine tab_text X F hsp fun tk => ?_)
      | with_reducible refine wpAny_rule ?_
      | simp -iota only [et, tl0, tl2, Bool.false_eq_true, if_false, if_true]
      | dsimp only)
    unfold retStr
    refine wpAny_bind (wpAny_mkStr ?_ ?_)
    · exact wpAny_pure ⟨_, rfl, h _ _ _ F N⟩
    · show 2 ≤ _; rw [sizeLine_eq]; lia
  · have hx : escd c = [c] := if_neg fun q => hsp (List.contains_iff_mem.mp q)
    rw [hx] at h
    by_cases hlt : c < 128
    · have h128 : (#[c].all fun x => decide (x < 128)) = true := by simp [hlt]
      simp -iota only [h128]
      repeat (first
        | with_reducible refine wpAny_bind ?_
        | with_reducible refine wpAny_pure ?_
        | (with_reducible refine tab_keep X F N hh hc hsp fun h' tk F' N' => ?_)
        | with_reducible refine wpAny_rule ?_
        | simp -iota only [tl0, tl1, Bool.false_eq_true, if_false, if_true]
        | dsimp only)
      unfold retStr
      refine wpAny_bind (wpAny_mkStr ?_ ?_)
      · exact wpAny_pure ⟨_, rfl, h _ _ _ F' N'⟩
      · show 1 ≤ _; rw [sizeLine_eq]; lia
    · have h128 : (#[c].all fun x => decide (x < 128)) = false := by simp [hlt]
      simp -iota only [h128]
      repeat (first
        | with_reducible refine wpAny_bind ?_
        | with_reducible refine wpAny_pure ?_
        | (with_reducible refine tab_keep X F N hh hc hsp fun h' tk F' N' => ?_)
        | with_reducible refine wpAny_rule ?_
        | simp -iota only [tl0, tl1, Bool.false_eq_true, if_false, if_true]
        | dsimp only)
      unfold retStr
      refine wpAny_bind (wpAny_mkStr ?_ ?_)
      · exact wpAny_pure ⟨_, rfl, h _ _ _ F' N'⟩
      · show 1 ≤ _; rw [sizeLine_eq]; lia
theorem getm_tr {x : Str} {t : Tok} {pl : Sem Bool} {M : Model} {Q : Value × List Value → Shared → Prop} (h : Q (.builtin "str.translate", [.str x t]) s) : wpAny M A (getMethod (.str x t) "translate" pl) Q E s :=
  getMethod_builtin (T := "str") (by exact rfl) PySem.F.plainAttrs_str PySem.F.slot_str_translate PySem.F.type_str_translate (fun _ e => nomatch e) h
end
example : True := by
  k_with "getMethod str" =>
    ((k_here; with_reducible refine Mine.getm_tr ?_))
  trivial
theorem escape (w : World) (c : Nat) (t : Tok) (hc : c ∈ lits) : Spec w 55 [.str (S [c]) t] (fun news => True) (fun _ r => ∃ t, r = .str (S (escd c)) t) := by
  unfold Spec PR
  k_fill
  intro dp un gd cn cs a ccd cl outer A₀ base h₀ L m p loose mean mg mb news s Q E B F X N T hk hpre hd hu hret
  refine wpAny_call ?_
  k_dflt cell_enter
  refine letA ?_
  intro A1
  refine letV ?_
  intro e1
  k_steps
  refine tr_call (by assumption) (by assumption) (by assumption) rfl hc fun t h' tk F' N' => ?_
  k_steps
  exact hret _ [] _ _ (by assumption) (by simpa using (by assumption : News _ _ _ _)) (by simp) ⟨_, rfl⟩
end
section
open PySem PySem.W PyProof.Rows PySem.Calls
set_option maxRecDepth 100000
set_option maxHeartbeats 4000000
section
variable {prog : Program} {w : World} {A : Around} {E : Value → Shared → Prop} {s : Shared} {env : Env} {h₀ : Heap} {Q : Flow → Shared → Prop}
inductive WNx (h₀ : Heap) (L : Addr) (s : Shared) (I : Nat → (Str → Option Value) → List (Addr × Obj) → Prop) (n : Nat) (s₃ : Shared) : Prop
  | mk (k h' tk' m' led' : _) (h1 : k < n) (h2 : s₃ = { s with heap := h', toks := tk' }) (h3 : Fr h₀ L h' m') (h4 : News h₀ L h' led') (h5 : I k m' led') : WNx h₀ L s I n s₃
noncomputable def WEnd (h₀ : Heap) (L : Addr) (s : Shared) (Q : Flow → Shared → Prop) (I : Nat → (Str → Option Value) → List (Addr × Obj) → Prop) (n : Nat) (f : Flow) (s₃ : Shared) : Prop :=
  match f with
  | .ret v => Q (.ret v) s₃
  | .brk => Q .next s₃
  | _ => WNx h₀ L s I n s₃
theorem while_fr {test : PySem.Expr} {body : List Stmt} {pos : Pos} (I : Nat → (Str → Option Value) → List (Addr × Obj) → Prop) (n : Nat) {m : Str → Option Value} {led : List (Addr × Obj)} (hI : I n m led)
    (F : Fr h₀ env.locals s.heap m) (N : News h₀ env.locals s.heap led)
    (turn : ∀ E' n m led h tk, I n m led → Fr h₀ env.locals h m → News h₀ env.locals h led →
      wpAny (model prog w) A (isTrue test env (eval test env)) (fun b s₂ => if b then wpAny (model prog w) A (execs body env) (WEnd h₀ env.locals s Q I n) E' s₂ else Q .next s₂) E' { s with heap := h, toks := tk }) :
    wpAny (model prog w) A (exec (.While test body [] pos) env) Q E s := by
  refine wpAny_While (codeAny_whileLoop (fun n s' => ∃ m led h tk, s' = { s with heap := h, toks := tk } ∧ I n m led ∧ Fr h₀ env.locals h m ∧ News h₀ env.locals h led) ?_ n ⟨m, led, s.heap, s.toks, rfl, hI, F, N⟩)
  rintro n s' ⟨m, led, h, tk, rfl, hI, F, N⟩
  refine wpAny_mono (turn _ n m led h tk hI F N) (fun b s₂ h₂ => ?_) fun _ _ e => e
  cases b with
  | false =>
    simp -iota only [Bool.false_eq_true, if_false] at h₂ ⊢
    exact wpAny_execs_nil h₂
  | true =>
    simp -iota only [if_true] at h₂ ⊢
    refine wpAny_mono h₂ (fun f s₃ h₃ => ?_) fun _ _ e => e
    cases f with
    | ret v => exact h₃
    | brk => exact h₃
    | next => obtain ⟨k, h', tk', m', led', hk, rfl, F', N', hI'⟩ := h₃; exact ⟨k, hk, m', led', h', tk', rfl, hI', F', N'⟩
    | cont => obtain ⟨k, h', tk', m', led', hk, rfl, F', N', hI'⟩ := h₃; exact ⟨k, hk, m', led', h', tk', rfl, hI', F', N'⟩
theorem while_post {test : PySem.Expr} {body : List Stmt} {pos : Pos} (I : Nat → (Str → Option Value) → List (Addr × Obj) → Prop) (Post : (Str → Option Value) → List (Addr × Obj) → Prop) (n : Nat) {m : Str → Option Value} {led : List (Addr × Obj)} (hI : I n m led)
    (F : Fr h₀ env.locals s.heap m) (N : News h₀ env.locals s.heap led)
    (turn : ∀ E' (Q' : Flow → Shared → Prop) n m led h tk, (∀ m led h tk, Post m led → Fr h₀ env.locals h m → News h₀ env.locals h led → Q' .next { s with heap := h, toks := tk }) → I n m led → Fr h₀ env.locals h m → News h₀ env.locals h led →
      wpAny (model prog w) A (isTrue test env (eval test env)) (fun b s₂ => if b then wpAny (model prog w) A (execs body env) (WEnd h₀ env.locals s Q' I n) E' s₂ else Q' .next s₂) E' { s with heap := h, toks := tk })
    (done : ∀ m led h tk, Post m led → Fr h₀ env.locals h m → News h₀ env.locals h led → Q .next { s with heap := h, toks := tk }) :
    wpAny (model prog w) A (exec (.While test body [] pos) env) Q E s :=
  while_fr I n hI F N fun E' n m led h tk hI F N => turn E' Q n m led h tk done hI F N
end
section
variable {prog : Program} {w : World} {A : Around} {E : Value → Shared → Prop} {s : Shared} {h₀ : Heap} {L : Addr} {m : Str → Option Value} {Q : Value → Shared → Prop}
noncomputable def Apart (l : Addr) (post : List (Addr × Obj)) : Prop := ∀ p ∈ post, p.1 ≠ l
theorem add1 {b l : Addr} {v : Value} {ys : List Value} {n : Nat} {post : List (Addr × Obj)} (F : Fr h₀ L s.heap m) (N : News h₀ L s.heap ((b, bmObj l) :: (l, listOf ys.toArray n) :: post)) (hb : b ≠ l) (hp : Apart l post) (hz : ys.length < 16777216)
    (h : ∀ h' tk', Fr h₀ L h' m → News h₀ L h' ((b, bmObj l) :: (l, listOf (ys ++ [v]).toArray (n + 1)) :: post) → Q .none { s with heap := h', toks := tk' }) : wpAny (model prog w) A (call (.ref b) [v]) Q E s :=
  call_add (pre := [(b, bmObj l)]) F N (.head _) (fun p q => by rw [List.mem_singleton.mp q]; exact hb) hp hz h
noncomputable def At (x : List Nat) (i : Int) (c : Nat) : Prop := 0 ≤ i ∧ i < 2 ^ 62 ∧ x[i.toNat]? = some c
theorem str_at {value slice : PySem.Expr} {x : List Nat} {i : Int} {c : Nat} {t u : Tok} (hc : At x i c) (h : ∀ t' tk', Q (.str (S [c]) t') { s with toks := tk' })
    (hs : subscripted slice false (.str (S x) t) (.int i u) = operate [.str (S x) t, .int i u] (getItem (.str (S x) t) (.int i u))) :
    wpAny (model prog w) A (subscriptTail value slice (.str (S x) t) (.int i u)) Q E s := by
  obtain ⟨h0, h1, h2⟩ := hc
  have hlen : i.toNat < x.length := (List.getElem?_eq_some_iff.mp h2).1
  refine tail_any (T := "str") (by exact rfl) PySem.F.slot_str_getitem.lookup (PyProof.Rows.getItem_str (c := c) ?_ ?_ (h _ _)) hs
  · rw [Bool.or_eq_false_iff, decide_eq_false_iff_not, decide_eq_false_iff_not]; lia
  · have e : seqIndex? i (S x).length = some i.toNat := by
      unfold seqIndex?
      have hi : ¬ i < 0 := by lia
      have hl : (i.toNat : Int) = i := Int.toNat_of_nonneg h0
      dsimp only
      rw [if_neg hi, S_len]
      rw [if_pos (by rw [Bool.and_eq_true, decide_eq_true_eq, decide_eq_true_eq]; lia)]
    rw [e]
    show (S x).cps[i.toNat]? = some c
    simpa [S] using h2
theorem len_S {x : List Nat} {t : Tok} (hx : x.length < 16777216) (h : ∀ t' tk', Q (.int x.length t') { s with toks := tk' }) : wpAny (model prog w) A (call (.builtin "len") [.str (S x) t]) Q E s :=
  P.len_str (by rw [S_len]; lia) (by rw [S_len]; exact h _ _)
end
example : True := by
  k_with "call builtin:len" =>
    ((k_here; (with_reducible show wpAny _ _ (call (Value.builtin _) [Value.str _ _]) _ _ _); refine' Mine.len_S ?mlx911 ?_; (case mlx911 => omega); intro _ _))
  trivial
example : True := by
  k_with "subscriptTail" =>
    (((with_reducible show wpAny _ _ (subscriptTail _ _ (Value.str _ _) (Value.int _ _)) _ _ _); refine' Mine.str_at ?msat912 ?_ ?msas912; (case msat912 => with_reducible assumption); (case msas912 => first | with_reducible exact Mine.sub_name | with_reducible exact Mine.sub_const | with_reducible exact Mine.sub_binop | with_reducible exact Mine.sub_unop | with_reducible exact Mine.sub_slice | with_unfolding_all rfl); intro _ _))
  trivial
example : True := by
  k_with "subscriptTail Name Name str int" =>
    (((with_reducible show wpAny _ _ (subscriptTail _ _ (Value.str _ _) (Value.int _ _)) _ _ _); refine' Mine.str_at ?msat913 ?_ ?msas913; (case msat913 => with_reducible assumption); (case msas913 => first | with_reducible exact Mine.sub_name | with_reducible exact Mine.sub_const | with_reducible exact Mine.sub_binop | with_reducible exact Mine.sub_unop | with_reducible exact Mine.sub_slice | with_unfolding_all rfl); intro _ _))
  trivial
example : True := by
  k_with "getAttr ref" =>
    ((k_here; refine' Mine.get_add ?mgaF914 ?mgaN914 ?mgal914 ?_; (case mgaF914 => k_asm); (case mgaN914 => k_asm); (case mgal914 => first | assumption | exact List.Mem.tail _ (by assumption) | k_mem); intro _ _ _ _ _ _))
  trivial
example : True := by
  k_with "callWith ref" =>
    ((k_here; k_dflt (refine' Mine.callWith_B ?mcbN915 ?mcbm915 ?_ rfl rfl; (case mcbN915 => k_asm); (case mcbm915 => k_mem); k_whole)))
  trivial
example : True := by
  k_with "And" =>
    (((with_reducible show Mine.BmP _ _ _ ∧ _); refine ⟨Mine.bmP (by k_asm) (by k_mem), ?_⟩; try dsimp only [List.nil_append, List.cons_append]))
  trivial
example : True := by
  k_with "call ref" =>
    ((k_here; refine' Mine.add1 ?madF917 ?madN917 ?madb917 ?madp917 ?madz917 ?_; (case madF917 => k_asm); (case madN917 => k_asm); (case madb917 => assumption); (case madp917 => assumption); (case madz917 => first | assumption | decide); intro _ _ _ _))
  trivial
theorem ite_t {a b : Prop} (h : a) : if (true = true) then a else b := h
theorem ite_f {a b : Prop} (h : b) : if (false = true) then a else b := h
example : True := by
  k_with "ite" =>
    (first | with_reducible refine Mine.ite_t ?_ | with_reducible refine Mine.ite_f ?_)
  trivial
example : True := by
  k_with "eval Name" =>
    ((k_here; k_dflt (refine' ld ?mnF919 ?mnv919 ?_; (case mnF919 => with_reducible assumption); (case mnv919 => exact Eq.refl (some _)); k_whole)))
  trivial
theorem consL {M : Model} {A : Around} {E : Value → Shared → Prop} {s : Shared} {env : Env} {st : Stmt} {rest : List Stmt} {Q : Flow → Shared → Prop}
    (h : let R : Flow → Shared → Prop := fun f s' => match f with | .next => wpAny M A (execs rest env) Q E s' | f => Q f s'; wpAny M A (exec st env) R E s) : wpAny M A (execs (st :: rest) env) Q E s := wpAny_execs_cons h
end
section
open PySem PySem.W PyProof.Rows PySem.Calls
set_option maxRecDepth 100000
set_option maxHeartbeats 8000000
noncomputable def mtab : List (List Nat) := [[98,45,97],[10],[46],[97],[46,45,47],[13],[9,45,10],[10,45,46],[13,45,46]]
noncomputable def It.Ok : It → Prop
  | .lit c => c ∈ lits
  | .br _ ms => ms ≠ [] ∧ ∀ m ∈ ms, m ∈ mtab
  | _ => True
noncomputable def kept (ms : List (List Nat)) : List Nat := (ms.filter (· ≠ [98, 45, 97])).flatten
noncomputable def pieceOf : It → Option (List Nat)
  | .star => none
  | .qm => some [46]
  | .lit c => some (escd c)
  | .br neg ms => some (if kept ms = [] then (if neg then [46] else [40, 63, 33, 41]) else (if neg then [91, 94] else [91]) ++ kept ms ++ [93])
theorem pieceOf_e1 : pieceOf .star = none := rfl
theorem pieceOf_e2 : pieceOf .qm = some [46] := rfl
theorem pieceOf_e3 {c : Nat} : pieceOf (.lit c) = some (escd c) := rfl
theorem pieceOf_e4 {neg : Bool} {ms : List (List Nat)} : pieceOf (.br neg ms) = some (if kept ms = [] then (if neg then [46] else [40, 63, 33, 41]) else (if neg then [91, 94] else [91]) ++ kept ms ++ [93]) := rfl
noncomputable def addPiece (ps : List (Option (List Nat))) (p : Option (List Nat)) : List (Option (List Nat)) := if p = none ∧ ps.getLast? = some none then ps else ps ++ [p]
noncomputable def pieces (its : List It) : List (Option (List Nat)) := its.foldl (fun acc it => addPiece acc (pieceOf it)) []
theorem pieces_take (its : List It) (i : Nat) (hi : i < its.length) : pieces (its.take (i + 1)) = addPiece (pieces (its.take i)) (pieceOf its[i]) := by
  unfold pieces
  rw [List.take_add_one, List.getElem?_eq_getElem hi, Option.toList_some, List.foldl_append]
  rfl
theorem addPiece_len (ps : List (Option (List Nat))) (p : Option (List Nat)) : (addPiece ps p).length ≤ ps.length + 1 := by
  unfold addPiece; split <;> simp
theorem pieces_len (its : List It) (i : Nat) : (pieces (its.take i)).length ≤ i := by
  induction i with
  | zero => simp [pieces]
  | succ i ih =>
    by_cases hi : i < its.length
    · rw [pieces_take its i hi]
      have := addPiece_len (pieces (its.take i)) (pieceOf its[i])
      lia
    · rw [List.take_of_length_le (by lia)]
      rw [List.take_of_length_le (by lia)] at ih
      lia
noncomputable def PcIs (st : Value) : Value → Option (List Nat) → Prop
  | v, none => v = st
  | v, some x => ∃ t, v = .str (S x) t
inductive PcsAre (st : Value) : List Value → List (Option (List Nat)) → Prop
  | nil : PcsAre st [] []
  | cons {v : Value} {p : Option (List Nat)} {vs : List Value} {ps : List (Option (List Nat))} : PcIs st v p → PcsAre st vs ps → PcsAre st (v :: vs) (p :: ps)
theorem PcsAre.len {st : Value} {vs : List Value} {ps : List (Option (List Nat))} (h : PcsAre st vs ps) : vs.length = ps.length := by
  induction h with
  | nil => rfl
  | cons _ _ ih => exact congrArg (· + 1) ih
theorem PcsAre.snoc {st : Value} {v : Value} {p : Option (List Nat)} {vs : List Value} {ps : List (Option (List Nat))} (h : PcsAre st vs ps) (q : PcIs st v p) : PcsAre st (vs ++ [v]) (ps ++ [p]) := by
  induction h with
  | nil => exact .cons q .nil
  | cons a _ ih => exact .cons a ih
theorem PcsAre.get {st : Value} {vs : List Value} {ps : List (Option (List Nat))} (h : PcsAre st vs ps) : ∀ {i : Nat} (hi : i < ps.length), ∃ v, vs[i]? = some v ∧ PcIs st v ps[i] := by
  induction h with
  | nil => intro i hi; exact absurd hi (Nat.not_lt_zero _)
  | cons a _ ih =>
    intro i hi
    cases i with
    | zero => exact ⟨_, rfl, a⟩
    | succ i =>
      obtain ⟨v, h1, h2⟩ := ih (Nat.lt_of_succ_lt_succ hi)
      exact ⟨v, h1, h2⟩
theorem allLt_mem {d : Addr} {l : List (Addr × Obj)} (h : AllLt d l) : ∀ p ∈ l, p.1 < d := by
  induction l with
  | nil => intro p hp; cases hp
  | cons q r ih =>
    intro p hp
    rcases List.mem_cons.mp hp with e | hp
    · rw [e]; exact h.1
    · exact ih h.2 p hp
theorem t1 (b l : Addr) (n : Nat) (rest : List (Addr × Obj)) (lt2 : ∀ p ∈ (l, W.listOf #[] n) :: rest, p.1 < b) : b ≠ l := Nat.ne_of_gt (lt2 (l, W.listOf #[] n) (List.mem_cons_self ..))
theorem apl {l : Addr} {rest : List (Addr × Obj)} (h : 57 < l) (hr : AllLt l rest) (ts : Array Value) : Apart l ((57, tabObj ts) :: rest) := by
  intro p hp
  rcases List.mem_cons.mp hp with e | hp
  · rw [e]; exact Nat.ne_of_lt h
  · exact Nat.ne_of_lt (allLt_mem hr p hp)
theorem text_pos (it : It) : 0 < it.text.length := by
  cases it <;> simp [text_e1, text_e2, text_e3, text_e4]
  lia
theorem pos_lt {its : List It} {k : Nat} (hk : k < its.length) : (patText (its.take k)).length < (patText its).length := by
  have h1 := patText_take its k hk
  have h2 := patText_le its (k + 1)
  have h3 := text_pos its[k]
  rw [h1, List.length_append] at h2
  lia
theorem k_of {its : List It} {k : Nat} (hk : k ≤ its.length) (h : (patText (its.take k)).length < (patText its).length) : k < its.length := by
  rcases Nat.lt_or_ge k its.length with q | q
  · exact q
  · rw [List.take_of_length_le q] at h; exact absurd h (Nat.lt_irrefl _)
theorem k_eq {its : List It} {k : Nat} (hk : k ≤ its.length) (h : ¬ (patText (its.take k)).length < (patText its).length) : k = its.length := by
  rcases Nat.lt_or_ge k its.length with q | q
  · exact absurd (pos_lt q) h
  · exact Nat.le_antisymm hk q
theorem patText_split {its : List It} {k : Nat} (hk : k < its.length) : ∃ post, patText its = patText (its.take k) ++ its[k].text ++ post := by
  refine ⟨patText (its.drop (k + 1)), ?_⟩
  rw [← patText_take its k hk]
  unfold patText
  rw [← List.flatMap_append, List.take_append_drop]
theorem at_of {x pre mid post : List Nat} (hx : x = pre ++ mid ++ post) (hl : x.length ≤ 1000) {j : Nat} {c : Nat} (hj : mid[j]? = some c) {i : Int} (hi : i = (pre.length : Int) + j) : At x i c := by
  have hjl : j < mid.length := (List.getElem?_eq_some_iff.mp hj).1
  have e : i.toNat = pre.length + j := by lia
  have hl' : x.length = pre.length + mid.length + post.length := by rw [hx]; simp [List.length_append, Nat.add_assoc]
  refine ⟨by lia, by lia, ?_⟩
  rw [e, hx, List.append_assoc, List.getElem?_append_right (by lia), Nat.add_sub_cancel_left, List.getElem?_append_left hjl]
  exact hj
theorem PcsAre.last {st : Value} {ys : List Value} {ps : List (Option (List Nat))} (h : PcsAre st ys ps) : (ys = [] ∧ ps = []) ∨ ∃ zs z qs q, ys = zs ++ [z] ∧ ps = qs ++ [q] ∧ PcIs st z q := by
  induction h with
  | nil => exact .inl ⟨rfl, rfl⟩
  | cons a b ih =>
    rename_i v p vs ps
    rcases ih with ⟨rfl, rfl⟩ | ⟨zs, z, qs, q, rfl, rfl, hq⟩
    · exact .inr ⟨[], v, [], p, rfl, rfl, a⟩
    · exact .inr ⟨v :: zs, z, p :: qs, q, rfl, rfl, hq⟩
theorem ys_lt {st : Value} {ys : List Value} {its : List It} {k : Nat} (h : PcsAre st ys (pieces (its.take k))) (hk : k ≤ 100) : ys.length < 16777216 := by
  have := h.len; have := pieces_len its k; lia
theorem add_star {its : List It} {k : Nat} {ps : List (Option (List Nat))} {st v : Value} {ys : List Value} (hp1 : pieces (its.take (k + 1)) = addPiece ps none) (hn : ps.getLast? ≠ some none) (h : PcsAre st ys ps) (hv : PcIs st v none) : PcsAre st (ys ++ [v]) (pieces (its.take (k + 1))) := by
  rw [hp1]; unfold addPiece; rw [if_neg (fun q => hn q.2)]; exact h.snoc hv
theorem add_some {its : List It} {k : Nat} {ps : List (Option (List Nat))} {st v : Value} {ys : List Value} {x : List Nat} (hp1 : pieces (its.take (k + 1)) = addPiece ps (some x)) (h : PcsAre st ys ps) (hv : PcIs st v (some x)) : PcsAre st (ys ++ [v]) (pieces (its.take (k + 1))) := by
  rw [hp1]; unfold addPiece; rw [if_neg (fun q => nomatch q.1)]; exact h.snoc hv
theorem add_same {its : List It} {k : Nat} {ps : List (Option (List Nat))} {st : Value} {ys : List Value} (hp1 : pieces (its.take (k + 1)) = addPiece ps none) (hn : ps.getLast? = some none) (h : PcsAre st ys ps) : PcsAre st ys (pieces (its.take (k + 1))) := by
  rw [hp1]; unfold addPiece; rw [if_pos ⟨rfl, hn⟩]; exact h
section
variable {prog : Program} {w : World} {A : Around} {E : Value → Shared → Prop} {s : Shared} {h₀ : Heap} {L l : Addr} {led : List (Addr × Obj)} {n : Nat} {u : Tok}
theorem isnot_star {st v : Value} {p : Option (List Nat)} {Q : Value → Shared → Prop} (hst : st = .none ∨ ∃ o, st = .ref o) (hv : PcIs st v p) (h : Q (.bool p.isSome) s) : wpAny (model prog w) A (compareOp .IsNot v st) Q E s := by
  cases p with
  | none =>
    have e : v = st := hv
    rw [e]
    rcases hst with rfl | ⟨o, rfl⟩
    · exact wpAny_isNot_self rfl h
    · exact wpAny_isNot_ref_self h
  | some x =>
    obtain ⟨t, rfl⟩ := hv
    rcases hst with rfl | ⟨o, rfl⟩
    · exact wpAny_isNot_other rfl (fun q => nomatch q) h
    · exact wpAny_isNot_other rfl (fun q => nomatch q) h
theorem is_star {st v : Value} {p : Option (List Nat)} {Q : Value → Shared → Prop} (hst : st = .none ∨ ∃ o, st = .ref o) (hv : PcIs st v p) (h : Q (.bool p.isNone) s) : wpAny (model prog w) A (compareOp .Is v st) Q E s := by
  cases p with
  | none =>
    have e : v = st := hv
    rw [e]
    rcases hst with rfl | ⟨o, rfl⟩
    · exact wpAny_is_self rfl h
    · exact wpAny_is_ref_self h
  | some x =>
    obtain ⟨t, rfl⟩ := hv
    rcases hst with rfl | ⟨o, rfl⟩
    · exact wpAny_is_other rfl (fun q => nomatch q) h
    · exact wpAny_is_other rfl (fun q => nomatch q) h
theorem isnot_T {st v : Value} {x : List Nat} {Q : Value → Shared → Prop} (hst : st = .none ∨ ∃ o, st = .ref o) (hv : PcIs st v (some x)) (h : Q (.bool true) s) : wpAny (model prog w) A (compareOp .IsNot v st) Q E s := isnot_star hst hv h
theorem isnot_F {st v : Value} {Q : Value → Shared → Prop} (hst : st = .none ∨ ∃ o, st = .ref o) (hv : PcIs st v none) (h : Q (.bool false) s) : wpAny (model prog w) A (compareOp .IsNot v st) Q E s := isnot_star hst hv h
theorem is_T {st v : Value} {Q : Value → Shared → Prop} (hst : st = .none ∨ ∃ o, st = .ref o) (hv : PcIs st v none) (h : Q (.bool true) s) : wpAny (model prog w) A (compareOp .Is v st) Q E s := is_star hst hv h
theorem truthy_nil {Q : Bool → Shared → Prop} (N : News h₀ L s.heap led) (hl : (l, listOf ([] : List Value).toArray n) ∈ led) (h : ∀ tk, Q false { s with toks := tk }) : wpAny (model prog w) A (truthy (.ref l)) Q E s :=
  wpAny_truthy_list (items := #[]) ⟨_, (N _ hl).1, rfl, n, rfl⟩ (by decide) (h _)
theorem truthy_snoc {Q : Bool → Shared → Prop} {zs : List Value} {z : Value} (N : News h₀ L s.heap led) (hl : (l, listOf (zs ++ [z]).toArray n) ∈ led) (hz : zs.length < 16777216) (h : ∀ tk, Q true { s with toks := tk }) : wpAny (model prog w) A (truthy (.ref l)) Q E s := by
  refine wpAny_truthy_list (items := (zs ++ [z]).toArray) ⟨_, (N _ hl).1, rfl, n, rfl⟩ (by simp only [List.size_toArray, List.length_append, List.length_singleton]; lia) ?_
  have e : (!(zs ++ [z]).toArray.isEmpty) = true := by simp
  rw [e]
  exact h _
theorem item_last {value slice : PySem.Expr} {zs : List Value} {z : Value} {Q : Value → Shared → Prop} (N : News h₀ L s.heap led) (hl : (l, listOf (zs ++ [z]).toArray n) ∈ led) (h : Q z s)
    (hs : subscripted slice false (.ref l) (.int (-1) u) = operate [.ref l, .int (-1) u] (getItem (.ref l) (.int (-1) u))) :
    wpAny (model prog w) A (subscriptTail value slice (.ref l) (.int (-1) u)) Q E s :=
  tail_any (s := s) (Heap.IsList.typeIs ⟨_, (N _ hl).1, rfl, n, rfl⟩) slot_list_getitem.lookup
    (wpAny_getItem_list_neg (items := (zs ++ [z]).toArray) ⟨_, (N _ hl).1, rfl, n, rfl⟩ (by decide) (by simp only [List.size_toArray, List.length_append, List.length_singleton]; lia) (by decide)
      (by have e : ((-1 : Int) + ((zs ++ [z]).toArray.size : Int)).toNat = zs.length := by simp only [List.size_toArray, List.length_append, List.length_singleton]; lia
          rw [e]; simp) h) hs
end
example : True := by
  k_with "truthy ref" =>
    ((k_here; refine' Mine.truthy_nil ?mtnN920 ?mtnl920 ?_; (case mtnN920 => k_asm); (case mtnl920 => first | assumption | exact List.Mem.tail _ (List.Mem.head _) | k_mem); intro _))
  trivial
example : True := by
  k_with "truthy ref" =>
    ((k_here; refine' Mine.truthy_snoc ?mtnN921 ?mtnl921 ?mtnz921 ?_; (case mtnN921 => k_asm); (case mtnl921 => first | assumption | exact List.Mem.tail _ (List.Mem.head _) | k_mem); (case mtnz921 => assumption); intro _))
  trivial
example : True := by
  k_with "BmP" =>
    (exact Mine.bmP (by assumption) (List.Mem.head _))
  trivial
example : True := by
  k_with "subscriptTail" =>
    (((with_reducible show wpAny _ _ (subscriptTail _ _ (Value.ref _) (Value.int (-1) _)) _ _ _); refine' Mine.item_last ?mllN923 ?mlll923 ?_ ?mlls923; (case mllN923 => k_asm); (case mlll923 => first | assumption | exact List.Mem.tail _ (List.Mem.head _) | k_mem); (case mlls923 => first | with_reducible exact Mine.sub_name | with_reducible exact Mine.sub_const | with_reducible exact Mine.sub_binop | with_reducible exact Mine.sub_unop | with_reducible exact Mine.sub_slice | with_unfolding_all rfl)))
  trivial
section
variable {prog : Program} {w : World} {A : Around} {E : Value → Shared → Prop} {s : Shared} {a b : List Nat} {t u : Tok} {Q : Value → Shared → Prop}
theorem S_toList (a : List Nat) : (S a).cps.toList = a := by simp [S]
theorem eq_S (h : Q (.bool (a == b)) s) : wpAny (model prog w) A (compareOp .Eq (.str (S a) t) (.str (S b) u)) Q E s := P.eq_str (by rw [S_toList, S_toList]; exact h)
theorem ne_S (h : Q (.bool (a != b)) s) : wpAny (model prog w) A (compareOp .NotEq (.str (S a) t) (.str (S b) u)) Q E s := P.ne_str (by rw [S_toList, S_toList]; exact h)
theorem eq_T (e : a = b) (h : Q (.bool true) s) : wpAny (model prog w) A (compareOp .Eq (.str (S a) t) (.str (S b) u)) Q E s := eq_S (by rw [beq_iff_eq.mpr e]; exact h)
theorem eq_F (e : a ≠ b) (h : Q (.bool false) s) : wpAny (model prog w) A (compareOp .Eq (.str (S a) t) (.str (S b) u)) Q E s := eq_S (by rw [beq_eq_false_iff_ne.mpr e]; exact h)
theorem ne_T (e : a ≠ b) (h : Q (.bool true) s) : wpAny (model prog w) A (compareOp .NotEq (.str (S a) t) (.str (S b) u)) Q E s := ne_S (by rw [bne_iff_ne.mpr e]; exact h)
theorem ne_F (e : a = b) (h : Q (.bool false) s) : wpAny (model prog w) A (compareOp .NotEq (.str (S a) t) (.str (S b) u)) Q E s := ne_S (by rw [e, bne_self_eq_false]; exact h)
end
example : True := by
  k_with "compareOp Eq str str" =>
    ((refine' Mine.eq_T ?meqT924 ?_; (case meqT924 => first | rfl | assumption)))
  trivial
example : True := by
  k_with "compareOp Eq str str" =>
    ((refine' Mine.eq_F ?meqF925 ?_; (case meqF925 => first | assumption | decide)))
  trivial
example : True := by
  k_with "compareOp NotEq str str" =>
    ((refine' Mine.ne_F ?mneF926 ?_; (case mneF926 => first | rfl | assumption)))
  trivial
example : True := by
  k_with "compareOp NotEq str str" =>
    ((refine' Mine.ne_T ?mneT927 ?_; (case mneT927 => first | assumption | decide)))
  trivial
theorem lits_ne {c : Nat} (h : c ∈ lits) : [c] ≠ [42] ∧ [c] ≠ [63] ∧ [c] ≠ [91] := by
  have := (by decide : ∀ c ∈ lits, [c] ≠ [42] ∧ [c] ≠ [63] ∧ [c] ≠ [91])
  exact this c h
theorem Spec.use {w : World} {f : Addr} {vs : List Value} {Pre : List (Addr × Obj) → Prop} {Out : List (Addr × Obj) → Value → Prop} (C : Spec w f vs Pre Out)
    {dp un : Nat} {gd : Option (List Code)} {cn : Str} {cs : Scope} {a : Addr} {ccd : Value} {cl : List (Str × Addr)} {outer : List Env} {A₀ : Around} {base h₀ : Heap} {L : Addr} {m : Str → Option Value}
    {p : Program} {loose : List Str} {mean : ExcName → Option Value} {mg mb : Str → Option Value} {news : List (Addr × Obj)} {s : Shared} {Q E : Value → Shared → Prop}
    (B : Below A₀ base outer h₀) (F : Fr h₀ L s.heap m) (X : (Mine.hp.heap_1 w.params).In h₀) (N : News h₀ L s.heap news) (T : Top p loose mean mg mb h₀) (hk : cs.kind = .function)
    (hpre : Pre news) (hd : dp + 3 < recursionLimit) (hu : un + 30 < cLine)
    (ret : ∀ r tl h' tk', Fr h₀ L h' m → News h₀ L h' (news ++ tl) → (∀ q ∈ news, ∀ p ∈ tl, q.1 < p.1) → Out (news ++ tl) r → Q r { s with heap := h', toks := tk' }) :
    wpAny (model PR w) (ktrTop dp un gd cn cs L a ccd cl outer) (call (.ref f) vs) Q E s :=
  C _ _ _ _ _ _ _ _ _ _ _ _ _ _ _ _ _ _ _ _ _ _ _ B F X N T hk hpre hd hu ret
theorem dp_ok {dp : Nat} (h : dp + 10 < recursionLimit) : dp + 1 + 3 < recursionLimit := Nat.lt_of_le_of_lt (by lia) h
theorem un_ok {un : Nat} (h : un + 60 < cLine) : un + 3 + 30 < cLine := Nat.lt_of_le_of_lt (by lia) h
theorem tl_ord {b l : Addr} {o : Obj} {ts : Array Value} {rest : List (Addr × Obj)} (h57 : 57 < l) (hr : AllLt l rest) (lt2 : ∀ p ∈ (l, o) :: (57, tabObj ts) :: rest, p.1 < b) (o1 o2 : Obj) :
    (∀ p ∈ [(b, o1), (l, o2)], p.1 ≠ 57) ∧ ∀ q ∈ rest, ∀ p ∈ [(b, o1), (l, o2)], q.1 < p.1 := by
  have hb : 57 < b := lt2 _ (.tail _ (.head _))
  refine ⟨fun p hp => ?_, fun q hq p hp => ?_⟩
  · rcases List.mem_cons.mp hp with e | hp
    · rw [e]; exact Nat.ne_of_gt hb
    · rw [List.mem_singleton.mp hp]; exact Nat.ne_of_gt h57
  · rcases List.mem_cons.mp hp with e | hp
    · rw [e]; exact lt2 _ (.tail _ (.tail _ hq))
    · rw [List.mem_singleton.mp hp]; exact allLt_mem hr q hq
theorem tl_news {h₀ h : Heap} {L b l : Addr} {o1 o2 : Obj} {q : Addr × Obj} {rest : List (Addr × Obj)} (N : News h₀ L h ((b, o1) :: (l, o2) :: q :: rest)) : News h₀ L h ((q :: rest) ++ [(b, o1), (l, o2)]) := by
  refine news_sub N fun p hp => ?_
  rcases List.mem_append.mp hp with hp | hp
  · exact .tail _ (.tail _ hp)
  · rcases List.mem_cons.mp hp with e | hp
    · rw [e]; exact .head _
    · rw [List.mem_singleton.mp hp]; exact .tail _ (.head _)
end
section
open PySem PySem.W PyProof.Rows PySem.Calls
set_option maxRecDepth 100000
set_option maxHeartbeats 8000000
section
variable {prog : Program} {w : World} {A : Around} {E : Value → Shared → Prop} {s : Shared} {a b : Int} {t u : Tok} {Q : Value → Shared → Prop}
theorem lt_T (e : a < b) (h : Q (.bool true) s) : wpAny (model prog w) A (compareOp .Lt (.int a t) (.int b u)) Q E s := lt_int (by rw [decide_eq_true e]; exact h)
theorem lt_F (e : ¬ a < b) (h : Q (.bool false) s) : wpAny (model prog w) A (compareOp .Lt (.int a t) (.int b u)) Q E s := lt_int (by rw [decide_eq_false e]; exact h)
theorem ge_F (e : a < b) (h : Q (.bool false) s) : wpAny (model prog w) A (compareOp .GtE (.int a t) (.int b u)) Q E s := ge_int (by rw [decide_eq_false (by lia)]; exact h)
end
example : True := by
  k_with "compareOp Lt int int" =>
    ((refine' Mine.lt_F ?mltF928 ?_; (case mltF928 => with_reducible assumption)))
  trivial
example : True := by
  k_with "compareOp Lt int int" =>
    ((refine' Mine.lt_T ?mltT929 ?_; (case mltT929 => with_reducible assumption)))
  trivial
example : True := by
  k_with "compareOp GtE int int" =>
    ((refine' Mine.ge_F ?mgeF930 ?_; (case mgeF930 => with_reducible assumption)))
  trivial
noncomputable def fine (d : Nat) : Prop := [d] ≠ [93] ∧ [d] ≠ [33] ∧ d ≠ 38 ∧ d ≠ 126 ∧ d ≠ 124 ∧ d ≠ 92 ∧ [d] ≠ [94] ∧ [d] ≠ [91]
theorem flat_ok {ms : List (List Nat)} (hne : ms ≠ []) (hm : ∀ m ∈ ms, m ∈ mtab) : ∃ c r, ms.flatten = c :: r ∧ ∀ d ∈ c :: r, fine d := by
  have hall : ∀ m ∈ mtab, m ≠ [] ∧ ∀ d ∈ m, fine d := by
    unfold fine; decide
  cases ms with
  | nil => exact absurd rfl hne
  | cons m ms =>
    obtain ⟨h1, h2⟩ := hall m (hm m (.head _))
    cases m with
    | nil => exact absurd rfl h1
    | cons c r =>
      refine ⟨c, r ++ ms.flatten, by simp, fun d hd => ?_⟩
      rcases List.mem_append.mp (show d ∈ (c :: r) ++ ms.flatten from hd) with q | q
      · exact h2 d q
      · obtain ⟨m', hm', hd'⟩ := List.mem_flatten.mp q
        exact (hall m' (hm m' (.tail _ hm'))).2 d hd'
structure Spot (x : List Nat) (jj : Int) (fl : List Nat) : Prop where
  room : ∀ r : Nat, r ≤ fl.length → jj + (r : Int) < (x.length : Int)
  mid : ∀ (r : Nat) (d : Nat), fl[r]? = some d → At x (jj + (r : Int)) d
  close : At x (jj + (fl.length : Int)) 93
theorem spot_of {x pre post fl : List Nat} (hx : x = pre ++ (fl ++ [93]) ++ post) (hl : x.length ≤ 1000) {jj : Int} (hj : jj = (pre.length : Int)) : Spot x jj fl := by
  have hxl : x.length = pre.length + (fl.length + 1) + post.length := by rw [hx]; simp [List.length_append]; lia
  refine ⟨fun r hr => by lia, fun r d hd => ?_, ?_⟩
  · have hrl : r < fl.length := (List.getElem?_eq_some_iff.mp hd).1
    exact at_of hx hl (j := r) (by rw [List.getElem?_append_left hrl]; exact hd) (by lia)
  · exact at_of hx hl (j := fl.length) (by rw [List.getElem?_append_right (Nat.le_refl _)]; simp) (by lia)
inductive JI (its : List It) (st : Value) (t2 : Tok) (b l : Addr) (i jj : Int) (fl : List Nat) (led0 : List (Addr × Obj)) (n : Nat) (m : Str → Option Value) (led : List (Addr × Obj)) : Prop
  | mk (r tp tq tr tj : _) (h1 : n = fl.length - r) (h2 : r ≤ fl.length) (h3 : led = led0) (h4 : Has m [("i", .int i tp), ("n", .int ((patText its).length : Nat) tq), ("res", .ref l), ("add", .ref b), ("pat", .str (S (patText its)) tr), ("STAR", st), ("QUESTION_MARK", .str (S [46]) t2), ("j", .int (jj + (r : Int)) tj)]) : JI its st t2 b l i jj fl led0 n m led
theorem jI_fin {its : List It} {st : Value} {t2 : Tok} {b l : Addr} {i jj : Int} {fl : List Nat} {led0 : List (Addr × Obj)} {g : Heap} {L : Addr} {s : Shared} {h' : Heap} {tk' : Nat} {m' : Str → Option Value} {r : Nat} {tp tq tr tj : Tok}
    (hr : r < fl.length) (F : Fr g L h' m') (N : News g L h' led0)
    (H : Has m' [("i", .int i tp), ("n", .int ((patText its).length : Nat) tq), ("res", .ref l), ("add", .ref b), ("pat", .str (S (patText its)) tr), ("STAR", st), ("QUESTION_MARK", .str (S [46]) t2), ("j", .int (jj + (r : Int) + 1) tj)]) :
    WNx g L s (JI its st t2 b l i jj fl led0) (fl.length - r) { s with heap := h', toks := tk' } := by
  have e : jj + (r : Int) + 1 = jj + ((r + 1 : Nat) : Int) := by push_cast; lia
  rw [e] at H
  exact ⟨fl.length - (r + 1), h', tk', m', _, by lia, rfl, F, N, r + 1, tp, tq, tr, tj, rfl, hr, rfl, H⟩
inductive JX (its : List It) (st : Value) (t2 : Tok) (b l : Addr) (i je : Int) (led0 : List (Addr × Obj)) (m : Str → Option Value) (led : List (Addr × Obj)) : Prop
  | mk (tp tq tr tj : _) (h1 : led = led0) (h2 : Has m [("i", .int i tp), ("n", .int ((patText its).length : Nat) tq), ("res", .ref l), ("add", .ref b), ("pat", .str (S (patText its)) tr), ("STAR", st), ("QUESTION_MARK", .str (S [46]) t2), ("j", .int je tj)]) : JX its st t2 b l i je led0 m led
end
section
open PySem PySem.W PyProof.Rows PySem.Calls
set_option maxRecDepth 100000
set_option maxHeartbeats 4000000
inductive Cut (x : List Nat) (i j : Int) (y : List Nat) : Prop
  | mk (pre post : List Nat) (h1 : x = pre ++ y ++ post) (h2 : i = (pre.length : Int)) (h3 : j = ((pre.length + y.length : Nat) : Int)) (h4 : x.length ≤ 16777216) : Cut x i j y
theorem range_get (y : List Nat) : ∀ (pre post : List Nat), (List.range y.length).filterMap (fun k => ((pre ++ y ++ post)[pre.length + k]?)) = y := by
  induction y with
  | nil => intro pre post; rfl
  | cons c r ih =>
    intro pre post
    rw [List.length_cons, List.range_succ_eq_map, List.filterMap_cons]
    have e0 : (pre ++ (c :: r) ++ post)[pre.length + 0]? = some c := by simp
    rw [e0]
    dsimp only
    rw [List.filterMap_map]
    have e : ((fun k => (pre ++ c :: r ++ post)[pre.length + k]?) ∘ Nat.succ) = fun k => ((pre ++ [c]) ++ r ++ post)[(pre ++ [c]).length + k]? := by
      funext k
      show (pre ++ c :: r ++ post)[pre.length + (k + 1)]? = _
      have : pre ++ c :: r ++ post = (pre ++ [c]) ++ r ++ post := by simp
      rw [this]
      congr 1
      simp; lia
    rw [e, ih (pre ++ [c]) post]
theorem cut_slice {x y : List Nat} {i j : Int} (h : Cut x i j y) : Txt.slice (S x) (some i) (some j) = S y := by
  obtain ⟨pre, post, hx, rfl, rfl, _⟩ := h
  have hlen : (S x).length = x.length := S_len x
  have hb : pre.length + y.length ≤ (S x).length := by rw [hlen, hx]; simp [List.length_append]
  unfold Txt.slice
  rw [PySem.StrLaws.strSliceIndices_plain (Nat.le_add_right _ _) hb, Nat.add_sub_cancel_left]
  split
  · rename_i hc
    simp only [beq_self_eq_true, Bool.true_and, beq_iff_eq, List.length_map, List.length_range] at hc
    rw [hlen, hx] at hc
    simp only [List.length_append] at hc
    have h1 : pre = [] := List.eq_nil_of_length_eq_zero (by lia)
    have h2 : post = [] := List.eq_nil_of_length_eq_zero (by lia)
    rw [hx, h1, h2]; simp
  · rw [List.filterMap_map]
    have e : ((fun x_1 : Nat => (S x).cps[x_1]?) ∘ fun k => pre.length + k) = fun k => (pre ++ y ++ post)[pre.length + k]? := by
      funext k
      show (S x).cps[pre.length + k]? = _
      rw [hx]; simp [S]
    rw [e, range_get]
    rfl
section
variable {prog : Program} {w : World} {A : Around} {E : Value → Shared → Prop} {s : Shared} {h₀ : Heap} {L : Addr} {m : Str → Option Value} {led : List (Addr × Obj)} {value slice : PySem.Expr} {Q : Value → Shared → Prop}
theorem slice_S {x y : List Nat} {i j : Int} {t ui uj : Tok} (hc : Cut x i j y) (F : Fr h₀ L s.heap m) (N : News h₀ L s.heap led) (h : ∀ h' t' k, Fr h₀ L h' m → News h₀ L h' led → Q (.str (S y) t') { s with heap := h', toks := k })
    (hs : subscripted slice false (.str (S x) t) (.ref s.heap.objs.size) = operate [.ref s.heap.objs.size, .str (S x) t] (getItem (.str (S x) t) (.ref s.heap.objs.size)))
    (ht : ∀ r, letTemporaryGo value (.str (S x) t) r = pure ()) :
    wpAny (model prog w) A (subscriptTail value slice (.str (S x) t) (.ref s.heap.objs.size)) Q E { s with heap := s.heap.push { cls := .type "slice", data := .fields #[.int i ui, .int j uj, .none] } } :=
  slice_strN_ss F N (fun h' t' k a b => by rw [cut_slice hc]; exact h h' t' k a b) hs ht (by obtain ⟨_, _, _, _, _, q⟩ := hc; rw [S_len, sizeLine_eq]; exact q)
end
example : True := by
  k_with "subscriptTail Name Slice str ref" =>
    (((with_reducible show wpAny _ _ (subscriptTail _ (Expr.Slice (some _) (some _) none _) _ _) _ _ _); (refine' Mine.slice_S (s := ⟨_, _, _, _, _⟩) ?mslc931 ?mslF931 ?mslN931 ?_ ?msls931 ?mslt931); (case mslc931 => with_reducible assumption); (case mslF931 => with_reducible assumption); (case mslN931 => with_reducible assumption); (case msls931 => first | with_reducible exact Mine.sub_name | with_reducible exact Mine.sub_const | with_reducible exact Mine.sub_binop | with_reducible exact Mine.sub_unop | with_reducible exact Mine.sub_slice | with_unfolding_all rfl); (case mslt931 => intro _; with_reducible exact Mine.ltg_str); intro _ _ _ _ _))
  trivial
end
section
open PySem PySem.W PyProof.Rows PySem.Calls PySem.Builtin.Str PySem.StrLaws
set_option maxRecDepth 100000
set_option maxHeartbeats 4000000
theorem sub1 (x : List Nat) (c i : Nat) : subAt (S x) (S [c]) i = true ↔ x[i]? = some c := by
  rw [subAt_eq]
  show (((S x).cps.toList.drop i).take 1 == [c]) = true ↔ _
  rw [take1_drop, S_toList]
theorem occ_stay (s sub : Str) (hi limit : Nat) : ∀ (l : List Nat) (st : Array Nat × Nat), (∀ i ∈ l, ¬ (i + sub.length ≤ hi ∧ subAt s sub i = true)) → (forIn l st (occBody s sub hi limit)).run = st
  | [], st, _ => rfl
  | a :: l, st, h => by
    rw [List.forIn_cons]
    have c2 : ¬ (((st.fst.size < limit ∧ st.snd ≤ a) ∧ a + sub.length ≤ hi) ∧ subAt s sub a = true) := fun q => h a (.head _) ⟨q.1.2, q.2⟩
    have e : occBody s sub hi limit a st = pure (ForInStep.yield st) := by unfold occBody; rw [if_neg c2]
    rw [e]
    exact occ_stay s sub hi limit l st fun i hi' => h i (.tail _ hi')
theorem occ_full (s sub : Str) (hi limit : Nat) : ∀ (l : List Nat) (st : Array Nat × Nat), limit ≤ st.fst.size → (forIn l st (occBody s sub hi limit)).run = st
  | [], st, _ => rfl
  | a :: l, st, h => by
    rw [List.forIn_cons]
    have c2 : ¬ (((st.fst.size < limit ∧ st.snd ≤ a) ∧ a + sub.length ≤ hi) ∧ subAt s sub a = true) := fun q => by have := q.1.1.1; lia
    have e : occBody s sub hi limit a st = pure (ForInStep.yield st) := by unfold occBody; rw [if_neg c2]
    rw [e]
    exact occ_full s sub hi limit l st h
theorem occ_nil {x : List Nat} {c lo hi limit : Nat} (h : ∀ i, lo ≤ i → i < hi → x[i]? ≠ some c) : occurrences (S x) (S [c]) lo hi limit = [] := by
  have H : ∀ i ∈ List.range' lo (hi + 1 - lo), ¬ (i + (S [c]).length ≤ hi ∧ subAt (S x) (S [c]) i = true) := by
    intro i hi' q
    have h1 := List.mem_range'_1.mp hi'
    have h2 : i + 1 ≤ hi := q.1
    exact h i (by lia) (by lia) ((sub1 x c i).mp q.2)
  rw [occ_eq, occ_stay _ _ _ _ _ _ H]
theorem occ_run {x : List Nat} {c hi p : Nat} (hp : x[p]? = some c) (h2 : p < hi) : ∀ (n lo free : Nat), free ≤ lo → lo ≤ p → p < lo + n → (∀ i, lo ≤ i → i < p → x[i]? ≠ some c) →
    (forIn (List.range' lo n) ((#[] : Array Nat), free) (occBody (S x) (S [c]) hi 1)).run.fst = #[p]
  | 0, lo, free, _, h3, h4, _ => by lia
  | n + 1, lo, free, hf, h3, h4, h => by
    rw [List.range'_succ, List.forIn_cons]
    by_cases e : lo = p
    · subst e
      have c1 : (((((#[] : Array Nat), free).fst.size < 1) ∧ ((#[] : Array Nat), free).snd ≤ lo) ∧ lo + (S [c]).length ≤ hi) ∧ subAt (S x) (S [c]) lo = true := ⟨⟨⟨by simp, hf⟩, by show lo + 1 ≤ hi; lia⟩, (sub1 x c lo).mpr hp⟩
      have e2 : occBody (S x) (S [c]) hi 1 lo ((#[] : Array Nat), free) = pure (ForInStep.yield (#[lo], lo + (S [c]).length)) := by
        unfold occBody; rw [if_pos c1]; rfl
      rw [e2]
      have a2 := occ_full (S x) (S [c]) hi 1 (List.range' (lo + 1) n) (#[lo], lo + (S [c]).length) (by simp)
      exact congrArg Prod.fst a2
    · have c2 : ¬ ((((((#[] : Array Nat), free).fst.size < 1) ∧ ((#[] : Array Nat), free).snd ≤ lo) ∧ lo + (S [c]).length ≤ hi) ∧ subAt (S x) (S [c]) lo = true) := fun q => h lo (Nat.le_refl _) (by lia) ((sub1 x c lo).mp q.2)
      have e2 : occBody (S x) (S [c]) hi 1 lo ((#[] : Array Nat), free) = pure (ForInStep.yield (#[], free)) := by unfold occBody; rw [if_neg c2]
      rw [e2]
      exact occ_run hp h2 n (lo + 1) free (by lia) (by lia) (by lia) fun i h5 h6 => h i (by lia) h6
theorem occ_at {x : List Nat} {c lo hi p : Nat} (h1 : lo ≤ p) (h2 : p < hi) (hp : x[p]? = some c) (h : ∀ i, lo ≤ i → i < p → x[i]? ≠ some c) : occurrences (S x) (S [c]) lo hi 1 = [p] := by
  rw [occ_eq, occ_run hp h2 (hi + 1 - lo) lo lo (Nat.le_refl _) h1 (by lia) h]
end
section
open PySem PySem.W PyProof.Rows PySem.Calls PySem.Builtin PySem.Builtin.Str PySem.StrLaws
set_option maxRecDepth 100000
set_option maxHeartbeats 4000000
section
variable {prog : Program} {w : World} {A : Around} {E : Value → Shared → Prop} {s : Shared} {x z : List Nat} {c : Nat} {t u v q : Tok} {Q : Value → Shared → Prop}
theorem notin_T (h : c ∉ x) (hQ : Q (.bool true) s) : wpAny (model prog w) A (compareOp .NotIn (.str (S [c]) u) (.str (S x) t)) Q E s := by
  refine P.notIn_str ?_
  rw [show (S [c] : Str) = ⟨#[c]⟩ from rfl, found_one, S_toList, decide_eq_false h]
  exact hQ
theorem notin_F (h : c ∈ x) (hQ : Q (.bool false) s) : wpAny (model prog w) A (compareOp .NotIn (.str (S [c]) u) (.str (S x) t)) Q E s := by
  refine P.notIn_str ?_
  rw [show (S [c] : Str) = ⟨#[c]⟩ from rfl, found_one, S_toList, decide_eq_true h]
  exact hQ
theorem not_at {x : List Nat} {c : Nat} (h : c ∉ x) (i : Nat) : x[i]? ≠ some c := fun q => h (List.mem_of_getElem? q)
theorem repl_S (h : c ∉ x) (hQ : Q (.str (S x) t) s) : wpAny (model prog w) A (call (.builtin "str.replace") [.str (S x) t, .str (S [c]) u, .str (S z) v]) Q E s := by
  have e : occurrences (S x) (S [c]) 0 (S x).length ((S x).length + 1) = [] := occ_nil fun i _ _ => not_at h i
  refine call_gives PySem.F.slot_str_replace (typeIs_str _ _ _) PySem.F.entry_str_replace (PySem.F.args_str_replace_3 _ _ _) (gives_str_replace (S x) (S [c]) (S z) t u v fun hc => ?_) ?_
  · rw [e] at hc; cases hc
  · rw [e]; exact hQ
end
example : True := by
  k_with "compareOp NotIn str str" =>
    ((refine' Mine.notin_T ?mniT932 ?_; (case mniT932 => with_reducible assumption)))
  trivial
example : True := by
  k_with "compareOp NotIn str str" =>
    ((refine' Mine.notin_F ?mniF933 ?_; (case mniF933 => with_reducible assumption)))
  trivial
example : True := by
  k_with "call builtin:str.replace" =>
    ((refine' Mine.repl_S ?mrep934 ?_; (case mrep934 => with_reducible assumption)))
  trivial
end
section
open PySem PySem.W PyProof.Rows PySem.Calls PySem.Builtin PySem.Builtin.Str PySem.StrLaws
set_option maxRecDepth 100000
set_option maxHeartbeats 4000000
theorem gives_find4 (x y : Str) (i j : Int) (t u v q : Tok) : Gives («str.find» ⟨[.str x t, .str y u, .int i v, .int j q], []⟩) (.int (match occurrences x y (fromIndex x.length i) (min (fromIndex x.length j) x.length) 1 with | k :: _ => (k : Int) | [] => -1)) := by
  show Gives (match occurrences x y (fromIndex x.length i) (min (fromIndex x.length j) x.length) 1 with | k :: _ => retInt k | [] => (do rule "str.find.not-found"; retInt (-1))) _
  cases occurrences x y (fromIndex x.length i) (min (fromIndex x.length j) x.length) 1 with
  | nil => exact .rule (.of_eq rfl)
  | cons k _ => exact .of_eq rfl
section
variable {prog : Program} {w : World} {A : Around} {E : Value → Shared → Prop} {s : Shared} {x : List Nat} {c : Nat} {t u v q : Tok} {Q : Value → Shared → Prop}
noncomputable def Seek (x : List Nat) (c : Nat) (lo hi r : Int) : Prop := 0 ≤ lo ∧ 0 ≤ hi ∧ hi ≤ x.length ∧
  ((r = -1 ∧ ∀ i : Nat, lo ≤ i → i < hi → x[i]? ≠ some c) ∨ (∃ p : Nat, r = p ∧ lo ≤ p ∧ p < hi ∧ x[p]? = some c ∧ ∀ i : Nat, lo ≤ i → i < p → x[i]? ≠ some c))
theorem from_nn {n : Nat} {i : Int} (h : 0 ≤ i) : fromIndex n i = i.toNat := by
  unfold fromIndex
  rw [if_neg (by lia)]
  lia
theorem find_S {lo hi r : Int} (h : Seek x c lo hi r) (hQ : ∀ t' tk', Q (.int r t') { s with toks := tk' }) : wpAny (model prog w) A (call (.builtin "str.find") [.str (S x) t, .str (S [c]) u, .int lo v, .int hi q]) Q E s := by
  obtain ⟨h0, h1, h2, h3⟩ := h
  refine call_gives PySem.F.slot_str_find (typeIs_str _ _ _) PySem.F.entry_str_find (PySem.F.args_str_find_4 _ _ _ _) (gives_find4 (S x) (S [c]) lo hi t u v q) ?_
  rw [from_nn h0, from_nn h1, S_len, Nat.min_eq_left (by lia)]
  rcases h3 with ⟨rfl, h3⟩ | ⟨p, rfl, h4, h5, h6, h7⟩
  · rw [occ_nil fun i a b => h3 i (by lia) (by lia)]
    exact hQ _ _
  · rw [occ_at (p := p) (by lia) (by lia) h6 fun i a b => h7 i (by lia) b]
    exact hQ _ _
end
example : True := by
  k_with "call builtin:str.find" =>
    ((refine' Mine.find_S ?mfnd935 ?_; (case mfnd935 => with_reducible assumption); intro _ _))
  trivial
theorem cut_of {x pre y post : List Nat} {i j : Int} (hx : x = pre ++ y ++ post) (hl : x.length ≤ 1000) (hi : i = (pre.length : Int)) (hj : j = (pre.length : Int) + (y.length : Int)) : Cut x i j y :=
  ⟨pre, post, hx, hi, by rw [hj]; push_cast; rfl, by lia⟩
end
section
open PySem PySem.W PyProof.Rows PySem.Calls
set_option maxRecDepth 100000
set_option maxHeartbeats 4000000
inductive TriplesR : List Value → Prop
  | nil : TriplesR []
  | cons (a b c d e : _) {rest : List Value} (h : TriplesR rest) : TriplesR (.int a b :: .int c d :: .ref e :: rest)
theorem TriplesR.ok {l : List Value} (h : TriplesR l) : TriplesOk l := by
  induction h with
  | nil => trivial
  | cons _ _ _ _ _ _ ih => exact ih
theorem TriplesR.ref {pos : Pos} {l : List Value} (h : TriplesR l) : ∀ {cv : Value}, codeAmong pos l = some cv → ∃ c', cv = .ref c' := by
  induction h with
  | nil => intro cv h; cases h
  | cons a b c d e _ ih =>
    intro cv q
    unfold codeAmong at q
    split at q
    · exact ⟨_, (Option.some.inj q).symm⟩
    · exact ih q
theorem TriplesR.snoc {pos : Pos} {c : Addr} {l : List Value} (h : TriplesR l) : TriplesR (l ++ [rawInt pos.line, rawInt pos.col, .ref c]) := by
  induction h with
  | nil => exact .cons _ _ _ _ _ .nil
  | cons _ _ _ _ _ _ ih => exact .cons _ _ _ _ _ ih
theorem updF_of {d : Addr} {o : Obj} {post : List (Addr × Obj)} (h2 : ∀ p ∈ post, p.1 ≠ d) : ∀ {pre : List (Addr × Obj)}, (∀ p ∈ pre, p.1 ≠ d) → ∃ g, UpdF d o (pre ++ (d, o) :: post) g ∧ ∀ o', g o' = pre ++ (d, o') :: post
  | [], _ => ⟨_, .head h2, fun _ => rfl⟩
  | q :: r, h => by
    obtain ⟨g, U, e⟩ := updF_of h2 (pre := r) fun p hp => h p (.tail _ hp)
    exact ⟨_, .tail (h q (.head _)) U, fun o' => by rw [e]; rfl⟩
section
variable {M : Model} {A : Around} {E : Value → Shared → Prop} {s : Shared} {w : World} {h₀ : Heap} {L a : Addr} {m mg mb : Str → Option Value} {cn : Str} {cs : Scope} {cl : List (Str × Addr)} {pre post : List (Addr × Obj)}
  {p : Program} {loose : List Str} {mean : ExcName → Option Value} {params : Arguments} {body : PySem.Expr} {scope : Scope} {ts : Array Value} {pos : Pos} {clos : List (Str × Addr)} {Q : Value → Shared → Prop}
theorem code61 (X : (Mine.hp.heap_1 w.params).In h₀) : CodeHd h₀ 61 57 := codeHd_of_K X (by kernel_rfl)
theorem lam_any (F : Fr h₀ L s.heap m) (N : News h₀ L s.heap (pre ++ (57, tabObj ts) :: post)) (h1 : ∀ p ∈ pre, p.1 ≠ 57) (h2 : ∀ p ∈ post, p.1 ≠ 57) (X : (Mine.hp.heap_1 w.params).In h₀) (T : Top p loose mean mg mb h₀) (ht : TriplesR ts.toList)
    (h : ∀ f fd h' tk' ts', Fr h₀ L h' m → News h₀ L h' ((f, { cls := .type "function", data := .func fd }) :: (pre ++ (57, tabObj ts') :: post)) → TriplesR ts'.toList → Q (.ref f) { s with heap := h', toks := tk' })
    (hdef : defaultsOf params (envX cn cs L a (.ref 61) cl) = ([], [])) (hcl : closureFor scope (envX cn cs L a (.ref 61) cl) = pure clos) :
    wpAny M A (eval (.Lambda params body scope pos) (envX cn cs L a (.ref 61) cl)) Q E s := by
  refine kla_eval hdef ?_
  cases hq : codeAmong pos ts.toList with
  | none =>
    obtain ⟨g, U, e⟩ := updF_of (o := tabObj ts) h2 h1
    refine kla_nest F N T (code61 X) rfl U ht.ok hq hcl fun f c' oc vs t ctv h' tk F' N' _ _ _ _ => ?_
    rw [e] at N'
    refine h f (kla_fn (Str.ofString "<lambda>") ((envX cn cs L a (.ref 61) cl).qual ++ Str.ofString "<lambda>") params body scope clos ((mg (Str.ofString "__name__")).getD .none) (.ref c') ctv) h' tk (ts ++ #[rawInt pos.line, rawInt pos.col, .ref c']) F' (news_sub N' fun q hq => ?_) (by rw [Array.toList_append]; exact TriplesR.snoc (pos := pos) (c := c') ht)
    rcases List.mem_cons.mp hq with e | hq
    · rw [e]; exact .head _
    · exact .tail _ (.tail _ hq)
  | some cv =>
    obtain ⟨c', rfl⟩ := ht.ref hq
    refine kla_hit F N T (code61 X) rfl (List.mem_append.mpr (.inr (.head _))) ht.ok hq hcl fun f ctv h' tk F' N' _ => ?_
    exact h f (kla_fn (Str.ofString "<lambda>") ((envX cn cs L a (.ref 61) cl).qual ++ Str.ofString "<lambda>") params body scope clos ((mg (Str.ofString "__name__")).getD .none) (.ref c') ctv) h' tk ts F' N' ht
end
theorem any_no {c : Nat} (h1 : [c] ≠ [94]) (h2 : [c] ≠ [91]) : ([S [94], S [91]].any fun x => x == S [c]) = false := by
  have e1 : (S [94] == S [c]) = false := beq_eq_false_iff_ne.mpr fun q => h1 (S_inj q).symm
  have e2 : (S [91] == S [c]) = false := beq_eq_false_iff_ne.mpr fun q => h2 (S_inj q).symm
  simp only [List.any_cons, List.any_nil, e1, e2, Bool.or_false]
theorem br_facts {x pre post : List Nat} {c1 : Nat} {fr : List Nat} (hx : x = pre ++ (c1 :: fr) ++ post) (hl : x.length ≤ 1000) (h : [c1] ≠ [33]) : (c1 :: fr).length ≤ 100000 ∧ (c1 :: fr) ≠ [33] ∧ At (c1 :: fr) 0 c1 := by
  have e : x.length = pre.length + (c1 :: fr).length + post.length := by rw [hx]; simp only [List.length_append]
  refine ⟨by lia, fun q => h ?_, by lia, by lia, rfl⟩
  have := List.cons.inj q
  rw [this.1]
section
variable {prog : Program} {w : World} {A : Around} {E : Value → Shared → Prop} {s : Shared} {t : Tok} {Q : Bool → Shared → Prop}
theorem truthy_cons {c : Nat} {r : List Nat} (hl : (c :: r).length ≤ 100000) (h : ∀ tk, Q true { s with toks := tk }) : wpAny (model prog w) A (truthy (.str (S (c :: r)) t)) Q E s := by
  refine P.truthy_str (by rw [S_len]; lia) ?_
  have e : (((S (c :: r)).length : Int) != 0) = true := by rw [S_len, bne_iff_ne]; simp only [List.length_cons]; lia
  rw [e]
  exact h _
theorem truthy_no (h : ∀ tk, Q false { s with toks := tk }) : wpAny (model prog w) A (truthy (.str (S []) t)) Q E s := by
  refine P.truthy_str (by rw [S_len]; simp) ?_
  exact h _
end
example : True := by
  k_with "truthy str" =>
    ((refine' Mine.truthy_cons ?mtcl936 ?_; (case mtcl936 => with_reducible assumption); intro _))
  trivial
example : True := by
  k_with "truthy str" =>
    ((refine Mine.truthy_no ?_; intro _))
  trivial
end
section
open PySem PySem.W PyProof.Rows PySem.Calls
set_option maxRecDepth 100000
set_option maxHeartbeats 4000000
section
variable {prog : Program} {w : World} {M : Model} {A : Around} {E : Value → Shared → Prop} {s : Shared} {env : Env} {h₀ : Heap} {L : Addr} {Q : Flow → Shared → Prop}
inductive WGx (h₀ : Heap) (L : Addr) (s : Shared) (I : Nat → (Str → Option Value) → List (Addr × Obj) → Prop) (n : Nat) (s₃ : Shared) : Prop
  | mk (k h' tk' gs' m' led' : _) (h1 : k < n) (h2 : s₃ = { s with heap := h', toks := tk', gens := gs' }) (h3 : AllBare gs') (h4 : Fr h₀ L h' m') (h5 : News h₀ L h' led') (h6 : I k m' led') : WGx h₀ L s I n s₃
noncomputable def WEndG (h₀ : Heap) (L : Addr) (s : Shared) (Q : Flow → Shared → Prop) (I : Nat → (Str → Option Value) → List (Addr × Obj) → Prop) (n : Nat) (f : Flow) (s₃ : Shared) : Prop :=
  match f with
  | .ret v => Q (.ret v) s₃
  | .brk => Q .next s₃
  | _ => WGx h₀ L s I n s₃
theorem while_postG {test : PySem.Expr} {body : List Stmt} {pos : Pos} (I : Nat → (Str → Option Value) → List (Addr × Obj) → Prop) (Post : (Str → Option Value) → List (Addr × Obj) → Prop) (n : Nat) {m : Str → Option Value} {led : List (Addr × Obj)} (hI : I n m led)
    (F : Fr h₀ env.locals s.heap m) (N : News h₀ env.locals s.heap led) (G : AllBare s.gens)
    (turn : ∀ E' (Q' : Flow → Shared → Prop) n m led h tk gs, (∀ m led h tk gs, AllBare gs → Post m led → Fr h₀ env.locals h m → News h₀ env.locals h led → Q' .next { s with heap := h, toks := tk, gens := gs }) → AllBare gs → I n m led → Fr h₀ env.locals h m → News h₀ env.locals h led →
      wpAny (model prog w) A (isTrue test env (eval test env)) (fun b s₂ => if b then wpAny (model prog w) A (execs body env) (WEndG h₀ env.locals s Q' I n) E' s₂ else Q' .next s₂) E' { s with heap := h, toks := tk, gens := gs })
    (done : ∀ m led h tk gs, AllBare gs → Post m led → Fr h₀ env.locals h m → News h₀ env.locals h led → Q .next { s with heap := h, toks := tk, gens := gs }) :
    wpAny (model prog w) A (exec (.While test body [] pos) env) Q E s := by
  refine wpAny_While (codeAny_whileLoop (fun n s' => ∃ m led h tk gs, s' = { s with heap := h, toks := tk, gens := gs } ∧ AllBare gs ∧ I n m led ∧ Fr h₀ env.locals h m ∧ News h₀ env.locals h led) ?_ n ⟨m, led, s.heap, s.toks, s.gens, rfl, G, hI, F, N⟩)
  rintro n s' ⟨m, led, h, tk, gs, rfl, G, hI, F, N⟩
  refine wpAny_mono (turn _ Q n m led h tk gs done G hI F N) (fun b s₂ h₂ => ?_) fun _ _ e => e
  cases b with
  | false =>
    simp -iota only [Bool.false_eq_true, if_false] at h₂ ⊢
    exact wpAny_execs_nil h₂
  | true =>
    simp -iota only [if_true] at h₂ ⊢
    refine wpAny_mono h₂ (fun f s₃ h₃ => ?_) fun _ _ e => e
    cases f with
    | ret v => exact h₃
    | brk => exact h₃
    | next => obtain ⟨k, h', tk', gs', m', led', hk, rfl, G', F', N', hI'⟩ := h₃; exact ⟨k, hk, m', led', h', tk', gs', rfl, G', hI', F', N'⟩
    | cont => obtain ⟨k, h', tk', gs', m', led', hk, rfl, G', F', N', hI'⟩ := h₃; exact ⟨k, hk, m', led', h', tk', gs', rfl, G', hI', F', N'⟩
noncomputable def Goes (h₀ : Heap) (L : Addr) (s : Shared) (Post : (Str → Option Value) → List (Addr × Obj) → Prop) (Q : Flow → Shared → Prop) : Prop :=
  ∀ m led h tk gs, AllBare gs → Post m led → Fr h₀ L h m → News h₀ L h led → Q .next { s with heap := h, toks := tk, gens := gs }
theorem cut {tree : Sem Flow} (h₀ : Heap) (L : Addr) (Post : (Str → Option Value) → List (Addr × Obj) → Prop)
    (h1 : ∀ Q' : Flow → Shared → Prop, Goes h₀ L s Post Q' → wpAny M A tree Q' E s)
    (h2 : Goes h₀ L s Post Q) : wpAny M A tree Q E s := h1 Q h2
theorem fstr3 {name : Str} {scope : Scope} {a : Addr} {cd : Value} {m : Str → Option Value} {c1 c2 y : Str} {x1 x2 x : List Nat} {k1 k2 : Nat} {p1 p2 p3 p4 p5 : Pos} {t : Tok} {Q : Value → Shared → Prop} (e1 : c1 = S x1) (e2 : c2 = S x2) (F : Fr h₀ L s.heap m) (hv : m y = some (.str (S x) t))
    (hsz : x1.length + x.length + x2.length ≤ 16777216) (h : ∀ t' tk', Q (.str (S (x1 ++ x ++ x2)) t') { s with toks := tk' + 1 })
    (hk : scope.kind = .function) (hl : (envOf name scope L a cd).kindOf y = some .local)
    (hd : (y == ("__debug__" : Str)) = false) :
    wpAny (model prog w) A (eval (.JoinedStr [.Constant (.str c1) k1 p1, .FormattedValue (.Name y p2) (-1) none p3, .Constant (.str c2) k2 p4] p5) (envOf name scope L a cd)) Q E s := by
  have l0 : sizeLine = 16777216 := sizeLine_eq
  refine wpAny_JoinedStr ?_
  refine const_S e1 ?_
  refine ⟨_, _, rfl, ?_, ?_⟩
  · rw [show (Str.empty : Str) = S [] from rfl, S_app, S_len, l0]; simp only [List.nil_append]; lia
  refine wpAny_FormattedValue_plain (ld F hv ?_ hk hl hd)
  have key : ∀ t' (s' : Shared), (∃ tk', s' = { s with toks := tk' }) → ∃ y t, Value.str (S x) t' = Value.str y t ∧ (Str.empty ++ S x1 ++ y).length ≤ sizeLine ∧ Joins (model prog w) A E (evalEach [PySem.Expr.Constant (.str c2) k2 p4] (envOf name scope L a cd)) (Str.empty ++ S x1 ++ y)
      (fun out s₁ => out.length ≤ sizeLine ∧ Q (.str out s₁.toks) { s₁ with toks := s₁.toks + 1 }) s' := by
    rintro t' s' ⟨tk', rfl⟩
    refine ⟨_, _, rfl, ?_, ?_⟩
    · rw [show (Str.empty : Str) = S [] from rfl, S_app, S_app, S_len, l0]; simp only [List.nil_append, List.length_append]; lia
    refine const_S e2 ?_
    have hz : (Str.empty ++ S x1 ++ S x ++ S x2).length ≤ sizeLine := by
      rw [show (Str.empty : Str) = S [] from rfl, S_app, S_app, S_app, S_len, l0]; simp only [List.nil_append, List.length_append]; lia
    refine ⟨_, _, rfl, hz, hz, ?_⟩
    rw [show (Str.empty : Str) = S [] from rfl, S_app, S_app, S_app, List.nil_append]
    exact h _ _
  refine wpAny_formatField_str (key _ _ ⟨_, rfl⟩) (key _ _ ⟨_, rfl⟩) ?_
  rw [S_len, l0]; lia
end
example : True := by
  k_with "eval JoinedStr" =>
    ((k_here; k_dflt (refine' Mine.fstr3 ?mf1938 ?mf2938 ?mfF938 ?mfv938 ?mfs938 ?_ rfl rfl (by decide); (case mf1938 => first | exact Mine.c30 | exact Mine.c31 | exact Mine.c11); (case mf2938 => first | exact Mine.c22 | exact Mine.c32 | exact Mine.c12); (case mfF938 => with_reducible assumption); (case mfv938 => exact rfl); (case mfs938 => ((try simp only [List.length_append, List.length_cons, List.length_nil]); omega)); k_whole); intro _ _))
  trivial
theorem cut_slice1 {x y : List Nat} {i : Int} (h : Cut x i (x.length : Int) y) : Txt.slice (S x) (some i) none = S y := by
  have e : Txt.slice (S x) (some i) none = Txt.slice (S x) (some i) (some (x.length : Int)) := by
    unfold Txt.slice
    rw [StrLaws.sliceIdx_none_hi, S_len]
  rw [e]; exact cut_slice h
theorem cut_slice2 {x y : List Nat} {j : Int} (h : Cut x 0 j y) : Txt.slice (S x) none (some j) = S y := by
  have e : Txt.slice (S x) none (some j) = Txt.slice (S x) (some 0) (some j) := by
    unfold Txt.slice
    rw [StrLaws.sliceIdx_none_lo]
  rw [e]; exact cut_slice h
theorem cut_slice_neg {x : List Nat} {c : Nat} (hl : x.length < 16777216) : Txt.slice (S (x ++ [c])) none (some (-1)) = S x := by
  have e : Txt.slice (S (x ++ [c])) none (some (-1)) = Txt.slice (S (x ++ [c])) none (some (x.length : Int)) := by
    unfold Txt.slice
    have hlen : ((S (x ++ [c])).length : Int) = x.length + 1 := by rw [S_len]; simp
    rw [StrLaws.sliceIdx_neg_hi none (S (x ++ [c])).length (by decide) (by lia), hlen, show (-1 + ((x.length : Int) + 1)) = (x.length : Int) from by lia]
  rw [e]
  exact cut_slice2 ⟨[], [c], by simp, by simp, by simp, by simp; lia⟩
theorem cut_slice_tl {x : List Nat} {c : Nat} (hl : x.length < 16777216) : Txt.slice (S (c :: x)) (some 1) none = S x :=
  cut_slice1 ⟨[c], [], by simp, by simp, by simp; lia, by simp; lia⟩
section
variable {prog : Program} {w : World} {A : Around} {E : Value → Shared → Prop} {s : Shared} {h₀ : Heap} {L : Addr} {m : Str → Option Value} {led : List (Addr × Obj)} {value slice : PySem.Expr} {Q : Value → Shared → Prop}
theorem slice_tl {x : List Nat} {c : Nat} {t ui : Tok} (hl : x.length < 16777215) (F : Fr h₀ L s.heap m) (N : News h₀ L s.heap led) (h : ∀ h' t' k, Fr h₀ L h' m → News h₀ L h' led → Q (.str (S x) t') { s with heap := h', toks := k })
    (hs : subscripted slice false (.str (S (c :: x)) t) (.ref s.heap.objs.size) = operate [.ref s.heap.objs.size, .str (S (c :: x)) t] (getItem (.str (S (c :: x)) t) (.ref s.heap.objs.size)))
    (ht : ∀ r, letTemporaryGo value (.str (S (c :: x)) t) r = pure ()) :
    wpAny (model prog w) A (subscriptTail value slice (.str (S (c :: x)) t) (.ref s.heap.objs.size)) Q E { s with heap := s.heap.push { cls := .type "slice", data := .fields #[.int 1 ui, .none, .none] } } :=
  slice_strN_sn F N (fun h' t' k a b => by rw [cut_slice_tl (by lia)]; exact h h' t' k a b) hs ht (by rw [S_len, sizeLine_eq]; simp; lia)
theorem slice_init {x : List Nat} {c : Nat} {t ui : Tok} (hl : x.length < 16777215) (F : Fr h₀ L s.heap m) (N : News h₀ L s.heap led) (h : ∀ h' t' k, Fr h₀ L h' m → News h₀ L h' led → Q (.str (S x) t') { s with heap := h', toks := k })
    (hs : subscripted slice false (.str (S (x ++ [c])) t) (.ref s.heap.objs.size) = operate [.ref s.heap.objs.size, .str (S (x ++ [c])) t] (getItem (.str (S (x ++ [c])) t) (.ref s.heap.objs.size)))
    (ht : ∀ r, letTemporaryGo value (.str (S (x ++ [c])) t) r = pure ()) :
    wpAny (model prog w) A (subscriptTail value slice (.str (S (x ++ [c])) t) (.ref s.heap.objs.size)) Q E { s with heap := s.heap.push { cls := .type "slice", data := .fields #[.none, .int (-1) ui, .none] } } :=
  slice_strN_ns F N (fun h' t' k a b => by rw [cut_slice_neg (by lia)]; exact h h' t' k a b) hs ht (by rw [S_len, sizeLine_eq]; simp; lia)
theorem slice_to {x y : List Nat} {j : Int} {t uj : Tok} (hc : Cut x 0 j y) (F : Fr h₀ L s.heap m) (N : News h₀ L s.heap led) (h : ∀ h' t' k, Fr h₀ L h' m → News h₀ L h' led → Q (.str (S y) t') { s with heap := h', toks := k })
    (hs : subscripted slice false (.str (S x) t) (.ref s.heap.objs.size) = operate [.ref s.heap.objs.size, .str (S x) t] (getItem (.str (S x) t) (.ref s.heap.objs.size)))
    (ht : ∀ r, letTemporaryGo value (.str (S x) t) r = pure ()) :
    wpAny (model prog w) A (subscriptTail value slice (.str (S x) t) (.ref s.heap.objs.size)) Q E { s with heap := s.heap.push { cls := .type "slice", data := .fields #[.none, .int j uj, .none] } } :=
  slice_strN_ns F N (fun h' t' k a b => by rw [cut_slice2 hc]; exact h h' t' k a b) hs ht (by obtain ⟨_, _, _, _, _, q⟩ := hc; rw [S_len, sizeLine_eq]; exact q)
end
example : True := by
  k_with "subscriptTail" =>
    (((with_reducible show wpAny _ _ (subscriptTail _ (Expr.Slice (some _) none none _) (Value.str _ _) _) _ _ _); (refine' Mine.slice_tl (s := ⟨_, _, _, _, _⟩) ?mslc939 ?mslF939 ?mslN939 ?_ ?msls939 ?mslt939); (case mslc939 => first | (with_reducible assumption) | omega); (case mslF939 => with_reducible assumption); (case mslN939 => with_reducible assumption); (case msls939 => first | with_reducible exact Mine.sub_name | with_reducible exact Mine.sub_const | with_reducible exact Mine.sub_binop | with_reducible exact Mine.sub_unop | with_reducible exact Mine.sub_slice | with_unfolding_all rfl); (case mslt939 => intro _; with_reducible exact Mine.ltg_str); intro _ _ _ _ _))
  trivial
example : True := by
  k_with "subscriptTail" =>
    (((with_reducible show wpAny _ _ (subscriptTail _ (Expr.Slice none (some _) none _) (Value.str _ _) _) _ _ _); (refine' Mine.slice_init (s := ⟨_, _, _, _, _⟩) ?mslc940 ?mslF940 ?mslN940 ?_ ?msls940 ?mslt940); (case mslc940 => first | (with_reducible assumption) | omega); (case mslF940 => with_reducible assumption); (case mslN940 => with_reducible assumption); (case msls940 => first | with_reducible exact Mine.sub_name | with_reducible exact Mine.sub_const | with_reducible exact Mine.sub_binop | with_reducible exact Mine.sub_unop | with_reducible exact Mine.sub_slice | with_unfolding_all rfl); (case mslt940 => intro _; with_reducible exact Mine.ltg_str); intro _ _ _ _ _))
  trivial
example : True := by
  k_with "subscriptTail Name Slice str ref" =>
    (((with_reducible show wpAny _ _ (subscriptTail _ (Expr.Slice (some _) none none _) (Value.str _ _) _) _ _ _); (refine' Mine.slice_tl (s := ⟨_, _, _, _, _⟩) ?mslc941 ?mslF941 ?mslN941 ?_ ?msls941 ?mslt941); (case mslc941 => first | (with_reducible assumption) | omega); (case mslF941 => with_reducible assumption); (case mslN941 => with_reducible assumption); (case msls941 => first | with_reducible exact Mine.sub_name | with_reducible exact Mine.sub_const | with_reducible exact Mine.sub_binop | with_reducible exact Mine.sub_unop | with_reducible exact Mine.sub_slice | with_unfolding_all rfl); (case mslt941 => intro _; with_reducible exact Mine.ltg_str); intro _ _ _ _ _))
  trivial
end
section
open PySem PySem.W PyProof.Rows PySem.Calls
set_option maxRecDepth 100000
set_option maxHeartbeats 4000000
noncomputable def SpecG (w : World) (f : Addr) (vs : List Value) (Pre : List (Addr × Obj) → Prop) (Out : List (Addr × Obj) → Value → Prop) : Prop :=
  ∀ (dp un : Nat) (gd : Option (List Code)) (cn : Str) (cs : Scope) (a : Addr) (ccd : Value) (cl : List (Str × Addr)) (outer : List Env) (A₀ : Around) (base h₀ : Heap) (L : Addr) (m : Str → Option Value)
    (p : Program) (loose : List Str) (mean : ExcName → Option Value) (mg mb : Str → Option Value) (rest : List (Addr × Obj)) (ts : Array Value) (s : Shared) (Q E : Value → Shared → Prop),
    Below A₀ base outer h₀ → Fr h₀ L s.heap m → (hp.heap_1 w.params).In h₀ → News h₀ L s.heap ((57, tabObj ts) :: rest) → Top p loose mean mg mb h₀ → cs.kind = .function → AllBare s.gens →
    (∀ p ∈ rest, p.1 ≠ 57) → TriplesR ts.toList → Pre rest → dp + 20 < recursionLimit → un + 120 < cLine →
    (∀ r ts' tl h' tk' gs', AllBare gs' → Fr h₀ L h' m → News h₀ L h' (((57, tabObj ts') :: rest) ++ tl) → TriplesR ts'.toList → (∀ p ∈ tl, p.1 ≠ 57) → (∀ q ∈ rest, ∀ p ∈ tl, q.1 < p.1) → Out (rest ++ tl) r → Q r { s with heap := h', toks := tk', gens := gs' }) →
    wpAny (model PR w) (ktrTop dp un gd cn cs L a ccd cl outer) (call (.ref f) vs) Q E s
inductive TrI (its : List It) (st : Value) (t2 : Tok) (b l : Addr) (rest : List (Addr × Obj)) (n : Nat) (m : Str → Option Value) (led : List (Addr × Obj)) : Prop
  | mk (k ys nn ts tp tq tr : _) (h1 : n = its.length - k) (h2 : k ≤ its.length) (h3 : led = (b, bmObj l) :: (l, listOf ys.toArray nn) :: (57, tabObj ts) :: rest) (h4 : TriplesR ts.toList) (h5 : PcsAre st ys (pieces (its.take k))) (h6 : Has m [("i", .int ((patText (its.take k)).length : Nat) tp), ("n", .int ((patText its).length : Nat) tq), ("res", .ref l), ("add", .ref b), ("pat", .str (S (patText its)) tr), ("STAR", st), ("QUESTION_MARK", .str (S [46]) t2)]) : TrI its st t2 b l rest n m led
inductive TrX (its : List It) (st : Value) (b l : Addr) (rest : List (Addr × Obj)) (m : Str → Option Value) (led : List (Addr × Obj)) : Prop
  | mk (ys nn ts tp tq : _) (h1 : led = (b, bmObj l) :: (l, listOf ys.toArray nn) :: (57, tabObj ts) :: rest) (h2 : TriplesR ts.toList) (h3 : PcsAre st ys (pieces its)) (h4 : Has m [("i", .int ((patText its).length : Nat) tp), ("n", .int ((patText its).length : Nat) tq), ("res", .ref l)]) : TrX its st b l rest m led
theorem trI_fin {its : List It} {st : Value} {t2 : Tok} {b l : Addr} {rest : List (Addr × Obj)} {k : Nat} {g : Heap} {L : Addr} {s : Shared} {h' : Heap} {tk' : Nat} {gs' : Array GenState} {m' : Str → Option Value} {ys : List Value} {nn : Nat} {ts : Array Value} {tp tq tr : Tok} {i : Int}
    (hlt : k < its.length) (e : ((patText (its.take (k + 1))).length : Int) = i) (G : AllBare gs') (F : Fr g L h' m') (N : News g L h' ((b, bmObj l) :: (l, listOf ys.toArray nn) :: (57, tabObj ts) :: rest)) (htr : TriplesR ts.toList) (hp : PcsAre st ys (pieces (its.take (k + 1))))
    (H : Has m' [("i", .int i tp), ("n", .int ((patText its).length : Nat) tq), ("res", .ref l), ("add", .ref b), ("pat", .str (S (patText its)) tr), ("STAR", st), ("QUESTION_MARK", .str (S [46]) t2)]) :
    WGx g L s (TrI its st t2 b l rest) (its.length - k) { s with heap := h', toks := tk', gens := gs' } := by
  subst e
  exact ⟨its.length - (k + 1), h', tk', gs', m', _, by lia, rfl, G, F, N, k + 1, ys, nn, ts, tp, tq, tr, rfl, hlt, rfl, htr, hp, H⟩
theorem jI_finG {its : List It} {st : Value} {t2 : Tok} {b l : Addr} {i jj : Int} {fl : List Nat} {led0 : List (Addr × Obj)} {g : Heap} {L : Addr} {s : Shared} {h' : Heap} {tk' : Nat} {gs' : Array GenState} {m' : Str → Option Value} {r : Nat} {tp tq tr tj : Tok}
    (hr : r < fl.length) (G : AllBare gs') (F : Fr g L h' m') (N : News g L h' led0)
    (H : Has m' [("i", .int i tp), ("n", .int ((patText its).length : Nat) tq), ("res", .ref l), ("add", .ref b), ("pat", .str (S (patText its)) tr), ("STAR", st), ("QUESTION_MARK", .str (S [46]) t2), ("j", .int (jj + (r : Int) + 1) tj)]) :
    WGx g L s (JI its st t2 b l i jj fl led0) (fl.length - r) { s with heap := h', toks := tk', gens := gs' } := by
  have e : jj + (r : Int) + 1 = jj + ((r + 1 : Nat) : Int) := by push_cast; lia
  rw [e] at H
  exact ⟨fl.length - (r + 1), h', tk', gs', m', _, by lia, rfl, G, F, N, r + 1, tp, tq, tr, tj, rfl, hr, rfl, H⟩
noncomputable def nb : Bool → List Nat
  | true => [33]
  | false => []
theorem nb_e1 : nb true = [33] := rfl
theorem nb_e2 : nb false = [] := rfl
noncomputable def nl : Bool → Int
  | true => 1
  | false => 0
theorem nb_len (b : Bool) : ((nb b).length : Int) = nl b := by cases b <;> rfl
theorem br_text (neg : Bool) (ms : List (List Nat)) : (It.br neg ms).text = [91] ++ (nb neg ++ ms.flatten ++ [93]) := by cases neg <;> simp [text_e1, text_e2, text_e3, text_e4, nb_e1, nb_e2]
theorem kept_sub (ms : List (List Nat)) : ∀ d ∈ kept ms, d ∈ ms.flatten := by
  intro d hd
  unfold kept at hd
  obtain ⟨m, hm, hd⟩ := List.mem_flatten.mp hd
  exact List.mem_flatten.mpr ⟨m, (List.mem_filter.mp hm).1, hd⟩
theorem kept_len (ms : List (List Nat)) : (kept ms).length ≤ ms.flatten.length := by
  unfold kept
  induction ms with
  | nil => simp
  | cons m r ih =>
    rw [List.filter_cons]
    split
    · simp only [List.flatten_cons, List.length_append]; lia
    · simp only [List.flatten_cons, List.length_append]; lia
theorem kept_all {ms : List (List Nat)} (h : 45 ∉ ms.flatten) : kept ms = ms.flatten := by
  unfold kept
  rw [List.filter_eq_self.mpr]
  intro m hm
  rw [decide_eq_true_eq]
  rintro rfl
  exact h (List.mem_flatten.mpr ⟨_, hm, by decide⟩)
inductive JD (its : List It) (st : Value) (t2 : Tok) (b l : Addr) (je : Int) (sf : List Nat) (ys : List Value) (nn : Nat) (rest : List (Addr × Obj)) (m : Str → Option Value) (led : List (Addr × Obj)) : Prop
  | mk (ts tq tr tj tf : _) (h1 : led = (b, bmObj l) :: (l, listOf ys.toArray nn) :: (57, tabObj ts) :: rest) (h2 : TriplesR ts.toList) (h3 : Has m [("n", .int ((patText its).length : Nat) tq), ("res", .ref l), ("add", .ref b), ("pat", .str (S (patText its)) tr), ("STAR", st), ("QUESTION_MARK", .str (S [46]) t2), ("j", .int je tj), ("stuff", .str (S sf) tf)]) : JD its st t2 b l je sf ys nn rest m led
theorem bfacts {neg : Bool} {ms : List (List Nat)} (hok : (It.br neg ms).Ok) (hl : ms.flatten.length ≤ 1000) :
    (∀ d ∈ nb neg ++ kept ms, d ≠ 38 ∧ d ≠ 124 ∧ d ≠ 126) ∧ (nb neg ++ kept ms).length ≤ 100000 ∧ ∀ d ∈ kept ms, fine d := by
  obtain ⟨c1, fr, hfl, hfine⟩ := flat_ok hok.1 hok.2
  have hf : ∀ d ∈ kept ms, fine d := fun d hd => hfine d (hfl ▸ kept_sub ms d hd)
  refine ⟨fun d hd => ?_, ?_, hf⟩
  · rcases List.mem_append.mp hd with q | q
    · cases neg
      · cases q
      · rw [List.mem_singleton.mp q]; decide
    · have := hf d q
      exact ⟨this.2.2.1, this.2.2.2.2.1, this.2.2.2.1⟩
  · have := kept_len ms
    have h1 : (nb neg).length ≤ 1 := by cases neg <;> simp [nb_e1, nb_e2]
    rw [List.length_append]; lia
theorem dp_ok2 {dp : Nat} (h : dp + 20 < recursionLimit) : dp + 1 + 3 < recursionLimit := Nat.lt_of_le_of_lt (by lia) h
theorem un_ok2 {un : Nat} (h : un + 120 < cLine) : un + 3 + 30 < cLine := Nat.lt_of_le_of_lt (by lia) h
theorem sfacts {c : Nat} {r : List Nat} (h : r.length ≤ 1000) (h2 : [c] ≠ [33]) : (c :: r).length ≤ 100000 ∧ c :: r ≠ [33] ∧ At (c :: r) 0 c :=
  ⟨by rw [List.length_cons]; lia, fun q => h2 (by rw [(List.cons.inj q).1]), by lia, by lia, rfl⟩
theorem tfacts {r : List Nat} (h : r.length ≤ 1000) (c : Nat) : (33 :: c :: r).length ≤ 100000 ∧ 33 :: c :: r ≠ [33] ∧ At (33 :: c :: r) 0 33 ∧ (c :: r).length ≤ 1001 :=
  ⟨by rw [List.length_cons, List.length_cons]; lia, fun q => by simp at q, ⟨by lia, by lia, rfl⟩, by rw [List.length_cons]; lia⟩
theorem piece_f0 {ms : List (List Nat)} (h : kept ms = []) : pieceOf (.br false ms) = some [40, 63, 33, 41] := by simp [pieceOf_e1, pieceOf_e2, pieceOf_e3, pieceOf_e4, h]
theorem piece_t0 {ms : List (List Nat)} (h : kept ms = []) : pieceOf (.br true ms) = some [46] := by simp [pieceOf_e1, pieceOf_e2, pieceOf_e3, pieceOf_e4, h]
theorem piece_f1 {ms : List (List Nat)} {c : Nat} {r : List Nat} (h : kept ms = c :: r) : pieceOf (.br false ms) = some ([91] ++ (c :: r) ++ [93]) := by simp [pieceOf_e1, pieceOf_e2, pieceOf_e3, pieceOf_e4, h]
theorem piece_t1 {ms : List (List Nat)} {c : Nat} {r : List Nat} (h : kept ms = c :: r) : pieceOf (.br true ms) = some ([91] ++ ([94] ++ (c :: r)) ++ [93]) := by simp [pieceOf_e1, pieceOf_e2, pieceOf_e3, pieceOf_e4, h]
theorem news_dropT {h₀ h : Heap} {L d : Addr} {dt : Data} {led : List (Addr × Obj)} (N : News h₀ L h ((d, { cls := .type "tuple", data := dt }) :: led)) : News h₀ L h led := fun p hp => N p (.tail _ hp)
end
section
open PySem PySem.W PyProof.Rows PySem.Calls
set_option maxRecDepth 100000
set_option maxHeartbeats 4000000
theorem mcase {m : List Nat} (h : m ∈ mtab) : (∃ c, m = [c] ∧ c ≠ 45) ∨ (∃ x y, m = [x, 45, y] ∧ x ≠ 45 ∧ y ≠ 45 ∧ ((x = 98 ∧ y = 97) ∨ (x ≤ y ∧ m ≠ [98, 45, 97]))) := by
  simp only [mtab, List.mem_cons, List.not_mem_nil, or_false] at h
  rcases h with rfl | rfl | rfl | rfl | rfl | rfl | rfl | rfl | rfl
  · exact .inr ⟨98, 97, rfl, by decide, by decide, .inl ⟨rfl, rfl⟩⟩
  · exact .inl ⟨10, rfl, by decide⟩
  · exact .inl ⟨46, rfl, by decide⟩
  · exact .inl ⟨97, rfl, by decide⟩
  · exact .inr ⟨46, 47, rfl, by decide, by decide, .inr ⟨by decide, by decide⟩⟩
  · exact .inl ⟨13, rfl, by decide⟩
  · exact .inr ⟨9, 10, rfl, by decide, by decide, .inr ⟨by decide, by decide⟩⟩
  · exact .inr ⟨10, 46, rfl, by decide, by decide, .inr ⟨by decide, by decide⟩⟩
  · exact .inr ⟨13, 46, rfl, by decide, by decide, .inr ⟨by decide, by decide⟩⟩
noncomputable def chunksFrom : List Nat → List (List Nat) → List (List Nat)
  | cur, [] => [cur]
  | cur, m :: ms => match m with
    | [x, _, y] => (cur ++ [x]) :: chunksFrom [y] ms
    | m => chunksFrom (cur ++ m) ms
theorem chunksFrom_e1 {cur : List Nat} : chunksFrom cur [] = [cur] := rfl
theorem chunks_one (cur : List Nat) (c : Nat) (ms : List (List Nat)) : chunksFrom cur ([c] :: ms) = chunksFrom (cur ++ [c]) ms := rfl
theorem chunks_three (cur : List Nat) (x z y : Nat) (ms : List (List Nat)) : chunksFrom cur ([x, z, y] :: ms) = (cur ++ [x]) :: chunksFrom [y] ms := rfl
noncomputable def gtLast (c d : List Nat) : Bool := match c.getLast?, d.head? with
  | some a, some b => decide (b < a)
  | _, _ => false
noncomputable def mergeAll : List (List Nat) → List (List Nat)
  | [] => []
  | c :: r => match mergeAll r with
    | [] => [c]
    | d :: ds => if gtLast c d then (c.dropLast ++ d.tail) :: ds else c :: d :: ds
theorem mergeAll_e1 : mergeAll [] = [] := rfl
theorem mergeAll_e2 {c : List Nat} : mergeAll [c] = [c] := rfl
theorem chunk_step : ∀ (ms : List (List Nat)), (∀ m ∈ ms, m ∈ mtab) → ∀ cur : List Nat, (45 ∉ ms.flatten ∧ chunksFrom cur ms = [cur ++ ms.flatten]) ∨
    ∃ sg x y ms2, 45 ∉ sg ∧ x ≠ 45 ∧ y ≠ 45 ∧ ms.flatten = sg ++ [x, 45, y] ++ ms2.flatten ∧ chunksFrom cur ms = (cur ++ sg ++ [x]) :: chunksFrom [y] ms2 ∧ ms2.length < ms.length ∧ ∀ m ∈ ms2, m ∈ mtab
  | [], _, cur => .inl ⟨by simp, by simp [chunksFrom_e1]⟩
  | m :: ms, hm, cur => by
    rcases mcase (hm m (.head _)) with ⟨c, rfl, hc⟩ | ⟨x, y, rfl, hx, hy, _⟩
    · rcases chunk_step ms (fun m h => hm m (.tail _ h)) (cur ++ [c]) with ⟨h1, h2⟩ | ⟨sg, x, y, ms2, h1, h2, h3, h4, h5, h6, h7⟩
      · refine .inl ⟨?_, ?_⟩
        · simp only [List.flatten_cons, List.mem_append, List.mem_singleton]
          rintro (q | q)
          · exact hc q.symm
          · exact h1 q
        · rw [chunks_one, h2]; simp
      · refine .inr ⟨c :: sg, x, y, ms2, ?_, h2, h3, ?_, ?_, ?_, h7⟩
        · rintro q
          rcases List.mem_cons.mp q with q | q
          · exact hc q.symm
          · exact h1 q
        · rw [List.flatten_cons, h4]; simp
        · rw [chunks_one, h5]; simp
        · rw [List.length_cons]; omega
    · exact .inr ⟨[], x, y, ms, by simp, hx, hy, by simp, by rw [chunks_three]; simp, by simp, fun m h => hm m (.tail _ h)⟩
theorem joinT_head (sep a t : List Nat) : ∀ ds : List (List Nat), joinT sep ((a ++ t) :: ds) = a ++ joinT sep (t :: ds)
  | [] => rfl
  | d :: ds => by show (a ++ t) ++ sep ++ joinT sep (d :: ds) = a ++ (t ++ sep ++ joinT sep (d :: ds)); simp [List.append_assoc]
theorem joinT_two (sep a b : List Nat) (ds : List (List Nat)) : joinT sep (a :: b :: ds) = a ++ sep ++ joinT sep (b :: ds) := rfl
theorem merge_cons {c d : List Nat} {r ds : List (List Nat)} (h : mergeAll r = d :: ds) : mergeAll (c :: r) = if gtLast c d then (c.dropLast ++ d.tail) :: ds else c :: d :: ds := by
  show (match mergeAll r with | [] => [c] | d :: ds => if gtLast c d then (c.dropLast ++ d.tail) :: ds else c :: d :: ds) = _
  rw [h]
theorem gtLast_eq (a : List Nat) (x y : Nat) (t : List Nat) : gtLast (a ++ [x]) (y :: t) = decide (y < x) := by
  unfold gtLast; simp
theorem merged : ∀ (ms : List (List Nat)), (∀ m ∈ ms, m ∈ mtab) → ∀ cur : List Nat, ∃ t ds, mergeAll (chunksFrom cur ms) = (cur ++ t) :: ds ∧ joinT [45] ((cur ++ t) :: ds) = cur ++ kept ms
  | [], _, cur => ⟨[], [], by simp [chunksFrom_e1, mergeAll_e2], by simp [joinT_e1, joinT_e2, joinT_e3, kept]⟩
  | m :: ms, hm, cur => by
    have hm' : ∀ m ∈ ms, m ∈ mtab := fun m h => hm m (.tail _ h)
    rcases mcase (hm m (.head _)) with ⟨c, rfl, hc⟩ | ⟨x, y, rfl, hx, hy, hxy⟩
    · obtain ⟨t, ds, h1, h2⟩ := merged ms hm' (cur ++ [c])
      refine ⟨[c] ++ t, ds, by rw [chunks_one, h1, List.append_assoc], ?_⟩
      rw [← List.append_assoc, h2]
      simp [kept]
    · obtain ⟨t, ds, h1, h2⟩ := merged ms hm' [y]
      have h1' : mergeAll (chunksFrom [y] ms) = (y :: t) :: ds := h1
      rw [joinT_head] at h2
      have h3 := List.append_cancel_left h2
      rw [chunks_three, merge_cons h1', gtLast_eq]
      rcases hxy with ⟨rfl, rfl⟩ | ⟨hle, hne⟩
      · refine ⟨t, ds, by simp, ?_⟩
        rw [joinT_head, h3]
        simp [kept]
      · refine ⟨[x], (y :: t) :: ds, by rw [if_neg (by simpa using hle)], ?_⟩
        rw [joinT_two, show (y :: t) = [y] ++ t from rfl, joinT_head, h3]
        have : kept ([x, 45, y] :: ms) = [x, 45, y] ++ kept ms := by unfold kept; rw [List.filter_cons_of_pos (by rw [decide_eq_true_eq]; exact hne)]; rfl
        rw [this]; simp
theorem merge_good : ∀ (ms : List (List Nat)), (∀ m ∈ ms, m ∈ mtab) → ∀ (cur : List Nat) (front : List (List Nat)) (c : List Nat) (back : List (List Nat)), chunksFrom cur ms = front ++ c :: back → back ≠ [] →
    (∃ x z, c = x ++ [z]) ∧ ∃ e y ds, mergeAll back = (e :: y) :: ds
  | [], _, cur, front, c, back, h, hb => by
    have := congrArg List.length h
    simp only [chunksFrom_e1, List.length_append, List.length_cons, List.length_nil] at this
    exact absurd (List.eq_nil_of_length_eq_zero (by omega)) hb
  | m :: ms, hm, cur, front, c, back, h, hb => by
    have hm' : ∀ m ∈ ms, m ∈ mtab := fun m h => hm m (.tail _ h)
    rcases mcase (hm m (.head _)) with ⟨c', rfl, hc⟩ | ⟨x, y, rfl, hx, hy, hxy⟩
    · rw [chunks_one] at h
      exact merge_good ms hm' _ front c back h hb
    · rw [chunks_three] at h
      cases front with
      | nil =>
        rw [List.nil_append] at h
        obtain ⟨h1, h2⟩ := List.cons.inj h
        obtain ⟨t, ds, h3, _⟩ := merged ms hm' [y]
        exact ⟨⟨cur, x, h1.symm⟩, y, t, ds, by rw [← h2]; exact h3⟩
      | cons f front =>
        obtain ⟨_, h2⟩ := List.cons.inj h
        exact merge_good ms hm' _ front c back h2 hb
theorem chunk_len : ∀ (ms : List (List Nat)), (∀ m ∈ ms, m ∈ mtab) → ∀ cur : List Nat, (chunksFrom cur ms).flatten.length ≤ cur.length + ms.flatten.length
  | [], _, cur => by simp [chunksFrom_e1]
  | m :: ms, hm, cur => by
    have hm' : ∀ m ∈ ms, m ∈ mtab := fun m h => hm m (.tail _ h)
    rcases mcase (hm m (.head _)) with ⟨c', rfl, hc⟩ | ⟨x, y, rfl, hx, hy, hxy⟩
    · rw [chunks_one]
      have := chunk_len ms hm' (cur ++ [c'])
      simp only [List.length_append, List.length_cons, List.length_nil, List.flatten_cons] at this ⊢
      omega
    · rw [chunks_three]
      have := chunk_len ms hm' [y]
      simp only [List.length_append, List.length_cons, List.length_nil, List.flatten_cons] at this ⊢
      omega
theorem merge_len : ∀ l : List (List Nat), (mergeAll l).flatten.length ≤ l.flatten.length
  | [] => by simp [mergeAll_e1]
  | c :: r => by
    have ih := merge_len r
    rcases h : mergeAll r with _ | ⟨d, ds⟩
    · show (match mergeAll r with | [] => [c] | d :: ds => if gtLast c d then (c.dropLast ++ d.tail) :: ds else c :: d :: ds).flatten.length ≤ _
      rw [h]
      simp
    · rw [merge_cons h]
      rw [h] at ih
      split
      · simp only [List.flatten_cons, List.length_append, List.length_dropLast, List.length_tail] at ih ⊢; omega
      · simp only [List.flatten_cons, List.length_append] at ih ⊢; omega
theorem chunk_no : ∀ (ms : List (List Nat)), (∀ m ∈ ms, m ∈ mtab) → ∀ cur : List Nat, 45 ∉ cur → ∀ c ∈ chunksFrom cur ms, 45 ∉ c
  | [], _, cur, h, c, hc => by rw [List.mem_singleton.mp hc]; exact h
  | m :: ms, hm, cur, h, c, hc => by
    have hm' : ∀ m ∈ ms, m ∈ mtab := fun m h => hm m (.tail _ h)
    rcases mcase (hm m (.head _)) with ⟨c', rfl, hc'⟩ | ⟨x, y, rfl, hx, hy, hxy⟩
    · rw [chunks_one] at hc
      refine chunk_no ms hm' _ (fun q => ?_) c hc
      rcases List.mem_append.mp q with q | q
      · exact h q
      · exact hc' (List.mem_singleton.mp q).symm
    · rw [chunks_three] at hc
      rcases List.mem_cons.mp hc with rfl | hc
      · intro q
        rcases List.mem_append.mp q with q | q
        · exact h q
        · exact hx (List.mem_singleton.mp q).symm
      · exact chunk_no ms hm' _ (fun q => hy (List.mem_singleton.mp q).symm) c hc
theorem chunk_sub : ∀ (ms : List (List Nat)), (∀ m ∈ ms, m ∈ mtab) → ∀ cur : List Nat, ∀ c ∈ chunksFrom cur ms, ∀ d ∈ c, d ∈ cur ++ ms.flatten
  | [], _, cur, c, hc, d, hd => by rw [List.mem_singleton.mp hc] at hd; simp [hd]
  | m :: ms, hm, cur, c, hc, d, hd => by
    have hm' : ∀ m ∈ ms, m ∈ mtab := fun m h => hm m (.tail _ h)
    rcases mcase (hm m (.head _)) with ⟨c', rfl, hc'⟩ | ⟨x, y, rfl, hx, hy, hxy⟩
    · rw [chunks_one] at hc
      have := chunk_sub ms hm' _ c hc d hd
      simpa using this
    · rw [chunks_three] at hc
      rcases List.mem_cons.mp hc with rfl | hc
      · simp only [List.mem_append, List.mem_singleton] at hd
        simp only [List.flatten_cons, List.mem_append, List.mem_cons]
        rcases hd with q | q
        · exact .inl q
        · exact .inr (.inl (.inl q))
      · have := chunk_sub ms hm' _ c hc d hd
        simp only [List.mem_append, List.mem_singleton] at this
        simp only [List.flatten_cons, List.mem_append, List.mem_cons]
        rcases this with q | q
        · exact .inr (.inl (.inr (.inr (.inl q))))
        · exact .inr (.inr q)
theorem merge_sub : ∀ (l : List (List Nat)) (c : List Nat), c ∈ mergeAll l → ∀ d ∈ c, d ∈ l.flatten
  | [], c, hc, d, hd => by cases hc
  | a :: r, c, hc, d, hd => by
    have ih := merge_sub r
    rcases h : mergeAll r with _ | ⟨e, ds⟩
    · have e1 : mergeAll (a :: r) = [a] := by
        show (match mergeAll r with | [] => [a] | d :: ds => if gtLast a d then (a.dropLast ++ d.tail) :: ds else a :: d :: ds) = _
        rw [h]
      rw [e1] at hc
      rw [List.mem_singleton.mp hc] at hd
      simp [hd]
    · rw [merge_cons h] at hc
      rw [h] at ih
      rw [List.flatten_cons, List.mem_append]
      split at hc
      · rcases List.mem_cons.mp hc with rfl | hc
        · rcases List.mem_append.mp hd with q | q
          · exact .inl (List.dropLast_subset _ q)
          · exact .inr (ih e (.head _) d (List.mem_of_mem_tail q))
        · exact .inr (ih c (.tail _ hc) d hd)
      · rcases List.mem_cons.mp hc with rfl | hc
        · exact .inl hd
        · exact .inr (ih c hc d hd)
end
section
open PySem PySem.W PyProof.Rows PySem.Calls
set_option maxRecDepth 100000
set_option maxHeartbeats 4000000
section
variable {prog : Program} {w : World} {M : Model} {A : Around} {E : Value → Shared → Prop} {s : Shared} {h₀ : Heap} {L a : Addr} {m mg mb : Str → Option Value} {cn : Str} {cs : Scope} {cl : List (Str × Addr)} {pre post : List (Addr × Obj)}
  {p : Program} {loose : List Str} {mean : ExcName → Option Value} {ts : Array Value} {pos : Pos} {scope : Scope} {clos : List (Str × Addr)} {Q : Value → Shared → Prop}
theorem gcode_hit {env : Env} {c P : Addr} {ps : Array Value} {qualname : Str} {cv : Value} (hc : env.code = .ref c) (hok : s.heap.IsCode c P ps) (hf : codeAmong pos ps.toList = some cv) (hQ : Q cv s) :
    wpAny M A (genexprCode env pos qualname scope) Q E s := by
  obtain ⟨o, vs, file, tf, flags, tg, inF, text, tt, op, ho, hd, h11, h2, h7, h9, h10, hop, hpd, htr, hne⟩ := id hok
  unfold genexprCode codeAt
  rw [hc, if_neg (show ¬ ((Value.ref c == Value.none) = true) from Bool.false_ne_true)]
  refine wpAny_bind (wpAny_fieldsOf ho hd ?_)
  rw [h11]
  refine wpAny_bind (wpAny_fieldsOf hop hpd ?_)
  rw [hf]
  exact wpAny_pure hQ
theorem pass_all (n : Nat) : passing (fun _ => true) n 0 = List.range n := by simp [passing]
theorem gexp_list {c : Addr} {vs : List Value} {n : Nat} {elt iter : PySem.Expr} {x : Str} {px : Pos} (f : Nat → Value → Prop)
    (F : Fr h₀ L s.heap m) (N : News h₀ L s.heap (pre ++ (57, tabObj ts) :: post)) (h1 : ∀ p ∈ pre, p.1 ≠ 57) (h2 : ∀ p ∈ post, p.1 ≠ 57) (X : (Mine.hp.heap_1 w.params).In h₀) (T : Top p loose mean mg mb h₀) (ht : TriplesR ts.toList) (G : AllBare s.gens)
    (hc : (c, listOf vs.toArray n) ∈ pre ++ (57, tabObj ts) :: post)
    (hh : A.handled = none) (hroom : A.depth < recursionLimit)
    (hit : ∀ (Q : Value → Shared → Prop), Q (.ref c) s → wpAny (model prog w) A (eval iter (envX cn cs L a (.ref 61) cl)) Q E s)
    (leaf : ∀ (C : Addr) (code : Value) (A' : Around) (E' : Value → Shared → Prop) (i : Nat) (v : Value) (t : Shared) (m₂ : Str → Option Value), A'.handled = none → vs[i]? = some v → t.heap.Ns C m₂ → m₂ x = some v →
      wpAny (model prog w) A' (eval elt (genEnv scope clos C code builtinsNs (envX cn cs L a (.ref 61) cl))) (fun y s₃ => f i y ∧ Keeps t s₃) E' t)
    (hQ : ∀ a' h' tk gs' ts' K, AllBare gs' → Fr h₀ L h' m → News h₀ L h' (pre ++ (57, tabObj ts') :: post) → TriplesR ts'.toList → L ≤ K → (∀ p ∈ pre ++ (57, tabObj ts') :: post, p.1 ≤ K) →
      Gen prog w A K a' vs.length f { s with heap := h', toks := tk, gens := gs' } → Q (.ref a') { s with heap := h', toks := tk, gens := gs' })
    (hco : scope.isCoroutine = false) (hclos : closureFor scope (envX cn cs L a (.ref 61) cl) = pure clos) (hcell : ∀ y ∈ scope.names, y.2 ≠ .cell) (h0 : scope.names.lookup (".0" : Str) = some NameKind.local)
    (hx : scope.names.lookup x = some .local) (hkind : scope.kind = .function)
    (hs : ∀ y, genFold iter (envX cn cs L a (.ref 61) cl) y = pure y) :
    wpAny (model prog w) A (eval (.GeneratorExp elt [⟨.Name x px, iter, [], 0⟩] scope pos) (envX cn cs L a (.ref 61) cl)) Q E s := by
  refine wpAny_GeneratorExp_walksQ hh hco hclos hcell h0 hx hkind hroom (hit _ ?_) hs
  have hmc := N _ hc
  have hl : s.heap.IsList c vs.toArray := ⟨_, hmc.1, rfl, n, rfl⟩
  have hm57 := N (57, tabObj ts) (List.mem_append_right _ (.head _))
  have h57lt : 57 < s.heap.objs.size := Heap.lt_size hm57.1
  have hclt : c < s.heap.objs.size := Heap.lt_size hmc.1
  have hc57 : c ≠ 57 := fun e => by
    have e1 := hmc.1
    rw [e, hm57.1] at e1
    have e2 := congrArg Obj.cls (Option.some.inj e1)
    exact absurd e2 (by simp)
  refine wpAny_pyIter_list hl ?_
  have hlim : s.heap.NoLimit := T.nolimit.keeps F.keep
  have hstat : cStatics < s.heap.objs.size := let ⟨_, hn, _⟩ := hlim; hn.lt
  have hst57 : cStatics ≠ 57 := fun e => by
    obtain ⟨_, hns, _⟩ := hlim
    obtain ⟨o, es, ep, ho, hd, _⟩ := hns
    rw [e, hm57.1] at ho; cases ho; cases hd
  refine ⟨hlim.push _, ?_⟩
  have C := code61 (w := w) X
  have F₂ : Fr h₀ L (s.heap.push { cls := .type "list_iterator", data := .fields #[.ref c, rawInt 0] }) m := F.push _
  have C₂ := C.keeps F₂.keep
  have hP₂ : (s.heap.push { cls := .type "list_iterator", data := .fields #[.ref c, rawInt 0] }).get? 57 = some (tabObj ts) := Heap.get?_push_of_some _ hm57.1
  have fin : ∀ (code : Value) (h₃ : Heap) (tk₃ : Nat) (ts' : Array Value), Heap.ExtBut 57 (s.heap.push { cls := .type "list_iterator", data := .fields #[.ref c, rawInt 0] }) h₃ → s.heap.objs.size + 1 ≤ h₃.objs.size → h₃.get? 57 = some (tabObj ts') → TriplesR ts'.toList →
      wpAny (model prog w) A (builtinsFor (envX cn cs L a (.ref 61) cl).globals (envX cn cs L a (.ref 61) cl).builtins) (fun bi s₄ =>
        ∃ I fp wr n₀ P St₀ pz F, Value.ref s.heap.objs.size = .ref I ∧ (∀ A' : Around, A'.handled = none → Walks prog w A' I fp wr n₀ P St₀) ∧ St₀ 0 s₄.heap ∧ (∀ b ∈ fp, b < s₄.heap.objs.size) ∧ s₄.heap.NoLimit ∧ cStatics ∉ wr ∧
          (∀ href : Heap, (∀ b o, s₄.heap.get? b = some o → href.get? b = some o) →
            QuietGen prog w (genEnv scope clos s₄.heap.objs.size code bi (envX cn cs L a (.ref 61) cl)) x [] elt (List.range s₄.heap.objs.size) wr P pz F href) ∧
          (∀ a h₅ tk gs, gs.bare = true → s₄.heap.objs.size < a → h₅.objs.size = a + 1 → (∀ b o, s₄.heap.get? b = some o → h₅.get? b = some o) →
            WalksS prog w A.in4 a (a :: s₄.heap.objs.size :: List.range s₄.heap.objs.size) (s₄.heap.objs.size :: wr) (GenOnlyQ s₄.gens.size) (passing pz n₀ 0).length
              (fun j y => ∃ i, (passing pz n₀ 0)[j]? = some i ∧ F i y) (GenAt prog w A.in4 a s₄.gens.size s₄.heap.objs.size (List.range s₄.heap.objs.size) wr pz n₀ F) →
            GenAt prog w A.in4 a s₄.gens.size s₄.heap.objs.size (List.range s₄.heap.objs.size) wr pz n₀ F 0 { s₄ with gens := s₄.gens.push gs, toks := tk, heap := h₅ } →
            Q (.ref a) { s₄ with gens := s₄.gens.push gs, toks := tk, heap := h₅ })) E { s with heap := h₃, toks := tk₃ } := by
    intro code h₃ tk₃ ts' hx₃ hge htab htr'
    have hno57 : ∀ b o, h₀.get? b = some o → b ≠ 57 := fun b o e q => by rw [q, hm57.2.2] at e; cases e
    have F₃ : Fr h₀ L h₃ m := ⟨F₂.ns.extBut hx₃ hm57.2.1.symm, fun b o e => hx₃ b o (hno57 b o e) (F₂.keep b o e), F.above⟩
    have N₃ : News h₀ L h₃ (pre ++ (57, tabObj ts') :: post) := by
      intro q hq
      rcases List.mem_append.mp hq with hq | hq
      · have n := N q (List.mem_append_left _ hq)
        exact ⟨hx₃ _ _ (h1 q hq) (Heap.get?_push_of_some _ n.1), n.2⟩
      · rcases List.mem_cons.mp hq with rfl | hq
        · exact ⟨htab, hm57.2⟩
        · have n := N q (List.mem_append_right _ (.tail _ hq))
          exact ⟨hx₃ _ _ (h2 q hq) (Heap.get?_push_of_some _ n.1), n.2⟩
    obtain ⟨bm, ob, b1, b2, b3, b4, b5, b6⟩ := T.bmain
    refine wpAny_builtinsFor (T.g.keeps F₃.keep) b1 b2 (F₃.keep _ _ b3) b4 b5 b6 ?_
    have W₀ : ∀ A' : Around, A'.handled = none → Walks prog w A' s.heap.objs.size [s.heap.objs.size, c] [s.heap.objs.size] vs.toArray.size (fun i v => vs.toArray[i]? = some v) _ := fun A' hA => Walks.list hA _ _ (Nat.ne_of_lt hclt) vs.toArray
    refine ⟨s.heap.objs.size, [s.heap.objs.size, c], [s.heap.objs.size], vs.toArray.size, _, _, fun _ => true, f, rfl, W₀, ?_, ?_, hlim.push _ |>.extBut hx₃ hst57, ?_, ?_, ?_⟩
    · refine (W₀ A hh).frame _ _ _ ⟨⟨_, Heap.get?_push_size _ rfl, rfl, rfl⟩, hl.push _⟩ fun b hb o e => hx₃ b o ?_ e
      rcases List.mem_cons.mp hb with rfl | hb
      · exact Nat.ne_of_gt h57lt
      · rw [List.mem_singleton.mp hb]; exact hc57
    · intro b hb
      show b < h₃.objs.size
      rcases List.mem_cons.mp hb with rfl | hb
      · exact hge
      · rw [List.mem_singleton.mp hb]; exact Nat.lt_of_lt_of_le (Nat.lt_succ_of_lt hclt) hge
    · intro hm
      rw [List.mem_singleton.mp hm] at hstat
      exact Nat.lt_irrefl _ hstat
    · intro href hhref
      refine ⟨fun A' E' i v s₂ m₂ hA hP hn hm _ => wpAny_pure ⟨rfl, ⟨_, _, rfl, fun _ _ e => e⟩⟩, fun A' E' i v s₂ m₂ hA hP _ hn hm _ => ?_⟩
      exact leaf _ code A' E' i v s₂ m₂ hA (by simpa using hP) hn hm
    · intro a' h₅ tk gs hgb hag hsz₅ hk₅ W hat
      have hK : s.heap.objs.size - 1 < s.heap.objs.size := by lia
      refine hQ a' h₅ tk _ ts' (s.heap.objs.size - 1) (G.push hgb) (F₃.keeps hk₅) (fun q hq => ⟨hk₅ _ _ (N₃ q hq).1, (N₃ q hq).2⟩) htr' (Nat.le_sub_one_of_lt F.ns.lt) ?_ ?_
      · intro q hq
        have : q.1 < s.heap.objs.size := by
          rcases List.mem_append.mp hq with hq | hq
          · exact Heap.lt_size (N q (List.mem_append_left _ hq)).1
          · rcases List.mem_cons.mp hq with rfl | hq
            · exact h57lt
            · exact Heap.lt_size (N q (List.mem_append_right _ (.tail _ hq))).1
        exact Nat.le_sub_one_of_lt this
      · have X₀ : Gen prog w A (s.heap.objs.size - 1) a' (passing (fun _ => true) vs.toArray.size 0).length (fun j y => ∃ i, (passing (fun _ => true) vs.toArray.size 0)[j]? = some i ∧ f i y) { s with heap := h₅, toks := tk, gens := s.gens.push gs } := by
          refine ⟨_, _, _, _, W, hat, (fun i s' st => st.1.typeIs), List.mem_cons_self, ?_, ?_⟩
          · intro b hb
            show b < h₅.objs.size
            rw [hsz₅]
            rcases List.mem_cons.mp hb with rfl | hb
            · exact Nat.lt_succ_self _
            · rcases List.mem_cons.mp hb with rfl | hb
              · exact Nat.lt_succ_of_lt hag
              · exact Nat.lt_succ_of_lt (Nat.lt_trans (List.mem_range.mp hb) hag)
          · intro b hb
            rcases List.mem_cons.mp hb with rfl | hb
            · show s.heap.objs.size - 1 < h₃.objs.size; lia
            · rw [List.mem_singleton.mp hb]; exact hK
        rw [pass_all, List.length_range, List.size_toArray] at X₀
        refine X₀.imp fun j y hy => ?_
        obtain ⟨i, hi, hf⟩ := hy
        have : j = i := by
          obtain ⟨hj, e⟩ := List.getElem?_eq_some_iff.mp hi
          rw [← e, List.getElem_range]
        rw [this]; exact hf
  cases hq : codeAmong pos ts.toList with
  | some cv => exact gcode_hit (c := 61) (P := 57) rfl (C₂.code hP₂ ht.ok) hq (fin _ _ _ ts (Heap.ExtBut.refl _ _) (by rw [Heap.size_push]; exact Nat.le_refl _) hP₂ ht)
  | none =>
    refine wpAny_genexprCodeX (c := 61) (P := 57) rfl (C₂.code hP₂ ht.ok) (C₂.tab hP₂) hq fun c' h₃ tk₃ hx₃ hge hlt hcode₃ _ htab₃ _ => ?_
    refine fin _ _ _ _ hx₃ (Nat.le_trans (by rw [Heap.size_push] at hge; exact hge) (Nat.le_of_lt hlt)) htab₃.2 ?_
    rw [Array.toList_append]; exact TriplesR.snoc (pos := pos) (c := c') ht
theorem gjoin {K a' : Addr} {n : Nat} {f : Nat → Value → Prop} {led : List (Addr × Obj)} {sep : List Nat} {t : Tok} (tx : List (List Nat)) (F : Fr h₀ L s.heap m) (N : News h₀ L s.heap led) (G : AllBare s.gens) (X : Gen prog w A K a' n f s) (hLK : L ≤ K) (hled : ∀ p ∈ led, p.1 ≤ K)
    (hn : tx.length = n) (hf : ∀ j v, f j v → ∃ x t, tx[j]? = some x ∧ v = .str (S x) t) (hsz : tx.flatten.length + tx.length * sep.length ≤ 16777216)
    (hQ : ∀ t' h' tk' gs', AllBare gs' → Fr h₀ L h' m → News h₀ L h' led → Q (.str (S (joinT sep tx)) t') { s with heap := h', toks := tk', gens := gs' }) (hln : n ≤ 16777216) :
    wpAny (model prog w) A (call (.builtin "str.join") [.str (S sep) t, .ref a']) Q E s := by
  obtain ⟨fp, wr, g, St, W, hst, hT, ha, hfp, hwr⟩ := X
  have W := W.in4_2
  refine SC.joinGen W hT hst hfp ha (fun j v hv => by obtain ⟨x, t, _, e⟩ := hf j v hv; exact ⟨_, _, e⟩) (fun s' lt hm hacc => ?_) (by rw [sizeLine_eq]; exact hln)
  have hl : lt.map (·.1) = tx.map S := by
    apply List.ext_getElem?
    intro j
    have hsz : lt.length = n := by simpa [strValues] using hacc.1
    by_cases hj : j < n
    · have hj' : j < lt.length := hsz ▸ hj
      obtain ⟨x, u, hx, hv⟩ := hf j _ (hacc.2 j (.str lt[j].1 lt[j].2) (by simp [strValues, List.getElem?_eq_getElem hj']))
      injection hv with h1 _
      simp [List.getElem?_eq_getElem hj', h1, hx]
    · have h1 : lt.length ≤ j := by lia
      have h2 : tx.length ≤ j := by lia
      rw [List.getElem?_eq_none (by simpa using h1), List.getElem?_eq_none (by simpa using h2)]
  rw [hl]
  have key : ∀ b, b ≤ K → ∀ o, s.heap.get? b = some o → s'.heap.get? b = some o := fun b hb o e => hm.heap b o (fun q => Nat.lt_irrefl _ (Nat.lt_of_lt_of_le (hwr b q) hb)) e
  refine ⟨?_, fun t' k => ?_⟩
  · refine joinOk_of ?_
    rw [sum_S, List.length_map, S_len]; exact hsz
  · have e : s' = { s with heap := s'.heap, toks := s'.toks, gens := s'.gens } := by
      have h1 := hm.drawn
      have h2 := hm.os
      cases s'; cases s
      simp only at h1 h2 ⊢
      rw [h1, h2]
    have q := hQ t' s'.heap k s'.gens (hm.gens.bare G) ?_ (fun p hp => ⟨key _ (hled p hp) _ (N p hp).1, (N p hp).2⟩)
    · rw [e]
      rw [show Txt.join (S sep) (tx.map S) = S (joinT sep tx) from by rw [← joinT_S]; exact eq_of_beq (join_plain_closes (S sep) (tx.map S))]
      exact q
    · obtain ⟨oL, es, ep, hL, r⟩ := F.ns
      exact ⟨⟨oL, es, ep, key L hLK _ hL, r⟩, fun b o e => key b (Nat.le_trans (Nat.le_of_lt (Nat.lt_of_lt_of_le (Heap.lt_size e) F.above)) hLK) o (F.keep b o e), F.above⟩
end
end
section
open PySem PySem.W PyProof.Rows PySem.Calls
set_option maxRecDepth 100000
set_option maxHeartbeats 4000000
inductive TxAre : List Value → List (List Nat) → Prop
  | nil : TxAre [] []
  | cons {x : List Nat} {t : Tok} {vs : List Value} {ts : List (List Nat)} : TxAre vs ts → TxAre (.str (S x) t :: vs) (x :: ts)
theorem TxAre.len {vs : List Value} {ts : List (List Nat)} (h : TxAre vs ts) : vs.length = ts.length := by
  induction h with
  | nil => rfl
  | cons _ ih => exact congrArg (· + 1) ih
theorem TxAre.app {vs vs' : List Value} {ts ts' : List (List Nat)} (h : TxAre vs ts) (h' : TxAre vs' ts') : TxAre (vs ++ vs') (ts ++ ts') := by
  induction h with
  | nil => exact h'
  | cons _ ih => exact .cons ih
theorem TxAre.cons_inv {vs : List Value} {x : List Nat} {ts : List (List Nat)} (h : TxAre vs (x :: ts)) : ∃ t vs', vs = .str (S x) t :: vs' ∧ TxAre vs' ts := by
  cases h with
  | cons h => exact ⟨_, _, rfl, h⟩
theorem TxAre.split {ts ts' : List (List Nat)} : ∀ {vs : List Value}, TxAre vs (ts ++ ts') → ∃ v1 v2, vs = v1 ++ v2 ∧ TxAre v1 ts ∧ TxAre v2 ts' := by
  induction ts with
  | nil => intro vs h; exact ⟨[], vs, rfl, .nil, h⟩
  | cons x ts ih =>
    intro vs h
    obtain ⟨t, vs', rfl, h'⟩ := TxAre.cons_inv h
    obtain ⟨v1, v2, rfl, h1, h2⟩ := ih h'
    exact ⟨.str (S x) t :: v1, v2, rfl, .cons h1, h2⟩
theorem TxAre.snoc {vs : List Value} {ts : List (List Nat)} {x : List Nat} {t : Tok} (h : TxAre vs ts) : TxAre (vs ++ [.str (S x) t]) (ts ++ [x]) := h.app (.cons .nil)
theorem TxAre.get {vs : List Value} {ts : List (List Nat)} (q : TxAre vs ts) : ∀ {i : Nat} {v : Value}, vs[i]? = some v → ∃ x t, ts[i]? = some x ∧ v = .str (S x) t := by
  induction q with
  | nil => intro i v h; cases h
  | @cons x t vs ts _ ih =>
    intro i v h
    cases i with
    | zero => exact ⟨x, t, rfl, (Option.some.inj h).symm⟩
    | succ i =>
      obtain ⟨x, t, h1, h2⟩ := ih (i := i) (v := v) h
      exact ⟨x, t, h1, h2⟩
/-- the search's state -/
inductive CSt (x post : List Nat) (all : List (List Nat)) (je i k : Int) (cs : List (List Nat)) (n : Nat) : Prop
  | mk (P cur : List Nat) (ms : List (List Nat)) (h1 : n = ms.length) (h2 : x = P ++ (cur ++ ms.flatten) ++ ([93] ++ post)) (h3 : 45 ∉ cur) (h4 : (∀ m ∈ ms, m ∈ mtab)) (h5 : all = cs ++ chunksFrom cur ms) (h6 : i = (P.length : Int)) (h7 : k = (P.length : Int) + (cur.length : Int) + 1) (h8 : je = (P.length : Int) + ((cur ++ ms.flatten).length : Int)) (h9 : cur ++ ms.flatten ≠ []) : CSt x post all je i k cs n
theorem cst_step {x post : List Nat} {all : List (List Nat)} {je i k : Int} {cs : List (List Nat)} {n : Nat} (hl : x.length ≤ 1000) (h : CSt x post all je i k cs n) :
    (Seek x 45 k je (-1) ∧ ∃ last, last ≠ [] ∧ last.length ≤ 100000 ∧ Cut x i je last ∧ all = cs ++ [last]) ∨
    (∃ (r : Int) (ch : List Nat) (n' : Nat), Seek x 45 k je r ∧ ¬ r < 0 ∧ Cut x i r ch ∧ n' < n ∧ CSt x post all je (r + 1) (r + 3) (cs ++ [ch]) n') := by
  obtain ⟨P, cur, ms, rfl, hx, hc, hm, ha, rfl, rfl, rfl, hne⟩ := h
  have hxl : x.length = P.length + (cur.length + ms.flatten.length) + (1 + post.length) := by rw [hx]; simp only [List.length_append, List.length_singleton]
  rcases chunk_step ms hm cur with ⟨h1, h2⟩ | ⟨sg, a, b, ms2, h1, h2, h3, h4, h5, h6, h7⟩
  · refine .inl ⟨⟨by lia, by lia, by simp only [List.length_append]; push_cast; lia, .inl ⟨rfl, fun q hq1 hq2 hq3 => ?_⟩⟩, cur ++ ms.flatten, hne, by simp only [List.length_append]; lia, ?_, by rw [ha, h2]⟩
    · simp only [List.length_append] at hq2
      push_cast at hq2
      have e : x = (P ++ cur) ++ ms.flatten ++ ([93] ++ post) := by rw [hx]; simp only [List.append_assoc]
      have hq4 : (P ++ cur).length ≤ q := by rw [List.length_append]; lia
      rw [e, List.append_assoc, List.getElem?_append_right hq4] at hq3
      have hq5 : q - (P ++ cur).length < ms.flatten.length := by rw [List.length_append]; lia
      rw [List.getElem?_append_left hq5] at hq3
      exact h1 (List.mem_of_getElem? hq3)
    · exact cut_of hx hl rfl rfl
  · have hfl : ms.flatten.length = sg.length + 3 + ms2.flatten.length := by rw [h4]; simp only [List.length_append, List.length_cons, List.length_nil]
    have e : x = (P ++ cur ++ sg ++ [a]) ++ [45] ++ ([b] ++ ms2.flatten ++ ([93] ++ post)) := by rw [hx, h4]; simp
    have hat : x[P.length + cur.length + sg.length + 1]? = some 45 := by
      rw [e, List.append_assoc, List.getElem?_append_right (by simp only [List.length_append, List.length_singleton]; lia)]
      have : P.length + cur.length + sg.length + 1 - (P ++ cur ++ sg ++ [a]).length = 0 := by simp only [List.length_append, List.length_singleton]; lia
      rw [this]; rfl
    refine .inr ⟨((P.length + cur.length + sg.length + 1 : Nat) : Int), cur ++ sg ++ [a], ms2.length, ⟨by lia, by lia, by simp only [List.length_append]; push_cast; lia, .inr ⟨_, rfl, by push_cast; lia, by simp only [List.length_append]; push_cast; lia, hat, fun q hq1 hq2 hq3 => ?_⟩⟩, by lia, ?_, h6, ?_⟩
    · have e2 : x = (P ++ cur) ++ (sg ++ [a]) ++ ([45] ++ ([b] ++ ms2.flatten ++ ([93] ++ post))) := by rw [hx, h4]; simp
      have hq4 : (P ++ cur).length ≤ q := by rw [List.length_append]; lia
      rw [e2, List.append_assoc, List.getElem?_append_right hq4] at hq3
      have hq5 : q - (P ++ cur).length < (sg ++ [a]).length := by simp only [List.length_append, List.length_singleton]; lia
      rw [List.getElem?_append_left hq5] at hq3
      rcases List.mem_append.mp (List.mem_of_getElem? hq3) with q | q
      · exact h1 q
      · exact h2 (List.mem_singleton.mp q).symm
    · exact cut_of (pre := P) (post := [45] ++ ([b] ++ ms2.flatten ++ ([93] ++ post))) (by rw [e]; simp) hl rfl (by simp only [List.length_append, List.length_singleton]; push_cast; lia)
    · refine ⟨P ++ cur ++ sg ++ [a, 45], [b], ms2, rfl, by rw [e]; simp, fun q => h3 (List.mem_singleton.mp q).symm, h7, by rw [ha, h5]; simp, ?_, ?_, ?_, by simp⟩
      · simp only [List.length_append, List.length_cons, List.length_nil]; push_cast; lia
      · simp only [List.length_append, List.length_cons, List.length_nil]; push_cast; lia
      · simp only [List.length_append, List.length_cons, List.length_nil]; push_cast; lia
/-- the melting's state -/
inductive MSt (CH : List (List Nat)) (i : Nat) (vs : List Value) : Prop
  | mk (front back : _) (h1 : CH = front ++ back) (h2 : back ≠ []) (h3 : front.length + i + 1 = CH.length) (h4 : TxAre vs (front ++ mergeAll back)) : MSt CH i vs
noncomputable def LAt (vs : List Value) (i : Int) (v : Value) : Prop := 0 ≤ i ∧ i < 2 ^ 63 ∧ vs[i.toNat]? = some v
noncomputable def Good (CH : List (List Nat)) : Prop := CH.length ≤ 2000 ∧ CH.flatten.length ≤ 2000 ∧ ∀ (front : List (List Nat)) (c : List Nat) (back : List (List Nat)), CH = front ++ c :: back → back ≠ [] → (∃ x z, c = x ++ [z]) ∧ ∃ e y ds, mergeAll back = (e :: y) :: ds
theorem cst_len {x post : List Nat} {all : List (List Nat)} {je i k : Int} {cs : List (List Nat)} {n : Nat} {vs : List Value} (hg : Good all) (h : CSt x post all je i k cs n) (hT : TxAre vs cs) : vs.length ≤ 100000 := by
  obtain ⟨P, cur, ms, _, _, _, _, ha, _⟩ := h
  have q := hg.1
  rw [ha, List.length_append, ← hT.len] at q
  lia
theorem mst_init {CH : List (List Nat)} {vs : List Value} {cs : List (List Nat)} {last : List Nat} (e : CH = cs ++ [last]) (h : TxAre vs CH) : MSt CH 0 vs :=
  ⟨cs, [last], e, by simp, by rw [e]; simp, by rw [e] at h; exact h⟩
theorem mst_fin {CH : List (List Nat)} {i : Nat} {vs : List Value} (hi : i + 1 = CH.length) (h : MSt CH i vs) : TxAre vs (mergeAll CH) := by
  obtain ⟨front, back, h1, h2, h3, h4⟩ := h
  have : front = [] := List.eq_nil_of_length_eq_zero (by lia)
  subst this
  rw [h1]; exact h4
theorem merge_count : ∀ l : List (List Nat), (mergeAll l).length ≤ l.length := by
  intro l
  induction l with
  | nil => simp [mergeAll_e1]
  | cons a r ih =>
    rcases hq : mergeAll r with _ | ⟨d, ds⟩
    · have e1 : mergeAll (a :: r) = [a] := by
        show (match mergeAll r with | [] => [a] | d :: ds => if gtLast a d then (a.dropLast ++ d.tail) :: ds else a :: d :: ds) = _
        rw [hq]
      rw [e1]; simp
    · rw [merge_cons hq]
      rw [hq] at ih
      split
      · simp only [List.length_cons] at ih ⊢; lia
      · simp only [List.length_cons] at ih ⊢; lia
theorem mst_step {CH : List (List Nat)} {i : Nat} {vs : List Value} {kk : Int} (hg : Good CH) (h : MSt CH i vs) (hi : i + 1 < CH.length) (hk : kk = (CH.length : Int) - 1 - (i : Int)) :
    ∃ pre x z e y t1 t2 post, vs = pre ++ .str (S (x ++ [z])) t1 :: .str (S (e :: y)) t2 :: post ∧ kk = (pre.length : Int) + 1 ∧ x.length ≤ 2000 ∧ y.length ≤ 2000 ∧ pre.length ≤ 2000 ∧ pre.length + post.length ≤ 2000 ∧
      LAt vs (kk - 1) (.str (S (x ++ [z])) t1) ∧ LAt vs kk (.str (S (e :: y)) t2) ∧ At (e :: y) 0 e ∧
      (e < z → ∀ t3, MSt CH (i + 1) (pre ++ .str (S (x ++ y)) t3 :: post)) ∧ (¬ e < z → MSt CH (i + 1) vs) := by
  obtain ⟨front, back, h1, h2, h3, h4⟩ := h
  obtain ⟨g0, g1, g2⟩ := hg
  have hfne : front ≠ [] := by
    intro q
    rw [q, List.length_nil] at h3; lia
  obtain ⟨f, c, rfl⟩ : ∃ f c, front = f ++ [c] := ⟨front.dropLast, front.getLast hfne, (List.dropLast_concat_getLast hfne).symm⟩
  have hCH : CH = f ++ c :: back := by rw [h1]; simp
  obtain ⟨⟨x, z, rfl⟩, e, y, ds, hm⟩ := g2 f c back hCH h2
  have hml := merge_len back
  rw [hm] at h4 hml
  have hlen : f.length + 1 + back.length = CH.length := by rw [hCH]; simp; lia
  rw [List.append_assoc] at h4
  obtain ⟨pre, v2, hv, p1, p2⟩ := h4.split
  obtain ⟨t1, v3, rfl, p3⟩ := p2.cons_inv
  obtain ⟨t2, po, rfl, p4⟩ := TxAre.cons_inv p3
  have hpl := p1.len
  have hpo := p4.len
  rw [hCH] at g1
  simp only [List.flatten_append, List.flatten_cons, List.length_append, List.length_cons, List.length_nil] at g1 hml h3
  have hk' : kk = (pre.length : Int) + 1 := by lia
  refine ⟨pre, x, z, e, y, t1, t2, po, hv, hk', by lia, by lia, by lia, ?_, ⟨by lia, by lia, ?_⟩, ⟨by lia, by lia, ?_⟩, ⟨by lia, by lia, rfl⟩, fun he t3 => ?_, fun he => ?_⟩
  · have qq := merge_count back
    rw [hm, List.length_cons] at qq
    lia
  · rw [hv, List.getElem?_append_right (by lia), show (kk - 1).toNat - pre.length = 0 by lia]; rfl
  · rw [hv, List.getElem?_append_right (by lia), show kk.toNat - pre.length = 1 by lia]; rfl
  · refine ⟨f, (x ++ [z]) :: back, hCH, by simp, by lia, ?_⟩
    rw [merge_cons hm, gtLast_eq, decide_eq_true he, if_pos rfl, List.dropLast_concat]
    exact p1.app (.cons p4)
  · refine ⟨f, (x ++ [z]) :: back, hCH, by simp, by lia, ?_⟩
    rw [merge_cons hm, gtLast_eq, decide_eq_false he, hv]
    exact p1.app (.cons (.cons p4))
section
variable {prog : Program} {w : World} {A : Around} {E : Value → Shared → Prop} {s : Shared} {h₀ : Heap} {L D : Addr} {m : Str → Option Value} {led rest : List (Addr × Obj)} {vs : List Value} {n : Nat} {v : Value} {i : Int} {u t : Tok}
theorem lat_get {value slice : PySem.Expr} {Q : Value → Shared → Prop} (N : News h₀ L s.heap led) (hl : (D, listOf vs.toArray n) ∈ led) (hi : LAt vs i v) (h : Q v s)
    (hs : subscripted slice false (.ref D) (.int i u) = operate [.ref D, .int i u] (getItem (.ref D) (.int i u))) :
    wpAny (model prog w) A (subscriptTail value slice (.ref D) (.int i u)) Q E s := item_led N hl hi.1 hi.2.1 hi.2.2 h hs
theorem str_last {value slice : PySem.Expr} {x : List Nat} {c : Nat} {Q : Value → Shared → Prop} (hl : x.length ≤ 100000) (h : ∀ t' tk', Q (.str (S [c]) t') { s with toks := tk' })
    (hs : subscripted slice false (.str (S (x ++ [c])) t) (.int (-1) u) = operate [.str (S (x ++ [c])) t, .int (-1) u] (getItem (.str (S (x ++ [c])) t) (.int (-1) u))) :
    wpAny (model prog w) A (subscriptTail value slice (.str (S (x ++ [c])) t) (.int (-1) u)) Q E s := by
  refine tail_any (T := "str") (by exact rfl) PySem.F.slot_str_getitem.lookup (PyProof.Rows.getItem_str (c := c) (by decide) ?_ (h _ _)) hs
  have e : seqIndex? (-1) (S (x ++ [c])).length = some x.length := by
    have hl' : (S (x ++ [c])).length = x.length + 1 := by rw [S_len]; simp
    rw [hl']
    have h1 : ((-1 : Int) + ((x.length + 1 : Nat) : Int)) = (x.length : Int) := by lia
    unfold seqIndex?
    simp only [show ((-1 : Int) < 0) = True from by simp, if_true, h1]
    rw [if_pos (by rw [Bool.and_eq_true, decide_eq_true_eq, decide_eq_true_eq]; lia), Int.toNat_natCast]
  rw [e]
  show (S (x ++ [c])).cps[x.length]? = some c
  simp [S]
theorem gt_S {a b : List Nat} {Q : Value → Shared → Prop} (h : Q (.bool (decide (b < a))) s) : wpAny (model prog w) A (compareOp .Gt (.str (S a) t) (.str (S b) u)) Q E s := P.gt_str (by rw [S_toList, S_toList]; exact h)
theorem gt_T {a b : Nat} {Q : Value → Shared → Prop} (e : b < a) (h : Q (.bool true) s) : wpAny (model prog w) A (compareOp .Gt (.str (S [a]) t) (.str (S [b]) u)) Q E s :=
  gt_S (by rw [decide_eq_true (show [b] < [a] from List.cons_lt_cons_iff.mpr (.inl e))]; exact h)
theorem gt_F {a b : Nat} {Q : Value → Shared → Prop} (e : ¬ b < a) (h : Q (.bool false) s) : wpAny (model prog w) A (compareOp .Gt (.str (S [a]) t) (.str (S [b]) u)) Q E s :=
  gt_S (by rw [decide_eq_false (show ¬ [b] < [a] from fun q => (List.cons_lt_cons_iff.mp q).elim e fun r => List.not_lt_nil _ r.2)]; exact h)
theorem app_head {Q : Value → Shared → Prop} (F : Fr h₀ L s.heap m) (N : News h₀ L s.heap ((D, listOf vs.toArray n) :: rest)) (hap : Apart D rest) (hz : vs.length ≤ 100000)
    (h : ∀ h', Fr h₀ L h' m → News h₀ L h' ((D, listOf (vs ++ [v]).toArray (n + 1)) :: rest) → Q .none { s with heap := h' }) : wpAny (model prog w) A (call (.builtin "list.append") [.ref D, v]) Q E s :=
  append_head F N hap (fun h' F' N' => h h' F' (by rw [List.push_toArray] at N'; exact N')) (by rw [List.size_toArray, sizeLine_eq]; lia)
theorem set_head {pre post : List Value} {x : Value} {Q : Unit → Shared → Prop} (F : Fr h₀ L s.heap m) (N : News h₀ L s.heap ((D, listOf vs.toArray n) :: rest)) (hap : Apart D rest) (hv : vs = pre ++ x :: post) (hi : i = (pre.length : Int)) (hz : pre.length ≤ 100000)
    (h : ∀ h', Fr h₀ L h' m → News h₀ L h' ((D, listOf (pre ++ v :: post).toArray n) :: rest) → Q () { s with heap := h' }) : wpAny (model prog w) A (setItem (.ref D) (.int i u) v) Q E s := by
  subst hv hi
  have z := N _ (.head _)
  refine ki_setAt z.1 (by lia) (by lia) (by rw [List.size_toArray, List.length_append, List.length_cons]; push_cast; lia) (h _ (F.change (Heap.SameBut.update ..) z.2.1 z.2.2) (ki_turn (pre := []) _ N (fun _ q => nomatch q) hap ?_ ?_))
  · show (pre ++ x :: post).toArray.setIfInBounds (pre.length : Int).toNat v = _
    apply Array.toList_inj.mp
    simp
  · simp
theorem del_head {pre post : List Value} {x : Value} {Q : Unit → Shared → Prop} (F : Fr h₀ L s.heap m) (N : News h₀ L s.heap ((D, listOf vs.toArray n) :: rest)) (hap : Apart D rest) (hv : vs = pre ++ x :: post) (hi : i = (pre.length : Int)) (hz : vs.length ≤ 100000)
    (h : ∀ h', Fr h₀ L h' m → News h₀ L h' ((D, listOf (pre ++ post).toArray (n + 1)) :: rest) → Q () { s with heap := h' }) : wpAny (model prog w) A (delItem (.ref D) (.int i u)) Q E s := by
  subst hv hi
  have hl : (pre ++ x :: post).toArray.size = pre.length + (post.length + 1) := by simp
  rw [List.length_append, List.length_cons] at hz
  refine delItem_head (k := pre.length) F N hap ?_ ?_ (fun h' F' N' => h h' F' ?_) (by rw [hl, sizeLine_eq]; lia)
  · unfold Builtin.List.listFitsIndex; simp; lia
  · rw [hl]
    unfold seqIndex?
    simp only [show ((pre.length : Int) < 0) = False from by simp, if_false]
    rw [if_pos (by rw [Bool.and_eq_true, decide_eq_true_eq, decide_eq_true_eq]; push_cast; lia), Int.toNat_natCast]
  · have e : ((pre ++ x :: post).toArray.toList.eraseIdx pre.length) = pre ++ post := by
      rw [List.toList_toArray, List.eraseIdx_append_of_length_le (Nat.le_refl _)]; simp
    rw [e] at N'
    exact N'
theorem truthy_ne {x : List Nat} {Q : Bool → Shared → Prop} (hne : x ≠ []) (hl : x.length ≤ 100000) (h : ∀ tk, Q true { s with toks := tk }) : wpAny (model prog w) A (truthy (.str (S x) t)) Q E s := by
  cases x with
  | nil => exact absurd rfl hne
  | cons c r => exact truthy_cons hl h
theorem len_list {Q : Value → Shared → Prop} (N : News h₀ L s.heap led) (hl : (D, listOf vs.toArray n) ∈ led) (hz : vs.length ≤ 100000) (h : ∀ t' tk, Q (.int (vs.length : Nat) t') { s with toks := tk }) : wpAny (model prog w) A (call (.builtin "len") [.ref D]) Q E s :=
  PyProof.Rows.len_list (items := vs.toArray) ⟨_, (N _ hl).1, rfl, n, rfl⟩ (by rw [List.size_toArray]; lia) (by rw [List.size_toArray]; exact h _ _)
theorem set_two {pre post : List Value} {x y : Value} {Q : Unit → Shared → Prop} (F : Fr h₀ L s.heap m) (N : News h₀ L s.heap ((D, listOf (pre ++ x :: y :: post).toArray n) :: rest)) (hap : Apart D rest) (hi : i = (pre.length : Int) + 1) (hz : pre.length ≤ 2000)
    (h : ∀ h', Fr h₀ L h' m → News h₀ L h' ((D, listOf ((pre ++ [v]) ++ y :: post).toArray n) :: rest) → Q () { s with heap := h' }) : wpAny (model prog w) A (setItem (.ref D) (.int (i - 1) u) v) Q E s :=
  set_head F N hap rfl (by lia) (by lia) fun h' F' N' => h h' F' (by rw [List.append_assoc]; exact N')
theorem del_two {pre post : List Value} {x y : Value} {Q : Unit → Shared → Prop} (F : Fr h₀ L s.heap m) (N : News h₀ L s.heap ((D, listOf ((pre ++ [x]) ++ y :: post).toArray n) :: rest)) (hap : Apart D rest) (hi : i = (pre.length : Int) + 1) (hz : pre.length + post.length ≤ 2000)
    (h : ∀ h', Fr h₀ L h' m → News h₀ L h' ((D, listOf (pre ++ x :: post).toArray (n + 1)) :: rest) → Q () { s with heap := h' }) : wpAny (model prog w) A (delItem (.ref D) (.int i u)) Q E s :=
  del_head F N hap rfl (by rw [List.length_append, List.length_singleton]; lia) (by simp only [List.length_append, List.length_cons, List.length_nil]; lia) fun h' F' N' => h h' F' (by rw [List.append_assoc] at N'; exact N')
theorem apart_c {c b l : Addr} {o1 o2 o3 : Obj} {rest : List (Addr × Obj)} (h1 : b < c ∧ l < c ∧ 57 < c ∧ AllLt c rest) : Apart c ((b, o1) :: (l, o2) :: (57, o3) :: rest) := by
  intro p hp
  rcases List.mem_cons.mp hp with rfl | hp
  · exact Nat.ne_of_lt h1.1
  · rcases List.mem_cons.mp hp with rfl | hp
    · exact Nat.ne_of_lt h1.2.1
    · rcases List.mem_cons.mp hp with rfl | hp
      · exact Nat.ne_of_lt h1.2.2.1
      · exact Nat.ne_of_lt (allLt_mem h1.2.2.2 p hp)
end
example : True := by
  k_with "setItem ref int" =>
    ((k_here; refine' Mine.set_two ?m1942 ?m2942 ?m3942 ?m4942 ?m5942 ?_; (case m1942 => k_asm); (case m2942 => k_asm); (case m3942 => with_reducible assumption); (case m4942 => with_reducible assumption); (case m5942 => with_reducible assumption); intro _ _ _))
  trivial
example : True := by
  k_with "delItem ref int" =>
    ((k_here; refine' Mine.del_two ?m1943 ?m2943 ?m3943 ?m4943 ?m5943 ?_; (case m1943 => k_asm); (case m2943 => k_asm); (case m3943 => with_reducible assumption); (case m4943 => with_reducible assumption); (case m5943 => with_reducible assumption); intro _ _ _))
  trivial
example : True := by
  k_with "call builtin:list.append" =>
    ((k_here; refine' Mine.app_head ?m1944 ?m2944 ?m3944 ?m4944 ?_; (case m1944 => k_asm); (case m2944 => k_asm); (case m3944 => with_reducible assumption); (case m4944 => with_reducible assumption); intro _ _ _))
  trivial
example : True := by
  k_with "call builtin:len" =>
    ((k_here; (with_reducible show wpAny _ _ (call (Value.builtin _) [Value.ref _]) _ _ _); refine' Mine.len_list ?m1945 ?m2945 ?m3945 ?_; (case m1945 => k_asm); (case m2945 => k_dflt k_mem); (case m3945 => with_reducible assumption); intro _ _))
  trivial
example : True := by
  k_with "compareOp Gt str str" =>
    ((refine' Mine.gt_F ?mgF946 ?_; (case mgF946 => with_reducible assumption)))
  trivial
example : True := by
  k_with "compareOp Gt str str" =>
    ((refine' Mine.gt_T ?mgT947 ?_; (case mgT947 => with_reducible assumption)))
  trivial
example : True := by
  k_with "subscriptTail" =>
    (((with_reducible show wpAny _ _ (subscriptTail _ _ (Value.ref _) (Value.int _ _)) _ _ _); refine' Mine.lat_get ?m1948 ?m2948 ?m3948 ?_ ?m4948; (case m1948 => k_asm); (case m2948 => k_dflt k_mem); (case m3948 => with_reducible assumption); (case m4948 => first | with_reducible exact Mine.sub_name | with_reducible exact Mine.sub_const | with_reducible exact Mine.sub_binop | with_reducible exact Mine.sub_unop | with_reducible exact Mine.sub_slice | with_unfolding_all rfl)))
  trivial
example : True := by
  k_with "subscriptTail Name BinOp ref int" =>
    (((with_reducible show wpAny _ _ (subscriptTail _ _ (Value.ref _) (Value.int _ _)) _ _ _); refine' Mine.lat_get ?m1949 ?m2949 ?m3949 ?_ ?m4949; (case m1949 => k_asm); (case m2949 => k_dflt k_mem); (case m3949 => with_reducible assumption); (case m4949 => first | with_reducible exact Mine.sub_name | with_reducible exact Mine.sub_const | with_reducible exact Mine.sub_binop | with_reducible exact Mine.sub_unop | with_reducible exact Mine.sub_slice | with_unfolding_all rfl)))
  trivial
example : True := by
  k_with "subscriptTail Name Name ref int" =>
    (((with_reducible show wpAny _ _ (subscriptTail _ _ (Value.ref _) (Value.int _ _)) _ _ _); refine' Mine.lat_get ?m1950 ?m2950 ?m3950 ?_ ?m4950; (case m1950 => k_asm); (case m2950 => k_dflt k_mem); (case m3950 => with_reducible assumption); (case m4950 => first | with_reducible exact Mine.sub_name | with_reducible exact Mine.sub_const | with_reducible exact Mine.sub_binop | with_reducible exact Mine.sub_unop | with_reducible exact Mine.sub_slice | with_unfolding_all rfl)))
  trivial
example : True := by
  k_with "subscriptTail Name Constant ref int" =>
    (((with_reducible show wpAny _ _ (subscriptTail _ _ (Value.ref _) (Value.int _ _)) _ _ _); refine' Mine.lat_get ?m1951 ?m2951 ?m3951 ?_ ?m4951; (case m1951 => k_asm); (case m2951 => k_dflt k_mem); (case m3951 => with_reducible assumption); (case m4951 => first | with_reducible exact Mine.sub_name | with_reducible exact Mine.sub_const | with_reducible exact Mine.sub_binop | with_reducible exact Mine.sub_unop | with_reducible exact Mine.sub_slice | with_unfolding_all rfl)))
  trivial
example : True := by
  k_with "subscriptTail" =>
    (((with_reducible show wpAny _ _ (subscriptTail _ _ (Value.str (S (_ ++ [_])) _) (Value.int (-1) _)) _ _ _); refine' Mine.str_last ?m1952 ?_ ?m4952; (case m1952 => with_reducible assumption); (case m4952 => first | with_reducible exact Mine.sub_name | with_reducible exact Mine.sub_const | with_reducible exact Mine.sub_binop | with_reducible exact Mine.sub_unop | with_reducible exact Mine.sub_slice | with_unfolding_all rfl); intro _ _))
  trivial
example : True := by
  k_with "subscriptTail Subscript UnaryOp str int" =>
    (((with_reducible show wpAny _ _ (subscriptTail _ _ (Value.str (S (_ ++ [_])) _) (Value.int (-1) _)) _ _ _); refine' Mine.str_last ?m1953 ?_ ?m4953; (case m1953 => with_reducible assumption); (case m4953 => first | with_reducible exact Mine.sub_name | with_reducible exact Mine.sub_const | with_reducible exact Mine.sub_binop | with_reducible exact Mine.sub_unop | with_reducible exact Mine.sub_slice | with_unfolding_all rfl); intro _ _))
  trivial
example : True := by
  k_with "subscriptTail Name UnaryOp str int" =>
    (((with_reducible show wpAny _ _ (subscriptTail _ _ (Value.str (S (_ ++ [_])) _) (Value.int (-1) _)) _ _ _); refine' Mine.str_last ?m1954 ?_ ?m4954; (case m1954 => with_reducible assumption); (case m4954 => first | with_reducible exact Mine.sub_name | with_reducible exact Mine.sub_const | with_reducible exact Mine.sub_binop | with_reducible exact Mine.sub_unop | with_reducible exact Mine.sub_slice | with_unfolding_all rfl); intro _ _))
  trivial
example : True := by
  k_with "truthy str" =>
    ((refine' Mine.truthy_ne ?m1955 ?m2955 ?_; (case m1955 => with_reducible assumption); (case m2955 => with_reducible assumption); intro _))
  trivial
inductive CI (its : List It) (st : Value) (t2 : Tok) (b l c : Addr) (je : Int) (post : List Nat) (CH : List (List Nat)) (led0 : List (Addr × Obj)) (n : Nat) (m : Str → Option Value) (led : List (Addr × Obj)) : Prop
  | mk (i k cs vs nn t1 tq tr tj tk : _) (h1 : CSt (patText its) post CH je i k cs n) (h2 : TxAre vs cs) (h3 : led = (c, listOf vs.toArray nn) :: led0) (h4 : Has m [("i", .int i t1), ("n", .int ((patText its).length : Nat) tq), ("res", .ref l), ("add", .ref b), ("pat", .str (S (patText its)) tr), ("STAR", st), ("QUESTION_MARK", .str (S [46]) t2), ("j", .int je tj), ("chunks", .ref c), ("k", .int k tk)]) : CI its st t2 b l c je post CH led0 n m led
inductive CX (its : List It) (st : Value) (t2 : Tok) (b l c : Addr) (je : Int) (CH : List (List Nat)) (led0 : List (Addr × Obj)) (m : Str → Option Value) (led : List (Addr × Obj)) : Prop
  | mk (i cs last vs nn t1 tq tr tj : _) (h1 : last ≠ []) (h2 : last.length ≤ 100000) (h3 : Cut (patText its) i je last) (h4 : CH = cs ++ [last]) (h5 : TxAre vs cs) (h6 : led = (c, listOf vs.toArray nn) :: led0) (h7 : Has m [("i", .int i t1), ("n", .int ((patText its).length : Nat) tq), ("res", .ref l), ("add", .ref b), ("pat", .str (S (patText its)) tr), ("STAR", st), ("QUESTION_MARK", .str (S [46]) t2), ("j", .int je tj), ("chunks", .ref c)]) : CX its st t2 b l c je CH led0 m led
inductive MX (its : List It) (st : Value) (t2 : Tok) (b l c : Addr) (je : Int) (P : List Value → Prop) (led0 : List (Addr × Obj)) (m : Str → Option Value) (led : List (Addr × Obj)) : Prop
  | mk (vs nn tq tr tj : _) (h1 : P vs) (h2 : led = (c, listOf vs.toArray nn) :: led0) (h3 : Has m [("n", .int ((patText its).length : Nat) tq), ("res", .ref l), ("add", .ref b), ("pat", .str (S (patText its)) tr), ("STAR", st), ("QUESTION_MARK", .str (S [46]) t2), ("j", .int je tj), ("chunks", .ref c)]) : MX its st t2 b l c je P led0 m led
theorem cst_first {its : List It} {neg : Bool} {ms : List (List Nat)} {P post : List Nat} {i0 je : Int} {c1 : Nat} {fr : List Nat} (hx : patText its = P ++ (nb neg ++ ms.flatten ++ [93]) ++ post) (hfl : ms.flatten = c1 :: fr) (hm : ∀ m ∈ ms, m ∈ mtab) (hi : i0 = (P.length : Int)) (hje : je = i0 + nl neg + ((c1 :: fr).length : Int)) :
    CSt (patText its) post (chunksFrom (nb neg) ms) je i0 (i0 + nl neg + 1) [] ms.length := by
  refine ⟨P, nb neg, ms, rfl, by rw [hx]; simp only [List.append_assoc], by cases neg <;> decide, hm, rfl, hi, by rw [hi, nb_len], by rw [hje, hi, ← nb_len, ← hfl, List.length_append]; push_cast; lia, by rw [hfl]; simp⟩
theorem good_of {neg : Bool} {ms : List (List Nat)} (hm : ∀ m ∈ ms, m ∈ mtab) (hl : ms.flatten.length ≤ 1000) : Good (chunksFrom (nb neg) ms) := by
  have h1 := chunk_len ms hm (nb neg)
  have h0 : (nb neg).length ≤ 1 := by cases neg <;> simp [nb_e1, nb_e2]
  refine ⟨?_, by lia, fun front c back h hb => merge_good ms hm _ front c back h hb⟩
  have : ∀ (ms : List (List Nat)), (∀ m ∈ ms, m ∈ mtab) → ∀ cur, (chunksFrom cur ms).length ≤ ms.flatten.length + 1 := by
    intro ms
    induction ms with
    | nil => intro _ cur; simp [chunksFrom_e1]
    | cons m ms ih =>
      intro hm cur
      have hm' : ∀ m ∈ ms, m ∈ mtab := fun m h => hm m (.tail _ h)
      rcases mcase (hm m (.head _)) with ⟨c', rfl, hc⟩ | ⟨x, y, rfl, hx, hy, hxy⟩
      · rw [chunks_one]
        have := ih hm' (cur ++ [c'])
        simp only [List.length_cons, List.length_nil, List.flatten_cons, List.length_append]; lia
      · rw [chunks_three]
        have := ih hm' [y]
        simp only [List.length_cons, List.length_nil, List.flatten_cons, List.length_append]; lia
  have := this ms hm (nb neg)
  lia
end
section
theorem LocW10f.hereW10f : True := trivial
open LocW10f
open PySem PySem.W PyProof.Rows PySem.Calls
set_option maxRecDepth 100000
set_option maxHeartbeats 4000000
noncomputable abbrev rngObj (a b c : Int) (t u v : Tok) : Obj := { cls := .type "range", dict := none, data := .fields #[.int a t, .int b u, .int c v], slots := #[] }
section
variable {prog : Program} {w : World} {A : Around} {E : Value → Shared → Prop} {s : Shared} {env : Env} {h₀ : Heap} {L : Addr} {m : Str → Option Value} {led : List (Addr × Obj)}
theorem down_call {a : Int} {t u v : Tok} {Q : Value → Shared → Prop} (F : Fr h₀ L s.heap m) (N : News h₀ L s.heap led) (ha : 0 ≤ a ∧ a ≤ 100000)
    (h : ∀ r h' tk t₁ u₁ v₁, Fr h₀ L h' m → News h₀ L h' ((r, rngObj a 0 (-1) t₁ u₁ v₁) :: led) → (∀ p ∈ led, p.1 < r) → Q (.ref r) { s with heap := h', toks := tk }) :
    wpAny (model prog w) A (call (.type "range") [.int a t, .int 0 u, .int (-1) v]) Q E s :=
  call_range_3 (by decide) (h _ _ _ _ _ _ (F.push _) (News.push F N _) fun p hp => Heap.lt_size (N p hp).1) (Or.inl (PyProof.noPylong_small (by lia)))
noncomputable abbrev itObj (x left step : Int) : Obj := { cls := .type "range_iterator", dict := none, data := .fields #[rawInt x, rawInt left, rawInt step], slots := #[] }
theorem letOwned_range {target : PySem.Expr} {it : Addr} {x left step : Int} {v : Value} {Q : Unit → Shared → Prop} (hit : IsRangeIter s.heap it x left step) (h : Q () s) : wpAny (model prog w) A (letOwnedTupleGo target (.ref it) v) Q E s := by
  unfold letOwnedTupleGo
  cases target
  all_goals first
    | exact wpAny_pure h
    | skip
  all_goals
    cases v with
    | ref a =>
      refine wpAny_bind (wpAny_load hit ?_)
      dsimp only
      rw [if_neg (by
        rw [Bool.and_eq_true]
        rintro ⟨h1, -⟩
        revert h1
        decide +kernel)]
      exact wpAny_pure h
    | _ => exact wpAny_pure h
inductive RReady (h₀ : Heap) (L : Addr) (s : Shared) (a₀ : Int) (J : (Str → Option Value) → List (Addr × Obj) → Prop) (v : Value) (s₁ : Shared) : Prop
  | mk (r t u v' h tk m led : _) (h1 : v = .ref r) (h2 : s₁ = { s with heap := h, toks := tk }) (h3 : Fr h₀ L h m) (h4 : News h₀ L h led) (h5 : IsRange h r a₀ 0 (-1) t u v') (h6 : J m led) : RReady h₀ L s a₀ J v s₁
inductive ForD (h₀ : Heap) (L : Addr) (s : Shared) (I : Addr) (a₀ : Int) (n : Nat) (J : Nat → (Str → Option Value) → List (Addr × Obj) → Prop) (k : Nat) (s' : Shared) : Prop
  | mk (i : Nat) (h' tk' m' led' : _) (h1 : k = n + 1 - i) (h2 : i ≤ n) (h3 : s' = { s with heap := h', toks := tk' }) (h4 : IsRangeIter h' I (a₀ - (i : Int)) ((n : Int) - (i : Int)) (-1)) (h5 : Fr h₀ L h' m') (h6 : News h₀ L h' led') (h7 : ∀ p ∈ led', p.1 ≠ I) (h8 : J i m' led') : ForD h₀ L s I a₀ n J k s'
theorem for_down {target iter : PySem.Expr} {body : List Stmt} {pos : Pos} {Q : Flow → Shared → Prop} {a₀ : Int} {n : Nat} (ha : a₀ = (n : Int)) (hn : n ≤ 100000) (hh : A.handled = none)
    (J : Nat → (Str → Option Value) → List (Addr × Obj) → Prop)
    (hs : ∀ x, foldedSetIterable iter env x = pure x)
    (ev : wpAny (model prog w) A (eval iter env) (RReady h₀ env.locals s a₀ (J 0)) E s)
    (turn : ∀ E' i t m led h tk I o, i < n → J i m led → Fr h₀ env.locals h m → News h₀ env.locals h ((I, o) :: led) → (∀ p ∈ led, p.1 ≠ I) →
      wpAny (model prog w) A (assign target env (.int (a₀ - (i : Int)) t)) (fun _ s₂ => wpAny (model prog w) A (execs body env) (TurnEnd h₀ env.locals s Q (J (i + 1)) [(I, o)]) E' s₂) E' { s with heap := h, toks := tk })
    (done : ∀ m led h tk, J n m led → Fr h₀ env.locals h m → News h₀ env.locals h led → Q .next { s with heap := h, toks := tk }) :
    wpAny (model prog w) A (exec (.For target iter body [] pos) env) Q E s := by
  refine wpAny_For (wpAny_mono ev (fun v s₁ h₁ => ?_) fun _ _ e => e) hs
  obtain ⟨r, t, u, v', h, tk, m, led, rfl, rfl, F, N, hr, hJ⟩ := h₁
  have hsz : Builtin.Range.rangeSize a₀ 0 (-1) = (n : Int) := by rw [rangeSize_downNat]; lia
  refine wpAny_pyIter_range hr (small_down (by lia) (by lia) (by lia) (by lia)) ?_
  rw [hsz]
  have hnew : h₀.get? h.objs.size = none := by
    cases q : h₀.get? h.objs.size with
    | none => rfl
    | some o' => exact absurd (Heap.lt_size (F.keep _ _ q)) (Nat.lt_irrefl _)
  have hIL : h.objs.size ≠ env.locals := Nat.ne_of_gt F.ns.lt
  generalize hI : h.objs.size = I at *
  refine codeAny_forLoop_any (fun k s' => ForD h₀ env.locals s I a₀ n J k s')
    ?_ (n + 1) ⟨0, h.push _, tk, m, led, rfl, Nat.zero_le _, rfl, by rw [← hI]; simpa using Heap.get?_push_size _ rfl, F.push _, fun p hp => ⟨Heap.get?_push_of_some _ (N p hp).1, (N p hp).2⟩, fun p hp e => ?_, hJ⟩
  · rintro k s' ⟨i, h', tk', m', led', rfl, hi, rfl, hit, F', N', hne, hJ'⟩
    rcases Nat.lt_or_ge i n with hlt | hge
    · refine wpAny_pyNext_range_item hit (by lia) fun h₂ hit₂ hsb => ?_
      have key : ∀ b, b ≠ I → h₂.get? b = h'.get? b := fun b hb => hsb.2 b hb
      have F₂ : Fr h₀ env.locals h₂ m' := by
        obtain ⟨oL, es, ep, hL, r⟩ := F'.ns
        exact ⟨⟨oL, es, ep, (key _ (Ne.symm hIL)).trans hL, r⟩, fun b o e => (key b (fun q => by rw [q, hnew] at e; cases e)).trans (F'.keep b o e), F'.above⟩
      refine letOwned_range hit₂ ?_
      have N₂ : News h₀ env.locals h₂ ((I, itObj (a₀ - (i : Int) + -1) ((n : Int) - (i : Int) - 1) (-1)) :: led') := by
        intro p hp
        rcases List.mem_cons.mp hp with rfl | hp
        · exact ⟨hit₂, hIL, hnew⟩
        · exact ⟨(key _ (hne p hp)).trans (N' p hp).1, (N' p hp).2⟩
      refine wpAny_mono (turn (notedBy (model prog w) A env fun e s' => _) i _ m' led' h₂ _ I (itObj (a₀ - (i : Int) + -1) ((n : Int) - (i : Int) - 1) (-1)) hlt hJ' F₂ N₂ hne) (fun _ s₂ h₂ => wpAny_mono h₂ (fun f s₃ h₃ => ?_) fun _ _ e => e) fun _ _ e => e
      have fin : TurnNx h₀ env.locals s (J (i + 1)) [(I, itObj (a₀ - (i : Int) + -1) ((n : Int) - (i : Int) - 1) (-1))] s₃ →
          ∃ k', k' < n + 1 - i ∧ ForD h₀ env.locals s I a₀ n J k' s₃ := by
        rintro ⟨h₄, tk₄, m₄, led₄, rfl, F₄, N₄, ne₄, J₄⟩
        refine ⟨n + 1 - (i + 1), by lia, i + 1, h₄, tk₄, m₄, led₄, rfl, hlt, rfl, ?_, F₄, fun p hp => N₄ p (.tail _ hp), fun p hp => ne₄ _ (.head _) p hp, J₄⟩
        have := (N₄ (I, itObj (a₀ - (i : Int) + -1) ((n : Int) - (i : Int) - 1) (-1)) (.head _)).1
        show h₄.get? I = _
        rw [this]
        rw [show a₀ - (i : Int) + -1 = a₀ - ((i + 1 : Nat) : Int) by lia, show (n : Int) - (i : Int) - 1 = (n : Int) - ((i + 1 : Nat) : Int) by lia]
      cases f with
      | ret v => exact h₃
      | brk => exact h₃
      | next => exact fin h₃
      | cont => exact fin h₃
    · have hin : i = n := Nat.le_antisymm hi hge
      subst hin
      refine wpAny_pyNext_range_end hh hit (by lia) fun h₂ hk => wpAny_execs_nil ?_
      have key : ∀ b, b ≠ I → ∀ o, h'.get? b = some o → h₂.get? b = some o := fun b hb o e => hk b o hb e
      obtain ⟨oL, es, ep, hL, r⟩ := F'.ns
      exact done m' led' h₂ tk' hJ' ⟨⟨oL, es, ep, key _ (Ne.symm hIL) _ hL, r⟩, fun b o e => key b (fun q => by rw [q, hnew] at e; cases e) o (F'.keep b o e), F'.above⟩
        fun p hp => ⟨key _ (hne p hp) _ (N' p hp).1, (N' p hp).2⟩
  · have := Heap.lt_size (N p hp).1
    rw [e, hI] at this
    exact Nat.lt_irrefl _ this
theorem mst_ends {CH : List (List Nat)} (hg : Good CH) {cs : List (List Nat)} {last : List Nat} {vs : List Value} (e : CH = cs ++ [last]) (h : TxAre vs CH) : vs.length ≤ 100000 ∧ (0 ≤ (vs.length : Int) - 1 ∧ (vs.length : Int) - 1 ≤ 100000) ∧ (vs.length : Int) - 1 = ((CH.length - 1 : Nat) : Int) ∧ CH.length - 1 ≤ 100000 ∧ CH.length - 1 + 1 = CH.length := by
  have h1 := hg.1
  have h2 := h.len
  have h3 : CH.length = cs.length + 1 := by rw [e]; simp
  have h4 : vs.length = cs.length + 1 := by lia
  have h5 : cs.length ≤ 1999 := by lia
  have h6 : ((cs.length + 1 : Nat) : Int) - 1 = (cs.length : Int) := by lia
  rw [h3, h4, Nat.add_sub_cancel, h6]
  clear h1 h2 h3 h4 h6
  exact ⟨by lia, ⟨Int.natCast_nonneg _, by lia⟩, rfl, by lia, rfl⟩
theorem turn_own {c I : Addr} {o x x' : Obj} {led0 : List (Addr × Obj)} (h : ∀ p ∈ (c, x) :: led0, p.1 ≠ I) : ∀ q ∈ [(I, o)], ∀ p ∈ (c, x') :: led0, p.1 ≠ q.1 := by
  intro q hq p hp
  rw [List.mem_singleton.mp hq]
  rcases List.mem_cons.mp hp with rfl | hp
  · exact h (c, x) (.head _)
  · exact h p (.tail _ hp)
theorem news_gen {h₀ h : Heap} {L c : Addr} {vs : List Value} {ts : List (List Nat)} {x : List Nat} {t : Tok} {n : Nat} {r : List (Addr × Obj)} (N : News h₀ L h ((c, listOf (vs ++ [Value.str (S x) t]).toArray n) :: r)) (hT : TxAre vs ts) :
    ∃ vA nA, TxAre vA (ts ++ [x]) ∧ News h₀ L h ((c, listOf vA.toArray nA) :: r) := ⟨_, _, hT.snoc, N⟩
theorem turn_in {h₀ h : Heap} {L c I : Addr} {o x : Obj} {led0 : List (Addr × Obj)} (N : News h₀ L h ((I, o) :: (c, x) :: led0)) : News h₀ L h ((c, x) :: (I, o) :: led0) := fun p hp => by
  rcases List.mem_cons.mp hp with rfl | hp
  · exact N _ (.tail _ (.head _))
  · rcases List.mem_cons.mp hp with rfl | hp
    · exact N _ (.head _)
    · exact N p (.tail _ (.tail _ hp))
theorem turn_fin {g h' : Heap} {L c I : Addr} {s : Shared} {tk' : Nat} {m' : Str → Option Value} {vs : List Value} {nn : Nat} {x oI : Obj} {led0 : List (Addr × Obj)} {J : (Str → Option Value) → List (Addr × Obj) → Prop} (hne : ∀ p ∈ (c, x) :: led0, p.1 ≠ I) (F : Fr g L h' m')
    (N : News g L h' ((c, listOf vs.toArray nn) :: (I, oI) :: led0)) (hJ : J m' ((c, listOf vs.toArray nn) :: led0)) :
    TurnNx g L s J [(I, oI)] { s with heap := h', toks := tk' } :=
  ⟨h', tk', m', _, rfl, F, turn_in N, turn_own hne, hJ⟩
theorem turn_ap {c I : Addr} {o x : Obj} {led0 : List (Addr × Obj)} (hne : ∀ p ∈ (c, x) :: led0, p.1 ≠ I) (h : Apart c led0) : Apart c ((I, o) :: led0) := by
  intro p hp
  rcases List.mem_cons.mp hp with rfl | hp
  · exact (hne (c, x) (.head _)).symm
  · exact h p hp
theorem rready {h₀ h : Heap} {L r : Addr} {s : Shared} {a₀ : Int} {J : (Str → Option Value) → List (Addr × Obj) → Prop} {m : Str → Option Value} {t u v : Tok} {tk : Nat} {led : List (Addr × Obj)}
    (F : Fr h₀ L h m) (N : News h₀ L h ((r, rngObj a₀ 0 (-1) t u v) :: led)) (hJ : J m led) : RReady h₀ L s a₀ J (.ref r) { s with heap := h, toks := tk } :=
  ⟨r, t, u, v, h, tk, m, led, rfl, rfl, F, fun p hp => N p (.tail _ hp), (N _ (.head _)).1, hJ⟩
theorem sz_facts {x y : List Nat} (h1 : x.length ≤ 2000) (h2 : y.length ≤ 2000) : x.length < 16777215 ∧ y.length < 16777215 ∧ x.length ≤ 100000 ∧ x.length + y.length ≤ 16777216 := by lia
theorem it_facts {CH : List (List Nat)} {vA : List Value} {it : Nat} {kk : Int} (e3 : (vA.length : Int) - 1 = ((CH.length - 1 : Nat) : Int)) (e5 : CH.length - 1 + 1 = CH.length) (hit : it < CH.length - 1) (hkk : kk = (vA.length : Int) - 1 - (it : Int)) : it + 1 < CH.length ∧ kk = (CH.length : Int) - 1 - (it : Int) := by lia
end
example : True := by
  k_with "subscriptTail Subscript Slice str ref" =>
    (((with_reducible show wpAny _ _ (subscriptTail _ (Expr.Slice (some _) none none _) (Value.str _ _) _) _ _ _); (refine' Mine.slice_tl (s := ⟨_, _, _, _, _⟩) ?mslc956 ?mslF956 ?mslN956 ?_ ?msls956 ?mslt956); (case mslc956 => with_reducible assumption); (case mslF956 => with_reducible assumption); (case mslN956 => with_reducible assumption); (case msls956 => first | with_reducible exact Mine.sub_name | with_reducible exact Mine.sub_const | with_reducible exact Mine.sub_binop | with_reducible exact Mine.sub_unop | with_reducible exact Mine.sub_slice | with_unfolding_all rfl); (case mslt956 => intro _; with_reducible exact Mine.ltg_str); intro _ _ _ _ _))
  trivial
example : True := by
  k_with "subscriptTail Subscript Slice str ref" =>
    (((with_reducible show wpAny _ _ (subscriptTail _ (Expr.Slice none (some _) none _) (Value.str _ _) _) _ _ _); (refine' Mine.slice_init (s := ⟨_, _, _, _, _⟩) ?mslc957 ?mslF957 ?mslN957 ?_ ?msls957 ?mslt957); (case mslc957 => with_reducible assumption); (case mslF957 => with_reducible assumption); (case mslN957 => with_reducible assumption); (case msls957 => first | with_reducible exact Mine.sub_name | with_reducible exact Mine.sub_const | with_reducible exact Mine.sub_binop | with_reducible exact Mine.sub_unop | with_reducible exact Mine.sub_slice | with_unfolding_all rfl); (case mslt957 => intro _; with_reducible exact Mine.ltg_str); intro _ _ _ _ _))
  trivial
example : True := by
  k_with "call type:range" =>
    ((k_here; (with_reducible show wpAny _ _ (call _ [Value.int _ _, Value.int 0 _, Value.int (-1) _]) _ _ _); refine' Mine.down_call ?m1958 ?m2958 ?m3958 ?_; (case m1958 => k_asm); (case m2958 => k_asm); (case m3958 => with_reducible assumption); intro _ _ _ _ _ _ _ _ _))
  trivial
section
variable {prog : Program} {w : World} {A : Around} {E : Value → Shared → Prop} {s : Shared} {env : Env}
theorem ld_ns {x : Str} {pos : Pos} {v : Value} {m₂ : Str → Option Value} {Q : Value → Shared → Prop} (hN : s.heap.Ns env.locals m₂) (hv : m₂ x = some v) (h : Q v s) (hk : env.scope.kind = .function) (hl : env.kindOf x = some .local) (hd : (x == ("__debug__" : Str)) = false) :
    wpAny (model prog w) A (eval (.Name x pos) env) Q E s := wpAny_Name (wpAny_loadName_local hk hl hN hv h) hd
end
example : True := by
  k_with "eval Name" =>
    (fail_if_success (fail_if_success (have := hereW10f)))
    ((refine' Mine.ld_ns ?q1959 ?q2959 ?_ ?q3959 ?q4959 ?q5959; (case q1959 => assumption); (case q2959 => assumption); (case q3959 => rfl); (case q4959 => rfl); (case q5959 => decide)))
  trivial
noncomputable abbrev gscope : Scope := { kind := .function, names := [(Str.ofString ".0", .local), (Str.ofString "s", .local)], isGenerator := true, isCoroutine := false, more := [] }
theorem leaf_repl {prog : Program} {w : World} {A : Around} {E : Value → Shared → Prop} {s : Shared} {env0 : Env} {C bi : Addr} {code : Value} {m₂ : Str → Option Value} {x : List Nat} {t : Tok} {a1 b1 a2 b2 a3 b3 a4 b4 a5 b5 a6 b6 a7 b7 a8 b8 a9 b9 : Nat} (hN : s.heap.Ns C m₂) (hv : m₂ (Str.ofString "s") = some (.str (S x) t)) (h92 : 92 ∉ x) (h45 : 45 ∉ x) :
    wpAny (model prog w) A (eval (.Call (.Attribute (.Call (.Attribute (.Name (Str.ofString "s") ⟨62, a1, 62, b1⟩) (Str.ofString "replace") ⟨62, a2, 62, b2⟩) [.Constant (.str (Str.ofString "\\")) 0 ⟨62, a3, 62, b3⟩, .Constant (.str (Str.ofString "\\\\")) 0 ⟨62, a4, 62, b4⟩] [] ⟨62, a5, 62, b5⟩) (Str.ofString "replace") ⟨62, a6, 62, b6⟩) [.Constant (.str (Str.ofString "-")) 0 ⟨62, a7, 62, b7⟩, .Constant (.str (Str.ofString "\\-")) 0 ⟨62, a8, 62, b8⟩] [] ⟨62, a9, 62, b9⟩) (genEnv gscope [] C code bi env0)) (fun y s₃ => (∃ t, y = .str (S x) t) ∧ Keeps s s₃) E s := by
  repeat' (first | walk1 | (dsimp only; walk1))
  all_goals first | exact ⟨_, _, rfl, fun _ _ e => e⟩ | rfl
theorem dp_ok3 {dp : Nat} (h : dp + 20 < recursionLimit) : dp + 1 < recursionLimit := Nat.lt_of_le_of_lt (by lia) h
theorem ne57 {c b l : Addr} {o1 o2 o3 : Obj} {rest : List (Addr × Obj)} (h : b < c ∧ l < c ∧ 57 < c ∧ AllLt c rest) (h2 : ∀ p ∈ [(b, o2), (l, o3)], p.1 ≠ 57) : ∀ p ∈ [(c, o1), (b, o2), (l, o3)], p.1 ≠ 57 := by
  intro p hp
  rcases List.mem_cons.mp hp with rfl | hp
  · exact Nat.ne_of_gt h.2.2.1
  · exact h2 p hp
theorem join_facts {neg : Bool} {ms : List (List Nat)} (hok : (It.br neg ms).Ok) (hl : ms.flatten.length ≤ 1000) :
    (∀ c ∈ mergeAll (chunksFrom (nb neg) ms), 92 ∉ c ∧ 45 ∉ c) ∧ joinT [45] (mergeAll (chunksFrom (nb neg) ms)) = nb neg ++ kept ms ∧ (mergeAll (chunksFrom (nb neg) ms)).length ≤ 2000 ∧ (mergeAll (chunksFrom (nb neg) ms)).flatten.length + (mergeAll (chunksFrom (nb neg) ms)).length * 1 ≤ 16777216 := by
  obtain ⟨c1, fr, hfl, hfine⟩ := flat_ok hok.1 hok.2
  obtain ⟨g1, g2, _⟩ := good_of (neg := neg) hok.2 hl
  have m1 := merge_len (chunksFrom (nb neg) ms)
  have m2 := merge_count (chunksFrom (nb neg) ms)
  refine ⟨fun c hc => ⟨fun q => ?_, fun q => ?_⟩, ?_, by lia, by lia⟩
  · have h1 := merge_sub _ c hc 92 q
    obtain ⟨c', hc', q'⟩ := List.mem_flatten.mp h1
    have h2 := chunk_sub ms hok.2 _ c' hc' 92 q'
    rcases List.mem_append.mp h2 with r | r
    · cases neg
      · cases r
      · exact absurd (List.mem_singleton.mp r) (by decide)
    · rw [hfl] at r
      exact (hfine 92 r).2.2.2.2.2.1 rfl
  · have h1 := merge_sub _ c hc 45 q
    obtain ⟨c', hc', q'⟩ := List.mem_flatten.mp h1
    exact chunk_no ms hok.2 _ (by cases neg <;> decide) c' hc' q'
  · obtain ⟨t, ds, h1, h2⟩ := merged ms hok.2 (nb neg)
    rw [h1]; exact h2
end
section
theorem LocW10.hereW10 : True := trivial
open LocW10
open PySem PySem.W PyProof.Rows PySem.Calls
set_option maxRecDepth 100000
set_option maxHeartbeats 8000000
example : True := by
  k_with "execs cons" =>
    (fail_if_success (fail_if_success (have := hereW10)))
    ((k_here; refine Mine.consL ?_; intro _))
  trivial
example : True := by
  k_with "exec While Compare cons nil" =>
    (fail_if_success (fail_if_success (have := hereW10)))
    ((refine halt ?_))
  trivial
example : True := by
  k_with "exec While BoolOp cons nil" =>
    (fail_if_success (fail_if_success (have := hereW10)))
    ((refine halt ?_))
  trivial
example : True := by
  k_with "exec If BoolOp cons nil" =>
    (fail_if_success (fail_if_success (have := hereW10)))
    (((with_reducible show wpAny _ _ (exec (.If _ _ _ ⟨31, _, _, _⟩) _) _ _ _); refine halt ?_))
  trivial
example : True := by
  k_with "exec If Compare cons cons" =>
    (fail_if_success (fail_if_success (have := hereW10)))
    (((with_reducible show wpAny _ _ (exec (.If _ _ _ ⟨41, _, _, _⟩) _) _ _ _); refine halt ?_))
  trivial
example : True := by
  k_with "eval Lambda" =>
    (fail_if_success (fail_if_success (have := hereW10)))
    ((refine halt ?_))
  trivial
example : True := by
  k_with "call builtin:re.Pattern.sub" =>
    (fail_if_success (fail_if_success (have := hereW10)))
    ((refine halt ?_))
  trivial
example : True := by
  k_with "exec If UnaryOp cons cons" =>
    (fail_if_success (fail_if_success (have := hereW10)))
    (((with_reducible show wpAny _ _ (exec (.If _ _ _ ⟨65, _, _, _⟩) _) _ _ _); refine halt ?_))
  trivial
example : True := by
  k_with "exec Expr" =>
    (fail_if_success (fail_if_success (have := hereW10)))
    (((with_reducible show wpAny _ _ (exec (.Expr _ ⟨74, _, _, _⟩) _) _ _ _); refine halt ?_))
  trivial
example : True := by
  k_with "exec Assign" =>
    (fail_if_success (fail_if_success (have := hereW10)))
    (((with_reducible show wpAny _ _ (exec (.Assign _ _ ⟨45, _, _, _⟩) _) _ _ _); refine halt ?_))
  trivial
example : True := by
  k_with "exec While Constant cons nil" =>
    (fail_if_success (fail_if_success (have := hereW10)))
    ((refine halt ?_))
  trivial
example : True := by
  k_with "exec For Name Call cons nil" =>
    (fail_if_success (fail_if_success (have := hereW10)))
    ((refine halt ?_))
  trivial
example : True := by
  k_with "eval GeneratorExp" =>
    (fail_if_success (fail_if_success (have := hereW10)))
    ((refine halt ?_))
  trivial
example : True := by
  k_with "call builtin:str.join" =>
    (fail_if_success (fail_if_success (have := hereW10)))
    ((refine halt ?_))
  trivial
theorem trans (w : World) (its : List It) (ok : ∀ it ∈ its, it.Ok) (t t2 : Tok) (st : Value) (hst : st = .none ∨ ∃ o, st = .ref o) (hsz : (patText its).length ≤ 1000) (hsz2 : its.length ≤ 100) :
    SpecG w 62 [.str (S (patText its)) t, st, .str (S [46]) t2] (fun _ => True) (fun led r => ∃ l ys n, r = .ref l ∧ (l, listOf ys.toArray n) ∈ led ∧ PcsAre st ys (pieces its)) := by
  unfold SpecG PR
  k_fill
  intro dp un gd cn cs a ccd cl outer A₀ base h₀ L m p loose mean mg mb rest ts s Q E B F X N T hk G hap htr _ hd hu hret
  refine wpAny_call ?_
  k_dflt cell_enter
  refine letA ?_
  intro A1
  refine letV ?_
  intro e1
  k_steps
  rename_i g' L' hh0 FG' B' X' T' c1 l hh1 lt1 hh2 c2 b hh3 tk2 lt2 hh4 c3 tk3 tk4 tup hh5 lt3 hh6 hh7 hh8 F1 N1 c4
  show wpAny _ _ _ _ _ _
  try k_fold
  have hbl : b ≠ l := t1 _ _ _ _ lt2
  have hapl := apl lt1.1 lt1.2
  have hord := tl_ord lt1.1 lt1.2 lt2
  clear lt2 lt1 lt3
  refine while_postG (TrI its st t2 b l rest) (TrX its st b l rest)
    (its.length - 0) (led := (b, bmObj l) :: (l, listOf #[] 0) :: (57, tabObj ts) :: rest) ?_ F1 (fun p hp => N1 p (.tail _ hp)) G ?_ ?_
  · exact ⟨0, [], 0, ts, _, _, _, rfl, Nat.zero_le _, rfl, htr, .nil, Has.cons rfl (Has.cons rfl (Has.cons rfl (Has.cons rfl (Has.cons rfl (Has.cons rfl (Has.cons rfl Has.nil))))))⟩
  rotate_left
  · rintro m₁ led h tk gs Gs ⟨ys, nn, ts', tp, tq, rfl, htr', hps, H⟩ F₂ N₂
    replace F₂ : Fr g' L' h _ := fr_at F₂ H
    dsimp only [kB_e1, kB_e2] at F₂
    replace N₂ : News g' L' h _ := N₂
    k_steps
    · exact hret (.ref l) ts' [(b, bmObj l), (l, listOf ys.toArray nn)] _ _ _ Gs (by assumption) (tl_news (by assumption)) htr' (hord _ _).1 (hord _ _).2 ⟨l, ys, nn, rfl, List.mem_append.mpr (.inr (.tail _ (.head _))), hps⟩
    · exact absurd rfl (by assumption)
  have h57 : ∀ o1 o2, ∀ p ∈ [(b, o1), (l, o2)], p.1 ≠ 57 := fun o1 o2 => (hord o1 o2).1
  clear hret hord F1 N1
  rintro E' Q' n m₁ led h tk gs hX Gs ⟨k, ys, nn, ts', tp, tq, tr, rfl, hk', rfl, htr', hps, H⟩ F₂ N₂
  refine letW ?_
  intro R9
  replace F₂ : Fr g' L' h _ := fr_at F₂ H
  dsimp only [kB_e1, kB_e2] at F₂
  replace N₂ : News g' L' h _ := N₂
  iterate 6 (first | walk1 | (dsimp only; walk1))
  rotate_left
  · rename_i hc
    have hke := k_eq hk' (fun q => hc (Int.ofNat_lt.mpr q))
    subst hke
    rw [List.take_length] at F₂ hps
    exact hX _ _ _ _ _ Gs ⟨ys, nn, ts', tp, tq, rfl, htr', hps, Has.cons rfl (Has.cons rfl (Has.cons rfl Has.nil))⟩ F₂ N₂
  rename_i hc
  have hlt := k_of hk' (Int.ofNat_lt.mp hc)
  clear hc hX
  obtain ⟨post, hx⟩ := patText_split hlt
  have hp1 := pieces_take its k hlt
  have hit := ok _ (List.getElem_mem hlt)
  have ht1 := patText_take its k hlt
  generalize its[k] = it at hx hp1 hit ht1
  have hyl : ys.length < 16777216 := ys_lt hps (Nat.le_trans hk' hsz2)
  have hap1 := hapl ts'
  have hat : ∀ (j c : Nat), it.text[j]? = some c → ∀ i : Int, i = ((patText (its.take k)).length : Int) + (j : Int) → At (patText its) i c := fun j c e i hi => at_of hx hsz e hi
  cases it with
  | star =>
    have a0 := hat 0 42 rfl ((patText (its.take k)).length : Int) (by simp)
    have e1 : ((patText (its.take (k + 1))).length : Int) = (patText (its.take k)).length + 1 := by rw [ht1]; simp [text_e1, text_e2, text_e3, text_e4]
    rcases hps.last with ⟨rfl, hq⟩ | ⟨zs, z, qs, q, rfl, hq, hz⟩
    · k_steps
      exact trI_fin hlt e1 Gs (by assumption) (by assumption) htr' (add_star hp1 (by rw [hq]; exact fun q => nomatch q) hps rfl) (Has.cons rfl (Has.cons rfl (Has.cons rfl (Has.cons rfl (Has.cons rfl (Has.cons rfl (Has.cons rfl Has.nil)))))))
    · have hzl : zs.length < 16777216 := Nat.lt_of_le_of_lt (by simp) hyl
      k_steps
      cases q with
      | none =>
        refine isnot_F hst hz ?_
        k_steps
        exact trI_fin hlt e1 Gs (by assumption) (by assumption) htr' (add_same hp1 (by rw [hq]; simp) hps) (Has.cons rfl (Has.cons rfl (Has.cons rfl (Has.cons rfl (Has.cons rfl (Has.cons rfl (Has.cons rfl Has.nil)))))))
      | some q =>
        refine isnot_T hst hz ?_
        k_steps
        exact trI_fin hlt e1 Gs (by assumption) (by assumption) htr' (add_star hp1 (by rw [hq]; simp) hps rfl) (Has.cons rfl (Has.cons rfl (Has.cons rfl (Has.cons rfl (Has.cons rfl (Has.cons rfl (Has.cons rfl Has.nil)))))))
  | qm =>
    have a0 := hat 0 63 rfl ((patText (its.take k)).length : Int) (by simp)
    have e1 : ((patText (its.take (k + 1))).length : Int) = (patText (its.take k)).length + 1 := by rw [ht1]; simp [text_e1, text_e2, text_e3, text_e4]
    k_steps
    exact trI_fin hlt e1 Gs (by assumption) (by assumption) htr' (add_some hp1 hps ⟨_, rfl⟩) (Has.cons rfl (Has.cons rfl (Has.cons rfl (Has.cons rfl (Has.cons rfl (Has.cons rfl (Has.cons rfl Has.nil)))))))
  | lit c =>
    have a0 := hat 0 c rfl ((patText (its.take k)).length : Int) (by simp)
    have e1 : ((patText (its.take (k + 1))).length : Int) = (patText (its.take k)).length + 1 := by rw [ht1]; simp [text_e1, text_e2, text_e3, text_e4]
    obtain ⟨n1, n2, n3⟩ := lits_ne hit
    k_steps
    refine (escape w c _ hit).use B' (by assumption) X' (by assumption) T' rfl trivial (dp_ok2 hd) (un_ok2 hu) fun r tl h' tk' F' N' _ hr => ?_
    obtain ⟨t', rfl⟩ := hr
    replace N' := news_sub (news := (b, bmObj l) :: (l, listOf ys.toArray nn) :: (57, tabObj ts') :: rest) N' fun p hp => List.mem_append.mpr (.inl hp)
    k_steps
    exact trI_fin hlt e1 Gs (by assumption) (by assumption) htr' (add_some hp1 hps ⟨_, rfl⟩) (Has.cons rfl (Has.cons rfl (Has.cons rfl (Has.cons rfl (Has.cons rfl (Has.cons rfl (Has.cons rfl Has.nil)))))))
  | br neg ms =>
    obtain ⟨c1, fr, hfl, hfine⟩ := flat_ok hit.1 hit.2
    have a0 : At (patText its) ((patText (its.take k)).length : Int) 91 := hat 0 91 (by cases neg <;> rfl) _ (by simp)
    rw [br_text] at hx ht1
    have hx' : patText its = (patText (its.take k) ++ [91]) ++ (nb neg ++ ms.flatten ++ [93]) ++ post := by rw [hx]; simp only [List.append_assoc]
    obtain ⟨i0, hi0⟩ : ∃ i0 : Int, i0 = ((patText (its.take k)).length : Int) + 1 := ⟨_, rfl⟩
    have sp : Spot (patText its) (i0 + nl neg) (c1 :: fr) := spot_of (pre := patText (its.take k) ++ [91] ++ nb neg) (post := post) (by rw [hx', hfl]; simp only [List.append_assoc]) hsz (by rw [hi0, ← nb_len]; simp only [List.length_append, List.length_singleton]; push_cast; omega)
    have a1 := sp.mid 0 c1 rfl
    have n1 := sp.room 0 (Nat.zero_le _)
    rw [show ((0 : Nat) : Int) = 0 from rfl, Int.add_zero] at a1 n1
    have h1 := (hfine c1 (.head _)).1
    have h2 := (hfine c1 (.head _)).2.1
    k_steps
    (rename Fr _ _ _ _ => FJ)
    (rename News _ _ _ _ => NJ)
    show wpAny _ _ _ _ _ _
    try k_fold
    refine cut g' L' (JX its st t2 b l i0 (i0 + nl neg) ((b, bmObj l) :: (l, listOf ys.toArray nn) :: (57, tabObj ts') :: rest)) ?_ ?_
    · intro Q'' hX₁
      have k0 := hi0 ▸ sp.room
      cases neg with
      | true =>
        have a2 : At (patText its) (((patText (its.take k)).length : Int) + 1) 33 := hat 1 33 rfl _ (by simp)
        have n2 : ((patText (its.take k)).length : Int) + 1 < ((patText its).length : Int) := by
          have : i0 + 1 < _ := n1
          omega
        refine wpAny_If ?_
        k_steps
        refine hX₁ _ _ _ _ _ Gs ?_ (by assumption) (by assumption)
        exact ⟨_, _, _, _, rfl, Has.co (by rw [hi0]; rfl) (Has.cons rfl (Has.cons rfl (Has.cons rfl (Has.cons rfl (Has.cons rfl (Has.cons rfl (Has.co (by rw [hi0]; rfl) Has.nil)))))))⟩
      | false =>
        rw [show nl false = 0 from rfl, Int.add_zero, hi0] at a1 n1
        refine wpAny_If ?_
        k_steps
        refine hX₁ _ _ _ _ _ Gs ?_ (by assumption) (by assumption)
        exact ⟨_, _, _, _, rfl, Has.co (by rw [hi0]; rfl) (Has.cons rfl (Has.cons rfl (Has.cons rfl (Has.cons rfl (Has.cons rfl (Has.cons rfl (Has.co (by rw [show nl false = 0 from rfl, Int.add_zero, hi0]; rfl) Has.nil)))))))⟩
    rintro m₂ led₂ h₂ tk₂ gs₂ G₂ ⟨tp₂, tq₂, tr₂, tj₂, rfl, HJ⟩ F₃ N₃
    replace F₃ : Fr g' L' h₂ _ := fr_at F₃ HJ
    dsimp only [kB_e1, kB_e2] at F₃
    replace N₃ : News g' L' h₂ _ := N₃
    clear FJ NJ H HJ
    k_steps
    show wpAny _ _ _ _ _ _
    try k_fold
    refine while_postG (JI its st t2 b l i0 (i0 + nl neg) (c1 :: fr) ((b, bmObj l) :: (l, listOf ys.toArray nn) :: (57, tabObj ts') :: rest)) (JX its st t2 b l i0 (i0 + nl neg + ((c1 :: fr).length : Int)) ((b, bmObj l) :: (l, listOf ys.toArray nn) :: (57, tabObj ts') :: rest)) ((c1 :: fr).length - 0) (led := (b, bmObj l) :: (l, listOf ys.toArray nn) :: (57, tabObj ts') :: rest) ?_ F₃ N₃ G₂ ?_ ?_
    · exact ⟨0, _, _, _, _, rfl, Nat.zero_le _, rfl, Has.cons rfl (Has.cons rfl (Has.cons rfl (Has.cons rfl (Has.cons rfl (Has.cons rfl (Has.cons rfl (Has.co (by rw [show ((0 : Nat) : Int) = 0 from rfl, Int.add_zero]; rfl) Has.nil)))))))⟩
    · clear a1 n1
      rintro E'' Q'' n₂ m₂ led₂ h₂ tk₂ gs₂ hX₂ G₂ ⟨r, tp₂, tq₂, tr₂, tj₂, rfl, hr, rfl, HJ⟩ F₃ N₃
      refine letW ?_
      intro R9
      k_fold
      replace F₃ : Fr g' L' h₂ _ := fr_at F₃ HJ
      dsimp only [kB_e1, kB_e2] at F₃
      replace N₃ : News g' L' h₂ _ := N₃
      clear HJ
      have n2 := sp.room r hr
      rcases Nat.lt_or_ge r (c1 :: fr).length with hrl | hrl
      · obtain ⟨d, hd⟩ : ∃ d, (c1 :: fr)[r]? = some d := ⟨_, List.getElem?_eq_getElem hrl⟩
        have a2 := sp.mid r d hd
        have hd93 := (hfine d (List.mem_of_getElem? hd)).1
        k_steps
        exact jI_finG hrl G₂ (by assumption) (by assumption) (Has.cons rfl (Has.cons rfl (Has.cons rfl (Has.cons rfl (Has.cons rfl (Has.cons rfl (Has.cons rfl (Has.cons rfl Has.nil))))))))
      · have hre : r = (c1 :: fr).length := Nat.le_antisymm hr hrl
        subst hre
        have a2 := sp.close
        k_steps
        exact hX₂ _ _ _ _ _ G₂ ⟨tp₂, tq₂, tr₂, tj₂, rfl, Has.cons rfl (Has.cons rfl (Has.cons rfl (Has.cons rfl (Has.cons rfl (Has.cons rfl (Has.cons rfl (Has.cons rfl Has.nil)))))))⟩ F₃ N₃
    clear F₃ N₃ G₂
    rintro m₂ led₂ h₂ tk₂ gs₂ G₂ ⟨tp₂, tq₂, tr₂, tj₂, rfl, HJ⟩ F₃ N₃
    replace F₃ : Fr g' L' h₂ _ := fr_at F₃ HJ
    dsimp only [kB_e1, kB_e2] at F₃
    replace N₃ : News g' L' h₂ _ := N₃
    clear HJ
    have n3 := sp.room (c1 :: fr).length (Nat.le_refl _)
    have cut1 : Cut (patText its) i0 (i0 + nl neg + ((c1 :: fr).length : Int)) (nb neg ++ (c1 :: fr)) := cut_of (pre := patText (its.take k) ++ [91]) (post := [93] ++ post) (by rw [hx', hfl]; simp only [List.append_assoc]) hsz (by rw [hi0]; simp) (by rw [hi0, ← nb_len]; simp only [List.length_append, List.length_singleton]; push_cast; omega)
    obtain ⟨je, hje⟩ : ∃ je : Int, je = i0 + nl neg + ((c1 :: fr).length : Int) := ⟨_, rfl⟩
    rw [← hje] at F₃ n3 cut1
    k_steps
    (rename Fr _ _ _ _ => FD)
    (rename News _ _ _ _ => ND)
    show wpAny _ _ _ _ _ _
    try k_fold
    refine cut g' L' (JD its st t2 b l je (nb neg ++ kept ms) ys nn rest) ?_ ?_
    · intro Q'' hX₂
      by_cases h45 : 45 ∈ nb neg ++ (c1 :: fr)
      · refine wpAny_If ?_
        have hmm := hit.2
        have hfl0 : ms.flatten.length ≤ 1000 := by rw [hx'] at hsz; simp only [List.length_append] at hsz; omega
        have hgood := good_of (neg := neg) hmm hfl0
        have hcst := cst_first (its := its) (neg := neg) hx' hfl hmm (by rw [hi0]; simp) hje
        k_steps
        rename_i c hh6 lt6 hh7 FC NC c5
        have hapc : Apart c ((b, bmObj l) :: (l, listOf ys.toArray nn) :: (57, tabObj ts') :: rest) := apart_c lt6
        show wpAny _ _ _ _ _ _
        try k_fold
        refine cut g' L' (fun m led => ∃ t1 tq tr tj tk, led = (c, listOf #[] 0) :: (b, bmObj l) :: (l, listOf ys.toArray nn) :: (57, tabObj ts') :: rest ∧
          Has m [("i", .int i0 t1), ("n", .int ((patText its).length : Nat) tq), ("res", .ref l), ("add", .ref b), ("pat", .str (S (patText its)) tr), ("STAR", st), ("QUESTION_MARK", .str (S [46]) t2), ("j", .int je tj), ("chunks", .ref c), ("k", .int (i0 + nl neg + 1) tk)]) ?_ ?_
        · intro Q3 hX₃
          refine wpAny_Assign_Name ?_
          cases neg with
          | true =>
            have a3 : At (patText its) i0 33 := hat 1 33 rfl _ (by rw [hi0]; simp)
            k_steps
            refine hX₃ _ _ _ _ _ G₂ ?_ (by assumption) (by assumption)
            exact ⟨_, _, _, _, _, rfl, Has.cons rfl (Has.cons rfl (Has.cons rfl (Has.cons rfl (Has.cons rfl (Has.cons rfl (Has.cons rfl (Has.cons rfl (Has.cons rfl (Has.co (by rw [show i0 + nl true + 1 = i0 + 2 from by show i0 + 1 + 1 = i0 + 2; omega]; rfl) Has.nil)))))))))⟩
          | false =>
            have a3 : At (patText its) i0 c1 := by
              have := sp.mid 0 c1 rfl
              rw [show nl false = 0 from rfl] at this
              simpa using this
            k_steps
            refine hX₃ _ _ _ _ _ G₂ ?_ (by assumption) (by assumption)
            exact ⟨_, _, _, _, _, rfl, Has.cons rfl (Has.cons rfl (Has.cons rfl (Has.cons rfl (Has.cons rfl (Has.cons rfl (Has.cons rfl (Has.cons rfl (Has.cons rfl (Has.co (by rw [show i0 + nl false + 1 = i0 + 1 from by show i0 + 0 + 1 = i0 + 1; omega]; rfl) Has.nil)))))))))⟩
        clear FC NC G₂
        rintro m₂ led₂ h₂ tk₂ gs₂ G₂ ⟨t₃, tq₃, tr₃, tj₃, tk₃, rfl, HJ⟩ F₃ N₃
        replace F₃ : Fr g' L' h₂ _ := fr_at F₃ HJ
        dsimp only [kB_e1, kB_e2] at F₃
        replace N₃ : News g' L' h₂ _ := N₃
        clear HJ
        k_steps
        show wpAny _ _ _ _ _ _
        try k_fold
        refine while_postG (CI its st t2 b l c je post (chunksFrom (nb neg) ms) ((b, bmObj l) :: (l, listOf ys.toArray nn) :: (57, tabObj ts') :: rest)) (CX its st t2 b l c je (chunksFrom (nb neg) ms) ((b, bmObj l) :: (l, listOf ys.toArray nn) :: (57, tabObj ts') :: rest)) ms.length (led := (c, listOf #[] 0) :: (b, bmObj l) :: (l, listOf ys.toArray nn) :: (57, tabObj ts') :: rest) ?_ F₃ N₃ G₂ ?_ ?_
        · exact ⟨i0, i0 + nl neg + 1, [], [], 0, _, _, _, _, _, hcst, .nil, rfl, Has.cons rfl (Has.cons rfl (Has.cons rfl (Has.cons rfl (Has.cons rfl (Has.cons rfl (Has.cons rfl (Has.cons rfl (Has.cons rfl (Has.cons rfl Has.nil)))))))))⟩
        · clear hcst a1 n1
          rintro E'' Q₄ n₂ m₂ led₂ h₂ tk₂ gs₂ hX₄ G₂ ⟨i, kk, cs', vs, nn₂, t₁, tq₂, tr₂, tj₂, tk₅, hC, hT, rfl, HJ⟩ F₃ N₃
          refine letW ?_
          intro R9
          k_fold
          replace F₃ : Fr g' L' h₂ _ := fr_at F₃ HJ
          dsimp only [kB_e1, kB_e2] at F₃
          replace N₃ : News g' L' h₂ _ := N₃
          clear HJ
          have hvl : vs.length ≤ 100000 := cst_len hgood hC hT
          rcases cst_step hsz hC with ⟨sk, last, l1, l2, l3, l4⟩ | ⟨r, ch, n', sk, r0, ct, hn', hC'⟩
          · have r0 : (-1 : Int) < 0 := by decide
            k_steps
            exact hX₄ _ _ _ _ _ G₂ ⟨i, cs', last, vs, nn₂, _, _, _, _, l1, l2, l3, l4, hT, rfl, Has.cons rfl (Has.cons rfl (Has.cons rfl (Has.cons rfl (Has.cons rfl (Has.cons rfl (Has.cons rfl (Has.cons rfl (Has.cons rfl Has.nil))))))))⟩ (by assumption) (by assumption)
          · k_steps
            refine ⟨n', _, _, _, _, _, hn', rfl, G₂, by assumption, by assumption, ?_⟩
            exact ⟨r + 1, r + 3, cs' ++ [ch], _, _, _, _, _, _, _, hC', hT.snoc, rfl, Has.cons rfl (Has.cons rfl (Has.cons rfl (Has.cons rfl (Has.cons rfl (Has.cons rfl (Has.cons rfl (Has.cons rfl (Has.cons rfl (Has.cons rfl Has.nil)))))))))⟩
        clear F₃ N₃ G₂ hcst
        rintro m₂ led₂ h₂ tk₂ gs₂ G₂ ⟨i, cs', last, vs, nn₂, t₁, tq₂, tr₂, tj₂, l1, l2, l3, l4, hT, rfl, HJ⟩ F₃ N₃
        replace F₃ : Fr g' L' h₂ _ := fr_at F₃ HJ
        dsimp only [kB_e1, kB_e2] at F₃
        replace N₃ : News g' L' h₂ _ := N₃
        clear HJ
        have hvl : vs.length ≤ 100000 := by
          have q1 := hgood.1
          rw [l4, List.length_append, ← hT.len] at q1
          omega
        k_steps
        (rename Fr _ _ _ _ => FL)
        (rename News _ _ _ _ => NL)
        obtain ⟨vA, nA, hTA, NL'⟩ := news_gen NL hT
        rw [← l4] at hTA
        clear NL
        obtain ⟨e1, e2, e3, e4, e5⟩ := mst_ends hgood l4 hTA
        clear hvl hT l1 l2 l3
        show wpAny _ _ _ _ _ _
        try k_fold
        refine cut g' L' (MX its st t2 b l c je (fun vs => TxAre vs (mergeAll (chunksFrom (nb neg) ms))) ((b, bmObj l) :: (l, listOf ys.toArray nn) :: (57, tabObj ts') :: rest)) ?_ ?_
        · intro Q₅ hX₅
          refine for_down (h₀ := g') e3 e4 rfl (fun i => MX its st t2 b l c je (MSt (chunksFrom (nb neg) ms) i) ((b, bmObj l) :: (l, listOf ys.toArray nn) :: (57, tabObj ts') :: rest)) (fun _ => rfl) ?_ ?_ ?_
          · k_steps
            exact rready (by assumption) (by assumption) ⟨vA, nA, _, _, _, mst_init l4 hTA, rfl, Has.cons rfl (Has.cons rfl (Has.cons rfl (Has.cons rfl (Has.cons rfl (Has.cons rfl (Has.cons rfl (Has.cons rfl Has.nil)))))))⟩
          · clear FL NL'
            rintro E'' it tt m₂ led₂ h₂ tk₂ I oI hit' ⟨vs, nn₂, tq₂, tr₂, tj₂, hM, rfl, HJ⟩ F₃ N₃ hne
            refine letT ?_
            intro R9
            k_fold
            replace F₃ : Fr g' L' h₂ _ := fr_at F₃ HJ
            dsimp only [kB_e1, kB_e2] at F₃
            replace N₃ : News g' L' h₂ _ := turn_in N₃
            have hapI := turn_ap (o := oI) hne hapc
            clear HJ
            obtain ⟨kk, hkk⟩ : ∃ kk : Int, kk = (vA.length : Int) - 1 - (it : Int) := ⟨_, rfl⟩
            obtain ⟨pre, x, z, e, y, u1, u2, po, rfl, k1, k2, k3, k4, k5, k6, k7, k8, k9, k10⟩ := mst_step hgood hM (it_facts e3 e5 hit' hkk).1 (it_facts e3 e5 hit' hkk).2
            rw [← hkk]
            refine asg_name F₃ N₃ (fun h' F₄ N₄ => ?_) (by rfl) (by rfl)
            clear hM
            obtain ⟨z1, z2, z3, z4⟩ := sz_facts k2 k3
            clear e1 e2 e3 e4 e5 hkk hit' cut1 n3
            by_cases hez : e < z
            · have k11 := k9 hez
              clear k9 k10
              k_steps
              exact turn_fin hne (by assumption) (by assumption) ⟨_, _, _, _, _, k11 _, rfl, Has.cons rfl (Has.cons rfl (Has.cons rfl (Has.cons rfl (Has.cons rfl (Has.cons rfl (Has.cons rfl (Has.cons rfl Has.nil)))))))⟩
            · have k11 := k10 hez
              clear k9 k10
              k_steps
              exact turn_fin hne (by assumption) (by assumption) ⟨_, _, _, _, _, k11, rfl, Has.cons rfl (Has.cons rfl (Has.cons rfl (Has.cons rfl (Has.cons rfl (Has.cons rfl (Has.cons rfl (Has.cons rfl Has.nil)))))))⟩
          · rintro m₂ led₂ h₂ tk₂ ⟨vs, nn₂, tq₂, tr₂, tj₂, hM, rfl, HJ⟩ F₃ N₃
            exact hX₅ _ _ _ _ _ G₂ ⟨vs, nn₂, tq₂, tr₂, tj₂, mst_fin e5 hM, rfl, HJ⟩ F₃ N₃
        clear FL NL' hTA e1 e2 e3 e4 e5 G₂
        rintro m₂ led₂ h₂ tk₂ gs₂ G₂ ⟨vs, nn₂, tq₂, tr₂, tj₂, hM, rfl, HJ⟩ F₃ N₃
        replace F₃ : Fr g' L' h₂ _ := fr_at F₃ HJ
        dsimp only [kB_e1, kB_e2] at F₃
        replace N₃ : News g' L' h₂ _ := N₃
        clear HJ
        obtain ⟨j1, j2, j3, j4⟩ := join_facts (neg := neg) hit hfl0
        k_steps
        have h57c : ∀ p ∈ [(c, listOf vs.toArray nn₂), (b, bmObj l), (l, listOf ys.toArray nn)], p.1 ≠ 57 := ne57 lt6 (h57 _ _)
        refine gexp_list (pre := [(c, listOf vs.toArray nn₂), (b, bmObj l), (l, listOf ys.toArray nn)]) (post := rest) (c := c) (vs := vs) (n := nn₂) (clos := []) (fun j v => ∃ x t, (mergeAll (chunksFrom (nb neg) ms))[j]? = some x ∧ v = .str (S x) t) F₃ N₃ h57c hap X' T' htr' G₂ (.head _) rfl (dp_ok3 hd) (fun Q hq => ld F₃ rfl hq)
          (fun C code A' E' j v t m₂ hA hv hN hm => by
            obtain ⟨x, tk, hx, rfl⟩ := hM.get hv
            have q := j1 x (List.mem_of_getElem? hx)
            exact wpAny_mono (leaf_repl hN hm q.1 q.2) (fun y s₃ h => ⟨by obtain ⟨t', e⟩ := h.1; exact ⟨x, t', hx, e⟩, h.2⟩) fun _ _ e => e)
          (fun a' h' tk gs' ts5 K G5 F5 N5 htr5 hLK hled X5 => ?_) rfl rfl (by decide) rfl rfl rfl (fun _ => rfl)
        clear F₃ N₃
        k_steps
        show wpAny _ _ _ _ _ _
        try k_fold
        refine gjoin (mergeAll (chunksFrom (nb neg) ms)) F5 N5 G5 X5 hLK hled hM.len.symm (fun _ _ h => h) j4 (fun t' h' tk' gs' G6 F6 N6 => ?_) (by rw [hM.len]; omega)
        rw [j2]
        k_steps
        refine hX₂ _ _ _ _ _ G6 ?_ (by assumption) (news_sub (by assumption) fun p hp => .tail _ hp)
        exact ⟨ts5, _, _, _, _, rfl, htr5, Has.cons rfl (Has.cons rfl (Has.cons rfl (Has.cons rfl (Has.cons rfl (Has.cons rfl (Has.cons rfl (Has.cons rfl Has.nil)))))))⟩
      · have hb : 92 ∉ nb neg ++ (c1 :: fr) := by
          intro q
          rcases List.mem_append.mp q with q | q
          · cases neg
            · cases q
            · exact absurd (List.mem_singleton.mp q) (by decide)
          · exact (hfine _ q).2.2.2.2.2.1 rfl
        refine wpAny_If ?_
        k_steps
        refine hX₂ _ _ _ _ _ G₂ ?_ (by assumption) (by assumption)
        exact ⟨ts', _, _, _, _, rfl, htr', Has.cons rfl (Has.cons rfl (Has.cons rfl (Has.cons rfl (Has.cons rfl (Has.cons rfl (Has.cons rfl (Has.co (by rw [kept_all (by rw [hfl]; exact fun q => h45 (List.mem_append.mpr (.inr q))), hfl]; rfl) Has.nil)))))))⟩
    clear G₂ FD ND
    rintro m₂ led₂ h₂ tk₂ gs₂ G₂ ⟨ts'', tq₃, tr₃, tj₃, tf₃, rfl, htr'', HJ⟩ F₃ N₃
    replace F₃ : Fr g' L' h₂ _ := fr_at F₃ HJ
    dsimp only [kB_e1, kB_e2] at F₃
    replace N₃ : News g' L' h₂ _ := N₃
    clear HJ
    k_steps
    show wpAny _ _ _ _ _ _
    try k_fold
    have hfl0 : ms.flatten.length ≤ 1000 := by rw [hx'] at hsz; simp only [List.length_append] at hsz; omega
    obtain ⟨bf1, bf2, bf3⟩ := bfacts hit hfl0
    have e1 : ((patText (its.take (k + 1))).length : Int) = je + 1 := by rw [ht1, hje, hi0, ← nb_len, ← hfl]; simp only [List.length_append, List.length_singleton]; push_cast; omega
    refine lam_any (pre := [(b, bmObj l), (l, listOf ys.toArray nn)]) (post := rest) F₃ N₃ (h57 _ _) hap X' T' htr'' (fun f fd h' tk' ts'' F' N' htr'' => ?_) rfl rfl
    k_steps
    show wpAny _ _ _ _ _ _
    try k_fold
    refine call_sub_none (x := nb neg ++ kept ms) bf1 bf2 (pat36 X') _ ⟨_, (N' _ (.head _)).1, rfl⟩ (by assumption) (by assumption) fun t h' tk' F' N' => ?_
    k_steps
    (rename Fr _ _ _ _ => FF)
    (rename News _ _ _ _ => NN)
    replace NN := news_sub (news := (b, bmObj l) :: (l, listOf ys.toArray nn) :: (57, tabObj ts'') :: rest) NN fun p hp => .tail _ hp
    have hkl := kept_len ms
    have hap2 := hapl ts''
    rcases hk0 : kept ms with _ | ⟨c, r⟩
    · cases neg with
      | false =>
        rw [show nb false ++ kept ms = [] by rw [hk0]; rfl] at FF
        rw [show pieceOf (.br false ms) = some [40, 63, 33, 41] from piece_f0 hk0] at hp1
        refine wpAny_If ?_
        k_steps
        exact trI_fin hlt e1 G₂ (by assumption) (by assumption) htr'' (add_some hp1 hps ⟨_, rfl⟩) (Has.cons rfl (Has.cons rfl (Has.cons rfl (Has.cons rfl (Has.cons rfl (Has.cons rfl (Has.cons rfl Has.nil)))))))
      | true =>
        rw [show nb true ++ kept ms = [33] by rw [hk0]; rfl] at FF
        rw [show pieceOf (.br true ms) = some [46] from piece_t0 hk0] at hp1
        have fl1 : [33].length ≤ 100000 := by decide
        refine wpAny_If ?_
        k_steps
        exact trI_fin hlt e1 G₂ (by assumption) (by assumption) htr'' (add_some hp1 hps ⟨_, rfl⟩) (Has.cons rfl (Has.cons rfl (Has.cons rfl (Has.cons rfl (Has.cons rfl (Has.cons rfl (Has.cons rfl Has.nil)))))))
    · have fc := bf3 c (by rw [hk0]; exact .head _)
      have h2' := fc.2.1
      have hr0 : r.length ≤ 1000 := by rw [hk0, List.length_cons] at hkl; omega
      have hany := any_no fc.2.2.2.2.2.2.1 fc.2.2.2.2.2.2.2
      clear hkl bf1 bf2 bf3 fc
      cases neg with
      | false =>
        rw [show nb false ++ kept ms = c :: r by rw [hk0]; rfl] at FF
        rw [show pieceOf (.br false ms) = some ([91] ++ (c :: r) ++ [93]) from piece_f1 hk0] at hp1
        obtain ⟨fl1, fl2, fl3⟩ := sfacts hr0 h2'
        refine wpAny_If ?_
        k_steps
        (rename News _ _ _ _ => nw')
        (have nw'' := Mine.news_dropT nw')
        clear nw'
        refine wpAny_Expr ?_
        k_steps
        exact trI_fin hlt e1 G₂ (by assumption) (by assumption) htr'' (add_some hp1 hps ⟨_, rfl⟩) (Has.cons rfl (Has.cons rfl (Has.cons rfl (Has.cons rfl (Has.cons rfl (Has.cons rfl (Has.cons rfl Has.nil)))))))
      | true =>
        rw [show nb true ++ kept ms = 33 :: c :: r by rw [hk0]; rfl] at FF
        rw [show pieceOf (.br true ms) = some ([91] ++ ([94] ++ (c :: r)) ++ [93]) from piece_t1 hk0] at hp1
        obtain ⟨fl1, fl2, fl3, fl4⟩ := tfacts hr0 c
        refine wpAny_If ?_
        k_steps
        refine wpAny_Expr ?_
        k_steps
        exact trI_fin hlt e1 G₂ (by assumption) (by assumption) htr'' (add_some hp1 hps ⟨_, rfl⟩) (Has.cons rfl (Has.cons rfl (Has.cons rfl (Has.cons rfl (Has.cons rfl (Has.cons rfl (Has.cons rfl Has.nil)))))))
end
section
open PySem PySem.W PyProof.Rows PySem.Calls
set_option maxRecDepth 100000
set_option maxHeartbeats 4000000
noncomputable def runsOf : List (Option (List Nat)) → List Nat × List (List Nat)
  | [] => ([], [])
  | some x :: r => (x ++ (runsOf r).1, (runsOf r).2)
  | none :: r => ([], (runsOf r).1 :: (runsOf r).2)
theorem runsOf_e1 : runsOf [] = ([], []) := rfl
theorem runsOf_e2 {x : List Nat} {r : List (Option (List Nat))} : runsOf (some x :: r) = (x ++ (runsOf r).1, (runsOf r).2) := rfl
theorem runsOf_e3 {r : List (Option (List Nat))} : runsOf (none :: r) = ([], (runsOf r).1 :: (runsOf r).2) := rfl
noncomputable def tailOf : List (List Nat) → List Nat
  | [] => []
  | [r] => [46, 42] ++ r
  | r :: s :: rs => [40, 63, 62, 46, 42, 63] ++ r ++ [41] ++ tailOf (s :: rs)
theorem tailOf_e1 : tailOf [] = [] := rfl
theorem tailOf_e2 {r : List Nat} : tailOf [r] = [46, 42] ++ r := rfl
theorem tailOf_e3 {r s : List Nat} {rs : List (List Nat)} : tailOf (r :: s :: rs) = [40, 63, 62, 46, 42, 63] ++ r ++ [41] ++ tailOf (s :: rs) := rfl
noncomputable def bodyOf (ps : List (Option (List Nat))) : List Nat := (runsOf ps).1 ++ tailOf (runsOf ps).2
noncomputable def joinedT (ps : List (Option (List Nat))) : List Nat := [40, 63, 115, 58] ++ bodyOf ps ++ [41, 92, 90]
noncomputable def NoDD (ps : List (Option (List Nat))) : Prop := ∀ a b, ps ≠ a ++ none :: none :: b
theorem runs_some (R : List (List Nat)) (rest : List (Option (List Nat))) : runsOf (R.map some ++ rest) = (R.flatten ++ (runsOf rest).1, (runsOf rest).2) := by
  induction R with
  | nil => simp
  | cons x R ih => simp only [List.map_cons, List.cons_append, runsOf_e1, runsOf_e2, runsOf_e3, ih, List.flatten_cons, List.append_assoc]
noncomputable def Hd (rest : List (Option (List Nat))) : Prop := rest = [] ∨ ∃ r', rest = none :: r'
theorem hd_run {rest : List (Option (List Nat))} (h : Hd rest) : (runsOf rest).1 = [] := by
  rcases h with rfl | ⟨r', rfl⟩ <;> rfl
section
variable {prog : Program} {w : World} {A : Around} {E : Value → Shared → Prop} {s : Shared} {h₀ : Heap} {L D : Addr} {m : Str → Option Value} {led rest : List (Addr × Obj)} {vs : List Value} {n : Nat} {v : Value} {i j : Int} {u t : Tok}
theorem strsAre_tx {vs : List Value} {ts : List (List Nat)} (h : TxAre vs ts) : StrsAre vs (ts.map S) := by
  induction h with
  | nil => exact .nil
  | cons _ ih => exact .cons _ _ ih
theorem tx_join {ts : List (List Nat)} {Q : Value → Shared → Prop} (N : News h₀ L s.heap led) (hl : (D, listOf vs.toArray n) ∈ led) (hd : TxAre vs ts) (hsz : ts.flatten.length ≤ 100000) (h : ∀ t' k, Q (.str (S ts.flatten) t') { s with toks := k }) :
    wpAny (model prog w) A (call (.builtin "str.join") [.str (S []) t, .ref D]) Q E s :=
  join_list (ys := ts.map S) ⟨_, (N _ hl).1, rfl, n, rfl⟩ (strsAre_tx hd) (by rw [sum_S, List.length_map, S_len, List.length_nil, Nat.mul_zero]; lia) fun t' k => by
    rw [eq_of_beq (join_plain_closes (S []) (ts.map S)), joinT_S, joinT_nil]
    exact h t' k
theorem eqi_T {Q : Value → Shared → Prop} (e : i = j) (h : Q (.bool true) s) : wpAny (model prog w) A (compareOp .Eq (.int i t) (.int j u)) Q E s := eq_int (by rw [e, beq_self_eq_true]; exact h)
theorem eqi_F {Q : Value → Shared → Prop} (e : i ≠ j) (h : Q (.bool false) s) : wpAny (model prog w) A (compareOp .Eq (.int i t) (.int j u)) Q E s := eq_int (by rw [beq_eq_false_iff_ne.mpr e]; exact h)
end
example : True := by
  k_with "compareOp Eq int int" =>
    ((refine' Mine.eqi_F ?meF974 ?_; (case meF974 => with_reducible assumption)))
  trivial
example : True := by
  k_with "compareOp Eq int int" =>
    ((refine' Mine.eqi_T ?meT975 ?_; (case meT975 => with_reducible assumption)))
  trivial
example : True := by
  k_with "compareOp IsNot" =>
    ((refine' Mine.isnot_F ?m1976 ?m2976 ?_; (case m1976 => with_reducible assumption); (case m2976 => with_reducible assumption)))
  trivial
example : True := by
  k_with "compareOp IsNot" =>
    ((refine' Mine.isnot_T ?m1977 ?m2977 ?_; (case m1977 => with_reducible assumption); (case m2977 => with_reducible assumption)))
  trivial
example : True := by
  k_with "compareOp Is" =>
    ((refine' Mine.is_T ?m1978 ?m2978 ?_; (case m1978 => with_reducible assumption); (case m2978 => with_reducible assumption)))
  trivial
example : True := by
  k_with "compareOp IsNot str" =>
    ((refine' Mine.isnot_T ?m1979 ?m2979 ?_; (case m1979 => with_reducible assumption); (case m2979 => with_reducible assumption)))
  trivial
example : True := by
  k_with "call builtin:str.join" =>
    ((k_here; refine' Mine.tx_join ?m1980 ?m2980 ?m3980 ?m4980 ?_; (case m1980 => k_asm); (case m2980 => k_dflt k_mem); (case m3980 => with_reducible assumption); (case m4980 => with_reducible assumption); intro _ _))
  trivial
/-- what the list of pieces gives at a place -/
theorem pcs_at {st : Value} {ys : List Value} {ps dn r : List (Option (List Nat))} {p : Option (List Nat)} {i : Int} (h : PcsAre st ys ps) (e : ps = dn ++ p :: r) (hi : i = (dn.length : Int)) (hl : ps.length ≤ 90000) : ∃ v, LAt ys i v ∧ PcIs st v p := by
  have hlt : dn.length < ps.length := by rw [e, List.length_append, List.length_cons]; lia
  obtain ⟨v, h1, h2⟩ := h.get hlt
  have e2 : ps[dn.length] = p := by simp [e]
  rw [e2] at h2
  exact ⟨v, ⟨by lia, by lia, by rw [hi, Int.toNat_natCast]; exact h1⟩, h2⟩
inductive J1 (st : Value) (r b l : Addr) (ps : List (Option (List Nat))) (news : List (Addr × Obj)) (n : Nat) (m : Str → Option Value) (led : List (Addr × Obj)) : Prop
  | mk (R : List (List Nat)) (rest : List (Option (List Nat))) (vs : List Value) (nn : Nat) (i : Int) (ti tn : Tok) (h1 : n = rest.length) (h2 : ps = R.map some ++ rest) (h3 : i = (R.length : Int)) (h4 : TxAre vs R) (h5 : led = (b, bmObj l) :: (l, listOf vs.toArray nn) :: news) (h6 : Has m [("inp", .ref r), ("STAR", st), ("res", .ref l), ("add", .ref b), ("i", .int i ti), ("n", .int (ps.length : Nat) tn)]) : J1 st r b l ps news n m led
inductive X1 (st : Value) (r b l : Addr) (ps : List (Option (List Nat))) (news : List (Addr × Obj)) (m : Str → Option Value) (led : List (Addr × Obj)) : Prop
  | mk (R : List (List Nat)) (rest : List (Option (List Nat))) (vs : List Value) (nn : Nat) (i : Int) (ti tn : Tok) (h1 : Hd rest) (h2 : ps = R.map some ++ rest) (h3 : i = (R.length : Int)) (h4 : TxAre vs R) (h5 : led = (b, bmObj l) :: (l, listOf vs.toArray nn) :: news) (h6 : Has m [("inp", .ref r), ("STAR", st), ("res", .ref l), ("add", .ref b), ("i", .int i ti), ("n", .int (ps.length : Nat) tn)]) : X1 st r b l ps news m led
inductive J2 (st : Value) (r b l : Addr) (ps : List (Option (List Nat))) (news : List (Addr × Obj)) (n : Nat) (m : Str → Option Value) (led : List (Addr × Obj)) : Prop
  | mk (dn rest : List (Option (List Nat))) (R : List (List Nat)) (vs : List Value) (nn : Nat) (i : Int) (ti tn : Tok) (h1 : n = rest.length) (h2 : Hd rest) (h3 : ps = dn ++ rest) (h4 : i = (dn.length : Int)) (h5 : R.flatten ++ tailOf (runsOf rest).2 = bodyOf ps) (h6 : R.length ≤ 2 * dn.length) (h7 : TxAre vs R) (h8 : led = (b, bmObj l) :: (l, listOf vs.toArray nn) :: news) (h9 : Has m [("inp", .ref r), ("STAR", st), ("res", .ref l), ("add", .ref b), ("i", .int i ti), ("n", .int (ps.length : Nat) tn)]) : J2 st r b l ps news n m led
inductive X2 (b l : Addr) (ps : List (Option (List Nat))) (news : List (Addr × Obj)) (m : Str → Option Value) (led : List (Addr × Obj)) : Prop
  | mk (R : List (List Nat)) (vs : List Value) (nn : Nat) (i : Int) (ti tn : Tok) (h1 : i = (ps.length : Int)) (h2 : R.flatten = bodyOf ps) (h3 : TxAre vs R) (h4 : led = (b, bmObj l) :: (l, listOf vs.toArray nn) :: news) (h5 : Has m [("res", .ref l), ("i", .int i ti), ("n", .int (ps.length : Nat) tn)]) : X2 b l ps news m led
inductive J3 (st : Value) (r b l f : Addr) (ps dn r' : List (Option (List Nat))) (led0 : List (Addr × Obj)) (n : Nat) (m : Str → Option Value) (led : List (Addr × Obj)) : Prop
  | mk (R : List (List Nat)) (rest : List (Option (List Nat))) (vs : List Value) (nn : Nat) (i : Int) (ti tn : Tok) (h1 : n = rest.length) (h2 : r' = R.map some ++ rest) (h3 : i = (dn.length : Int) + 1 + (R.length : Int)) (h4 : TxAre vs R) (h5 : led = (f, listOf vs.toArray nn) :: led0) (h6 : Has m [("inp", .ref r), ("STAR", st), ("res", .ref l), ("add", .ref b), ("fixed", .ref f), ("i", .int i ti), ("n", .int (ps.length : Nat) tn)]) : J3 st r b l f ps dn r' led0 n m led
inductive X3 (st : Value) (r b l f : Addr) (ps dn r' : List (Option (List Nat))) (led0 : List (Addr × Obj)) (m : Str → Option Value) (led : List (Addr × Obj)) : Prop
  | mk (R : List (List Nat)) (rest : List (Option (List Nat))) (vs : List Value) (nn : Nat) (i : Int) (ti tn : Tok) (h1 : Hd rest) (h2 : r' = R.map some ++ rest) (h3 : i = (dn.length : Int) + 1 + (R.length : Int)) (h4 : TxAre vs R) (h5 : led = (f, listOf vs.toArray nn) :: led0) (h6 : Has m [("inp", .ref r), ("STAR", st), ("res", .ref l), ("add", .ref b), ("fixed", .ref f), ("i", .int i ti), ("n", .int (ps.length : Nat) tn)]) : X3 st r b l f ps dn r' led0 m led
theorem j12 {ps : List (Option (List Nat))} {R : List (List Nat)} {rest : List (Option (List Nat))} (h : ps = R.map some ++ rest) (hd : Hd rest) : R.flatten ++ tailOf (runsOf rest).2 = bodyOf ps ∧ R.length ≤ 2 * (R.map some).length := by
  refine ⟨?_, by rw [List.length_map]; lia⟩
  unfold bodyOf
  rw [h, runs_some, hd_run hd, List.append_nil]
theorem vl_ok {ps rest : List (Option (List Nat))} {R : List (List Nat)} {vs : List Value} (h : ps = R.map some ++ rest) (hT : TxAre vs R) (hl : ps.length ≤ 90000) : vs.length < 16777216 := by
  rw [h, List.length_append, List.length_map, ← hT.len] at hl; lia
theorem snoc_split {r' rest : List (Option (List Nat))} {R : List (List Nat)} {x : List Nat} (h : r' = R.map some ++ some x :: rest) : r' = (R ++ [x]).map some ++ rest := by rw [h]; simp
theorem snoc_len {R : List (List Nat)} {x : List Nat} {i : Int} (h : i = (R.length : Int)) : i + 1 = ((R ++ [x]).length : Int) := by rw [h]; simp
theorem rest_lt {x : Option (List Nat)} {rest : List (Option (List Nat))} : rest.length < (x :: rest).length := by simp
theorem dn_facts {ps dn r' : List (Option (List Nat))} {i : Int} (h : ps = dn ++ none :: r') (hi : i = (dn.length : Int)) : (r' = [] → i + 1 = ((ps.length : Nat) : Int)) ∧ (r' ≠ [] → i + 1 ≠ ((ps.length : Nat) : Int)) := by
  have e : ps.length = dn.length + (r'.length + 1) := by rw [h]; simp
  refine ⟨fun q => by rw [q] at e; simp at e; lia, fun q => ?_⟩
  have : 0 < r'.length := List.length_pos_iff.mpr q
  lia
theorem dd_some {ps dn r' : List (Option (List Nat))} (hdd : NoDD ps) (h : ps = dn ++ none :: r') (hne : r' ≠ []) : ∃ x r2, r' = some x :: r2 := by
  rcases r' with _ | ⟨p, r2⟩
  · exact absurd rfl hne
  · cases p with
    | none => exact absurd h (hdd dn r2)
    | some x => exact ⟨x, r2, rfl⟩
theorem in_at {ps dn r' rest : List (Option (List Nat))} {R : List (List Nat)} {p : Option (List Nat)} {i : Int} (h : ps = dn ++ none :: r') (hr : r' = R.map some ++ p :: rest) (hi : i = (dn.length : Int) + 1 + (R.length : Int)) : ps = (dn ++ none :: R.map some) ++ p :: rest ∧ i = ((dn ++ none :: R.map some).length : Int) := by
  refine ⟨by rw [h, hr]; simp, by rw [hi]; simp; lia⟩
theorem in_end {ps dn r' : List (Option (List Nat))} {R : List (List Nat)} {i : Int} (h : ps = dn ++ none :: r') (hr : r' = R.map some ++ []) (hi : i = (dn.length : Int) + 1 + (R.length : Int)) : ps = (dn ++ none :: R.map some) ++ [] ∧ i = ((dn ++ none :: R.map some).length : Int) ∧ i = ((ps.length : Nat) : Int) := by
  refine ⟨by rw [h, hr]; simp, by rw [hi]; simp; lia, by rw [h, hr, hi]; simp; lia⟩
theorem body_le {R : List (List Nat)} {a b : List Nat} (h : R.flatten ++ a = b) (hb : b.length ≤ 90000) : R.flatten.length ≤ 100000 := by rw [← h, List.length_append] at hb; lia
theorem tail_run {R : List (List Nat)} {rest : List (Option (List Nat))} {hs : Hd rest} : (runsOf (none :: (R.map some ++ rest))).2 = R.flatten :: (runsOf rest).2 := by
  show (runsOf (R.map some ++ rest)).1 :: (runsOf (R.map some ++ rest)).2 = _
  rw [runs_some, hd_run hs, List.append_nil]
theorem tail_last (x : List Nat) : tailOf [x] = [46, 42] ++ x := rfl
theorem tail_mid (x : List Nat) (r : List (Option (List Nat))) : tailOf (x :: (runsOf (none :: r)).2) = [40, 63, 62, 46, 42, 63] ++ x ++ [41] ++ tailOf (runsOf (none :: r)).2 := rfl
theorem vl2_ok {ps dn rest : List (Option (List Nat))} {R : List (List Nat)} {vs : List Value} (h : ps = dn ++ rest) (hT : TxAre vs R) (h2 : R.length ≤ 2 * dn.length) (hl : ps.length ≤ 40000) : vs.length < 16777216 ∧ vs.length + 1 < 16777216 ∧ (∀ v : Value, (vs ++ [v]).length < 16777216) := by
  rw [h, List.length_append] at hl
  rw [hT.len]
  refine ⟨by lia, by lia, fun v => ?_⟩
  rw [List.length_append, hT.len, List.length_singleton]; lia
theorem vl3_ok {ps dn r' rest : List (Option (List Nat))} {R : List (List Nat)} {vs : List Value} (h : ps = dn ++ none :: r') (hr : r' = R.map some ++ rest) (hT : TxAre vs R) (hl : ps.length ≤ 40000) : vs.length ≤ 100000 := by
  rw [h, hr] at hl
  simp only [List.length_append, List.length_cons, List.length_map] at hl
  rw [hT.len]; lia
theorem run_le {ps r' rest : List (Option (List Nat))} {R0 R : List (List Nat)} (hB : R0.flatten ++ tailOf (runsOf (none :: r')).2 = bodyOf ps) (hr : r' = R.map some ++ rest) (hs : Hd rest) (hsz : (bodyOf ps).length ≤ 90000) : R.flatten.length ≤ 90000 := by
  rw [hr, tail_run (hs := hs)] at hB
  have : R.flatten.length ≤ (tailOf (R.flatten :: (runsOf rest).2)).length := by
    rcases hs with rfl | ⟨r2, rfl⟩
    · show _ ≤ (tailOf [R.flatten]).length
      rw [tail_last, List.length_append]; lia
    · rw [tail_mid]; simp only [List.length_append]; lia
  rw [← hB, List.length_append] at hsz
  lia
theorem body_last {ps : List (Option (List Nat))} {R0 R : List (List Nat)} {r' : List (Option (List Nat))} (hB : R0.flatten ++ tailOf (runsOf (none :: r')).2 = bodyOf ps) (hr : r' = R.map some ++ []) : (R0 ++ [[46, 42]] ++ [R.flatten]).flatten = bodyOf ps := by
  rw [hr, tail_run (hs := .inl rfl)] at hB
  rw [← hB, show (runsOf ([] : List (Option (List Nat)))).2 = [] from rfl, tail_last]
  simp
theorem body_mid {ps : List (Option (List Nat))} {R0 R : List (List Nat)} {r' r2 : List (Option (List Nat))} (hB : R0.flatten ++ tailOf (runsOf (none :: r')).2 = bodyOf ps) (hr : r' = R.map some ++ none :: r2) : (R0 ++ [[40, 63, 62, 46, 42, 63] ++ R.flatten ++ [41]]).flatten ++ tailOf (runsOf (none :: r2)).2 = bodyOf ps := by
  rw [hr, tail_run (hs := .inr ⟨_, rfl⟩), tail_mid] at hB
  rw [← hB]
  simp
theorem snoc3 {dn : Nat} {R : List (List Nat)} {x : List Nat} {i : Int} (h : i = (dn : Int) + 1 + (R.length : Int)) : i + 1 = (dn : Int) + 1 + ((R ++ [x]).length : Int) := by rw [h]; simp; lia
theorem rl_mid {R0 : List (List Nat)} {dn : List (Option (List Nat))} {R : List (List Nat)} {x : List Nat} (h : R0.length ≤ 2 * dn.length) : (R0 ++ [x]).length ≤ 2 * (dn ++ none :: R.map some).length := by
  simp only [List.length_append, List.length_cons, List.length_nil]; lia
theorem lt_rest {r' rest : List (Option (List Nat))} {R : List (List Nat)} {p : Option (List Nat)} (h : r' = R.map some ++ rest) : rest.length < (p :: r').length := by rw [h]; simp; lia
theorem apart_f {f b l : Addr} {o1 o2 : Obj} {news : List (Addr × Obj)} (h : b < f ∧ l < f ∧ AllLt f news) : Apart f ((b, o1) :: (l, o2) :: news) := by
  intro p hp
  rcases List.mem_cons.mp hp with rfl | hp
  · exact Nat.ne_of_lt h.1
  · rcases List.mem_cons.mp hp with rfl | hp
    · exact Nat.ne_of_lt h.2.1
    · exact Nat.ne_of_lt (allLt_mem h.2.2 p hp)
theorem apart_l {l : Addr} {news : List (Addr × Obj)} (h : AllLt l news) : Apart l news := fun p hp => Nat.ne_of_lt (allLt_mem h p hp)
theorem lt_of_len {ps dn rest : List (Option (List Nat))} {i : Int} {p : Option (List Nat)} (e : ps = dn ++ p :: rest) (hi : i = (dn.length : Int)) : i < ((ps.length : Nat) : Int) := by
  rw [e, List.length_append, List.length_cons, hi]; push_cast; lia
theorem ge_of_len {ps dn : List (Option (List Nat))} {i : Int} (e : ps = dn ++ []) (hi : i = (dn.length : Int)) : ¬ i < ((ps.length : Nat) : Int) := by
  rw [e, List.append_nil, hi]; lia
theorem ne_of_mid {ps dn rest : List (Option (List Nat))} {p : Option (List Nat)} {i : Int} (h : ps = dn ++ p :: rest) (hi : i = (dn.length : Int)) : i ≠ ((ps.length : Nat) : Int) := by
  have := lt_of_len h hi
  lia
theorem add_len {ys : List Value} {v : Value} (h : ys.length + 1 < 16777216) : (ys ++ [v]).length < 16777216 := by rw [List.length_append, List.length_singleton]; exact h
theorem rl2_mid {R0 : List (List Nat)} {dn : List (Option (List Nat))} {R : List (List Nat)} {x y : List Nat} (h : R0.length ≤ 2 * dn.length) : (R0 ++ [x] ++ [y]).length ≤ 2 * (dn ++ none :: R.map some).length := by
  simp only [List.length_append, List.length_cons, List.length_nil]; lia
end
section
theorem LocW11.hereW11 : True := trivial
open LocW11
open PySem PySem.W PyProof.Rows PySem.Calls
set_option maxRecDepth 100000
set_option maxHeartbeats 8000000
example : True := by
  k_with "execs cons" =>
    (fail_if_success (fail_if_success (have := hereW11)))
    ((k_here; refine Mine.consL ?_; intro _))
  trivial
example : True := by
  k_with "k_mem" =>
    (fail_if_success (fail_if_success (have := hereW11)))
    (assumption)
  trivial
example : True := by
  k_with "exec While Compare cons nil" =>
    (fail_if_success (fail_if_success (have := hereW11)))
    ((refine halt ?_))
  trivial
example : True := by
  k_with "exec While BoolOp cons nil" =>
    (fail_if_success (fail_if_success (have := hereW11)))
    ((refine halt ?_))
  trivial
example : True := by
  k_with "exec If Compare cons cons" =>
    (fail_if_success (fail_if_success (have := hereW11)))
    (((with_reducible show wpAny _ _ (exec (.If _ _ _ ⟨98, _, _, _⟩) _) _ _ _); refine halt ?_))
  trivial
example : True := by
  k_with "call ref" =>
    (fail_if_success (fail_if_success (have := hereW11)))
    ((k_here; refine' Mine.add1 ?madF986 ?madN986 ?madb986 ?madp986 ?madz986 ?_; (case madF986 => k_asm); (case madN986 => k_asm); (case madb986 => assumption); (case madp986 => assumption); (case madz986 => exact Mine.add_len (by assumption)); intro _ _ _ _))
  trivial
/-- Spec, the tokens being more than none at the end -/
noncomputable def SpecP (w : World) (f : Addr) (vs : List Value) (Pre : List (Addr × Obj) → Prop) (Out : List (Addr × Obj) → Value → Prop) : Prop :=
  ∀ (dp un : Nat) (gd : Option (List Code)) (cn : Str) (cs : Scope) (a : Addr) (ccd : Value) (cl : List (Str × Addr)) (outer : List Env) (A₀ : Around) (base h₀ : Heap) (L : Addr) (m : Str → Option Value)
    (p : Program) (loose : List Str) (mean : ExcName → Option Value) (mg mb : Str → Option Value) (news : List (Addr × Obj)) (s : Shared) (Q E : Value → Shared → Prop),
    Below A₀ base outer h₀ → Fr h₀ L s.heap m → (Mine.hp.heap_1 w.params).In h₀ → News h₀ L s.heap news → Top p loose mean mg mb h₀ → cs.kind = .function →
    Pre news → dp + 3 < recursionLimit → un + 30 < cLine →
    (∀ r tl h' tk', Fr h₀ L h' m → News h₀ L h' (news ++ tl) → (∀ q ∈ news, ∀ p ∈ tl, q.1 < p.1) → Out (news ++ tl) r → 0 < tk' → Q r { s with heap := h', toks := tk' }) →
    wpAny (model PR w) (ktrTop dp un gd cn cs L a ccd cl outer) (call (.ref f) vs) Q E s
theorem SpecP.use {w : World} {f : Addr} {vs : List Value} {Pre : List (Addr × Obj) → Prop} {Out : List (Addr × Obj) → Value → Prop} (C : SpecP w f vs Pre Out)
    {dp un : Nat} {gd : Option (List Code)} {cn : Str} {cs : Scope} {a : Addr} {ccd : Value} {cl : List (Str × Addr)} {outer : List Env} {A₀ : Around} {base h₀ : Heap} {L : Addr} {m : Str → Option Value}
    {p : Program} {loose : List Str} {mean : ExcName → Option Value} {mg mb : Str → Option Value} {news : List (Addr × Obj)} {s : Shared} {Q E : Value → Shared → Prop}
    (B : Below A₀ base outer h₀) (F : Fr h₀ L s.heap m) (X : (Mine.hp.heap_1 w.params).In h₀) (N : News h₀ L s.heap news) (T : Top p loose mean mg mb h₀) (hk : cs.kind = .function)
    (hpre : Pre news) (hd : dp + 3 < recursionLimit) (hu : un + 30 < cLine)
    (ret : ∀ r tl h' tk', Fr h₀ L h' m → News h₀ L h' (news ++ tl) → (∀ q ∈ news, ∀ p ∈ tl, q.1 < p.1) → Out (news ++ tl) r → 0 < tk' → Q r { s with heap := h', toks := tk' }) :
    wpAny (model PR w) (ktrTop dp un gd cn cs L a ccd cl outer) (call (.ref f) vs) Q E s :=
  C _ _ _ _ _ _ _ _ _ _ _ _ _ _ _ _ _ _ _ _ _ _ _ B F X N T hk hpre hd hu ret
theorem joinw (w : World) (st : Value) (hst : st = .none ∨ ∃ o, st = .ref o) (ps : List (Option (List Nat))) (ys : List Value) (n0 : Nat) (r : Addr) (hps : PcsAre st ys ps) (hdd : NoDD ps) (hsz : (bodyOf ps).length ≤ 90000) (hl : ps.length ≤ 40000) :
    SpecP w 69 [.ref r, st] (fun news => (r, listOf ys.toArray n0) ∈ news) (fun _ v => ∃ t, v = .str (S (joinedT ps)) t) := by
  unfold SpecP PR
  k_fill
  intro dp un gd cn cs a ccd cl outer A₀ base h₀ L m p loose mean mg mb news s Q E B F X N T hk hpre hd hu hret
  refine wpAny_call ?_
  k_dflt cell_enter
  refine letA ?_
  intro A1
  refine letV ?_
  intro e1
  have hyl : ys.length ≤ 100000 := by rw [hps.len]; omega
  k_steps
  rename_i g' L' hh0 FG' B' X' T' c1 l hh1 lt1 hh2 c2 b hh3 tk3 lt2 hh4 c3 t5 tk6 D hh7 lt7 hh8 hh9 hh10 F1 N1 c4
  show wpAny _ _ _ _ _ _
  try k_fold
  have hbl : b ≠ l := t1 _ _ _ _ lt2
  have hapl : Apart l news := fun p hp => Nat.ne_of_lt (lt1 p hp)
  have hln := hps.len
  clear lt2 lt1 lt7
  refine while_post (J1 st r b l ps news) (X1 st r b l ps news) ps.length (led := (b, bmObj l) :: (l, listOf #[] 0) :: news) ?_ F1 (fun p hp => N1 p (.tail _ hp)) ?_ ?_
  · exact ⟨[], ps, [], 0, 0, _, _, rfl, rfl, rfl, .nil, rfl, Has.cons rfl (Has.cons rfl (Has.cons rfl (Has.cons rfl (Has.cons rfl (Has.co (by rw [← hln]; rfl) Has.nil)))))⟩
  · rintro E' Q' n m₁ led h tk hX ⟨R, rest, vs, nn, i, ti, tn, rfl, hR, hi, hT, rfl, H⟩ F₂ N₂
    refine letW ?_
    intro R9
    k_fold
    replace F₂ : Fr g' L' h _ := fr_at F₂ H
    dsimp only [kB_e1, kB_e2] at F₂
    replace N₂ : News g' L' h _ := N₂
    clear F1 N1 H
    have hi' : i = ((R.map some).length : Int) := by rw [hi, List.length_map]
    rcases rest with _ | ⟨p, rest⟩
    · have lt := ge_of_len hR hi'
      k_steps
      exact hX _ _ _ _ ⟨R, [], vs, nn, i, ti, tn, .inl rfl, hR, hi, hT, rfl, Has.cons rfl (Has.cons rfl (Has.cons rfl (Has.cons rfl (Has.cons rfl (Has.cons rfl Has.nil)))))⟩ (by assumption) (by assumption)
    · have lt := lt_of_len hR hi'
      obtain ⟨v, hat, hv⟩ := pcs_at hps hR hi' (by omega)
      cases p with
      | none =>
        k_steps
        exact hX _ _ _ _ ⟨R, _, vs, nn, i, ti, tn, .inr ⟨rest, rfl⟩, hR, hi, hT, rfl, Has.cons rfl (Has.cons rfl (Has.cons rfl (Has.cons rfl (Has.cons rfl (Has.cons rfl Has.nil)))))⟩ (by assumption) (by assumption)
      | some x =>
        have hv' := hv
        obtain ⟨tx, rfl⟩ := hv'
        have hvl : vs.length < 16777216 := vl_ok hR hT (by omega)
        k_steps
        refine ⟨rest.length, _, _, _, _, rest_lt, rfl, by assumption, by assumption, ?_⟩
        exact ⟨R ++ [x], rest, _, _, i + 1, _, _, rfl, snoc_split hR, snoc_len hi, hT.snoc, rfl, Has.cons rfl (Has.cons rfl (Has.cons rfl (Has.cons rfl (Has.cons rfl (Has.cons rfl Has.nil)))))⟩
  rintro m₁ led h tk ⟨R, rest, vs, nn, i, ti, tn, hH, hR, hi, hT, rfl, H⟩ F₂ N₂
  replace F₂ : Fr g' L' h _ := fr_at F₂ H
  dsimp only [kB_e1, kB_e2] at F₂
  replace N₂ : News g' L' h _ := N₂
  clear F1 N1 H
  k_steps
  show wpAny _ _ _ _ _ _
  try k_fold
  refine while_post (J2 st r b l ps news) (X2 b l ps news) rest.length (led := (b, bmObj l) :: (l, listOf vs.toArray nn) :: news) ?_ F₂ N₂ ?_ ?_
  · exact ⟨R.map some, rest, R, vs, nn, i, _, _, rfl, hH, hR, by rw [hi, List.length_map], (j12 hR hH).1, (j12 hR hH).2, hT, rfl, Has.cons rfl (Has.cons rfl (Has.cons rfl (Has.cons rfl (Has.cons rfl (Has.cons rfl Has.nil)))))⟩
  · clear F₂ N₂ hT hR hi hH
    rintro E' Q' n m₁ led h tk hX ⟨dn, rest, R, vs, nn, i, ti, tn, rfl, hH, hR, hi, hB, hRl, hT, rfl, H⟩ F₂ N₂
    refine letW ?_
    intro R9
    k_fold
    replace F₂ : Fr g' L' h _ := fr_at F₂ H
    dsimp only [kB_e1, kB_e2] at F₂
    replace N₂ : News g' L' h _ := N₂
    clear H
    obtain ⟨vl1, vl2, vl3⟩ := vl2_ok hR hT hRl hl
    rcases hH with rfl | ⟨r', rfl⟩
    · have lt := ge_of_len hR hi
      k_steps
      exact hX _ _ _ _ ⟨R, vs, nn, i, ti, tn, by rw [hR, List.append_nil]; exact hi, by rw [← hB]; exact (List.append_nil _).symm, hT, rfl, Has.cons rfl (Has.cons rfl (Has.cons rfl Has.nil))⟩ (by assumption) (by assumption)
    · have lt := lt_of_len hR hi
      obtain ⟨v, hat, hv⟩ := pcs_at hps hR hi (by omega)
      obtain ⟨d1, d2⟩ := dn_facts hR hi
      rcases r' with _ | ⟨p, r2⟩
      · have d3 := d1 rfl
        clear d1 d2
        k_steps
        refine hX _ _ _ _ ?_ (by assumption) (by assumption)
        exact ⟨R ++ [[46, 42]], _, _, i + 1, _, _, d3, by rw [← hB]; simp [runsOf_e1, runsOf_e2, runsOf_e3, tailOf_e1, tailOf_e2, tailOf_e3], hT.snoc, rfl, Has.cons rfl (Has.cons rfl (Has.cons rfl Has.nil))⟩
      · have d3 := d2 (by simp)
        obtain ⟨x, r3, hr3⟩ := dd_some hdd hR (by simp)
        cases hr3
        clear d1 d2
        obtain ⟨v2, hat2, hv2⟩ := pcs_at (i := i + 1) hps (show ps = (dn ++ [none]) ++ some x :: r2 by rw [hR]; simp) (by rw [hi]; simp) (by omega)
        k_steps
        rename_i f hh12 lt3 hh13 FK NK c5
        have hapf := apart_f lt3 (o1 := bmObj l) (o2 := listOf vs.toArray nn)
        show wpAny _ _ _ _ _ _
        try k_fold
        refine while_post (J3 st r b l f ps dn (some x :: r2) ((b, bmObj l) :: (l, listOf vs.toArray nn) :: news)) (X3 st r b l f ps dn (some x :: r2) ((b, bmObj l) :: (l, listOf vs.toArray nn) :: news)) (some x :: r2).length (led := (f, listOf #[] 0) :: (b, bmObj l) :: (l, listOf vs.toArray nn) :: news) ?_ FK NK ?_ ?_
        · exact ⟨[], some x :: r2, [], 0, i + 1, _, _, rfl, rfl, by rw [hi]; simp, .nil, rfl, Has.cons rfl (Has.cons rfl (Has.cons rfl (Has.cons rfl (Has.cons rfl (Has.cons rfl (Has.cons rfl Has.nil))))))⟩
        · clear FK NK lt d3 hat2 hv2 hat hv
          rintro E'' Q'' n₃ m₃ led₃ h₃ tk₃ hX₃ ⟨F, rest, vf, nf, i2, ti2, tn2, rfl, hr, hi2, hTf, rfl, H⟩ F₃ N₃
          refine letW ?_
          intro R9
          k_fold
          replace F₃ : Fr g' L' h₃ _ := fr_at F₃ H
          dsimp only [kB_e1, kB_e2] at F₃
          replace N₃ : News g' L' h₃ _ := N₃
          clear H
          have hvf := vl3_ok hR hr hTf hl
          rcases rest with _ | ⟨p, rest⟩
          · obtain ⟨i1, i3, i4⟩ := in_end hR hr hi2
            have lt := ge_of_len i1 i3
            k_steps
            exact hX₃ _ _ _ _ ⟨F, [], vf, nf, i2, ti2, tn2, .inl rfl, hr, hi2, hTf, rfl, Has.cons rfl (Has.cons rfl (Has.cons rfl (Has.cons rfl (Has.cons rfl (Has.cons rfl (Has.cons rfl Has.nil))))))⟩ (by assumption) (by assumption)
          · obtain ⟨i1, i3⟩ := in_at hR hr hi2
            have lt := lt_of_len i1 i3
            obtain ⟨v, hat, hv⟩ := pcs_at hps i1 i3 (by omega)
            cases p with
            | none =>
              k_steps
              exact hX₃ _ _ _ _ ⟨F, _, vf, nf, i2, ti2, tn2, .inr ⟨rest, rfl⟩, hr, hi2, hTf, rfl, Has.cons rfl (Has.cons rfl (Has.cons rfl (Has.cons rfl (Has.cons rfl (Has.cons rfl (Has.cons rfl Has.nil))))))⟩ (by assumption) (by assumption)
            | some y =>
              have hv' := hv
              obtain ⟨ty, rfl⟩ := hv'
              k_steps
              refine ⟨rest.length, _, _, _, _, rest_lt, rfl, by assumption, by assumption, ?_⟩
              exact ⟨F ++ [y], rest, _, _, i2 + 1, _, _, rfl, snoc_split hr, snoc3 hi2, hTf.snoc, rfl, Has.cons rfl (Has.cons rfl (Has.cons rfl (Has.cons rfl (Has.cons rfl (Has.cons rfl (Has.cons rfl Has.nil))))))⟩
        clear FK NK lt d3 hat2 hv2 hat hv
        rintro m₃ led₃ h₃ tk₃ ⟨F, rest, vf, nf, i2, ti2, tn2, hH, hr, hi2, hTf, rfl, H⟩ F₃ N₃
        replace F₃ : Fr g' L' h₃ _ := fr_at F₃ H
        dsimp only [kB_e1, kB_e2] at F₃
        replace N₃ : News g' L' h₃ _ := N₃
        clear H
        have hrl := run_le hB hr hH hsz
        have hrl2 : F.flatten.length ≤ 100000 := by omega
        k_steps
        (rename News _ _ _ _ => NN)
        replace NN := news_sub (news := (b, bmObj l) :: (l, listOf vs.toArray nn) :: news) NN fun p hp => .tail _ hp
        have hrl3 : [40, 63, 62, 46, 42, 63].length + F.flatten.length + [41].length ≤ 16777216 := by simp only [List.length_cons, List.length_nil]; omega
        rcases hH with rfl | ⟨r4, rfl⟩
        · obtain ⟨i1, i3, i4⟩ := in_end hR hr hi2
          refine wpAny_If ?_
          k_steps
          exact ⟨0, _, _, _, _, Nat.succ_pos _, rfl, by assumption, by assumption, ⟨dn ++ none :: F.map some, [], R ++ [[46, 42]] ++ [F.flatten], _, _, i2, _, _, rfl, .inl rfl, i1, i3, by rw [body_last hB hr]; exact List.append_nil _, rl2_mid hRl, hT.snoc.snoc, rfl, Has.cons rfl (Has.cons rfl (Has.cons rfl (Has.cons rfl (Has.cons rfl (Has.cons rfl Has.nil)))))⟩⟩
        · obtain ⟨i1, i3⟩ := in_at hR hr hi2
          have i4 := ne_of_mid i1 i3
          refine wpAny_If ?_
          k_steps
          refine ⟨(none :: r4).length, _, _, _, _, lt_rest hr, rfl, by assumption, by assumption, ?_⟩
          exact ⟨dn ++ none :: F.map some, none :: r4, R ++ [[40, 63, 62, 46, 42, 63] ++ F.flatten ++ [41]], _, _, i2, _, _, rfl, .inr ⟨_, rfl⟩, i1, i3, body_mid hB hr, rl_mid hRl, hT.snoc, rfl, Has.cons rfl (Has.cons rfl (Has.cons rfl (Has.cons rfl (Has.cons rfl (Has.cons rfl Has.nil)))))⟩
  · rintro m₁ led h tk ⟨R, vs, nn, i, ti, tn, hi, hB, hT, rfl, H⟩ F₂ N₂
    replace F₂ : Fr g' L' h _ := fr_at F₂ H
    dsimp only [kB_e1, kB_e2] at F₂
    replace N₂ : News g' L' h _ := N₂
    clear H
    have hb2 : R.flatten.length ≤ 100000 := by rw [hB]; omega
    have hb3 : [40, 63, 115, 58].length + R.flatten.length + [41, 92, 90].length ≤ 16777216 := by simp only [List.length_cons, List.length_nil]; omega
    k_steps
    exact hret _ [] _ _ (by assumption) (news_sub (by assumption) (fun p hp => .tail _ (.tail _ (by rw [List.append_nil] at hp; exact hp)))) (by simp) ⟨_, by rw [hB]; rfl⟩ (Nat.succ_pos _)
end
section
open PySem PySem.W PyProof.Rows PySem.Calls PySem.Builtin
set_option maxRecDepth 100000
set_option maxHeartbeats 2000000
theorem mro_object : mroOf (.type "object") = pure [.type "object"] := by rw [mroOf_type]; kernel_rfl
theorem lookup_object_new : typeLookup (.type "object") "__new__" = pure (some (.builtin "object.__new__")) := by rw [typeLookup_type, builtinLookup_eq_fast]; kernel_rfl
theorem slot_object_init : Slot "object" "__init__" "object.__init__" := Slot.of (T := "object") (name := "__init__") (owner := "object") (n := "__init__") (by rw [typeLookup_type, builtinLookup_eq_fast]; kernel_rfl) (by decide +kernel) (by decide +kernel) (by decide +kernel)
    (.inl (by decide +kernel)) (by rw [isSubtype_type]; kernel_rfl)
theorem called_object : TypeCalled "object" "object.__new__" "object.__init__" :=
  ⟨by decide +kernel, by decide +kernel, ⟨_, _, mro_object⟩, madeBy_type mro_object lookup_object_new (by decide +kernel), by decide +kernel, by rw [isSubtype_type]; kernel_rfl, slot_object_init⟩
theorem typeCall_object : checkTypeCall "object" ⟨[], []⟩ = pure () := by kernel_rfl
theorem newCall_object : checkBuiltinCall "object.__new__" ⟨[.type "object"], []⟩ = pure () := by kernel_rfl
theorem entry_object_new : entryFor table "object.__new__" = some Builtin.«object.__new__» := entryFor_of_tree (by kernel_rfl)
theorem entry_object_init : entryFor table "object.__init__" = some Builtin.«object.__init__» := entryFor_of_tree (by kernel_rfl)
theorem args_object_init (a : Value) : argsOk "object.__init__" ⟨[a], []⟩ := by unfold argsOk; kernel_rfl
theorem plain_object_new : plainId "object.__new__" = true := by decide +kernel
theorem made_object : Bind.madeBy (.type "object") = pure (some "object.__new__") := called_object.made
theorem base_object : Bind.staticBase (.type "object") = pure (.type "object") := by
  unfold Bind.staticBase
  rw [mro_object]
  simp -iota only [pure_bind, List.forIn_cons, List.forIn_nil, made_object, bind_pure_comp, Option.isSome_some, if_true]
  try rfl
theorem here_object : Bind.madeHere "object.__new__" (.type "object") = pure () := by
  unfold Bind.madeHere
  rw [base_object]
  simp -iota only [pure_bind, made_object]
  kernel_rfl
section
variable {prog : Program} {w : World} {A : Around} {E : Value → Shared → Prop} {s : Shared} {h₀ : Heap} {L : Addr} {m : Str → Option Value} {led : List (Addr × Obj)}
noncomputable abbrev plainObj : Obj := { cls := .type "object", data := .plain }
theorem code_object_new {Q₁ : Value → Shared → Prop} (h : Q₁ (.ref s.heap.objs.size) { s with heap := s.heap.push plainObj }) :
    codeAny (model prog w) A (.call (.builtin "object.__new__") ⟨[.type "object"], []⟩) (wants Q₁ E) s := by
  refine codeAny_of_tree ?_
  show wpAny _ A.in1 (do checkBuiltinCall "object.__new__" ⟨[.type "object"], []⟩; again (.builtin "object.__new__" ⟨[.type "object"], []⟩)) _ _ s
  refine wpAny_bind (wpAny_of_eq newCall_object (wpAny_pure ⟨plainId_quiet plain_object_new _, codeAny_builtin entry_object_new ?_⟩))
  rw [Around.under_plainId plain_object_new _]
  obtain ⟨hp, g, d, tk, os⟩ := s
  unfold Builtin.«object.__new__»
  have hh := here_object
  repeat (first
    | with_reducible refine wpAny_bind ?_
    | with_reducible refine wpAny_pure ?_
    | with_reducible refine wpAny_of_eq hh ?_
    | (with_reducible apply wpAny_ite_false; focus (rfl; done))
    | (with_reducible apply wpAny_ite_true; focus (rfl; done))
    | with_reducible refine wpAny_rule ?_
    | wp_step)
  exact h
theorem call_object {Q : Value → Shared → Prop} (F : Fr h₀ L s.heap m) (N : News h₀ L s.heap led) (h : ∀ o h', Fr h₀ L h' m → News h₀ L h' ((o, plainObj) :: led) → (∀ p ∈ led, p.1 < o) → Q (.ref o) { s with heap := h' }) :
    wpAny (model prog w) A (call (.type "object") []) Q E s := by
  refine callType_codes (Q₁ := fun v s₁ => v = .ref s.heap.objs.size ∧ s₁ = { s with heap := s.heap.push plainObj }) called_object typeCall_object entry_object_init (code_object_new ⟨rfl, rfl⟩) ?_
  rintro obj s₁ ⟨rfl, rfl⟩
  refine ⟨⟨_, Heap.get?_push_size _ rfl, rfl⟩, args_object_init _, ?_⟩
  unfold Builtin.«object.__init__»
  refine wpAny_pure ⟨rfl, ?_⟩
  exact h _ _ (F.push _) (News.push F N _) fun p hp => Heap.lt_size (N p hp).1
end
example : True := by
  k_with "call type:object" =>
    ((k_here; (with_reducible show wpAny _ _ (call (Value.type "object") []) _ _ _); refine' Mine.call_object ?m1987 ?m2987 ?_; (case m1987 => k_asm); (case m2987 => k_asm); intro _ _ _ _ _))
  trivial
end
section
open PySem PySem.W PyProof.Rows PySem.Calls
set_option maxRecDepth 100000
set_option maxHeartbeats 8000000
theorem SpecG.use {w : World} {f : Addr} {vs : List Value} {Pre : List (Addr × Obj) → Prop} {Out : List (Addr × Obj) → Value → Prop} (C : SpecG w f vs Pre Out)
    {dp un : Nat} {gd : Option (List Code)} {cn : Str} {cs : Scope} {a : Addr} {ccd : Value} {cl : List (Str × Addr)} {outer : List Env} {A₀ : Around} {base h₀ : Heap} {L : Addr} {m : Str → Option Value}
    {p : Program} {loose : List Str} {mean : ExcName → Option Value} {mg mb : Str → Option Value} {rest : List (Addr × Obj)} {ts : Array Value} {s : Shared} {Q E : Value → Shared → Prop}
    (B : Below A₀ base outer h₀) (F : Fr h₀ L s.heap m) (X : (Mine.hp.heap_1 w.params).In h₀) (N : News h₀ L s.heap ((57, tabObj ts) :: rest)) (T : Top p loose mean mg mb h₀) (hk : cs.kind = .function) (G : AllBare s.gens)
    (hap : ∀ p ∈ rest, p.1 ≠ 57) (htr : TriplesR ts.toList) (hpre : Pre rest) (hd : dp + 20 < recursionLimit) (hu : un + 120 < cLine)
    (ret : ∀ r ts' tl h' tk' gs', AllBare gs' → Fr h₀ L h' m → News h₀ L h' (((57, tabObj ts') :: rest) ++ tl) → TriplesR ts'.toList → (∀ p ∈ tl, p.1 ≠ 57) → (∀ q ∈ rest, ∀ p ∈ tl, q.1 < p.1) → Out (rest ++ tl) r → Q r { s with heap := h', toks := tk', gens := gs' }) :
    wpAny (model PR w) (ktrTop dp un gd cn cs L a ccd cl outer) (call (.ref f) vs) Q E s :=
  C _ _ _ _ _ _ _ _ _ _ _ _ _ _ _ _ _ _ _ _ _ _ _ _ B F X N T hk G hap htr hpre hd hu ret
noncomputable def SpecH (w : World) (f : Addr) (vs : List Value) (Pre : List (Addr × Obj) → Prop) (Out : List (Addr × Obj) → Value → Prop) : Prop :=
  ∀ (dp un : Nat) (gd : Option (List Code)) (cn : Str) (cs : Scope) (a : Addr) (ccd : Value) (cl : List (Str × Addr)) (outer : List Env) (A₀ : Around) (base h₀ : Heap) (L : Addr) (m : Str → Option Value)
    (p : Program) (loose : List Str) (mean : ExcName → Option Value) (mg mb : Str → Option Value) (rest : List (Addr × Obj)) (ts : Array Value) (s : Shared) (Q E : Value → Shared → Prop),
    Below A₀ base outer h₀ → Fr h₀ L s.heap m → (hp.heap_1 w.params).In h₀ → News h₀ L s.heap ((57, tabObj ts) :: rest) → Top p loose mean mg mb h₀ → cs.kind = .function → AllBare s.gens →
    (∀ p ∈ rest, p.1 ≠ 57) → TriplesR ts.toList → Pre rest → dp + 30 < recursionLimit → un + 200 < cLine →
    (∀ r ts' tl h' tk' gs', AllBare gs' → Fr h₀ L h' m → News h₀ L h' (((57, tabObj ts') :: rest) ++ tl) → TriplesR ts'.toList → (∀ p ∈ tl, p.1 ≠ 57) → (∀ q ∈ rest, ∀ p ∈ tl, q.1 < p.1) → Out (rest ++ tl) r → 0 < tk' → Q r { s with heap := h', toks := tk', gens := gs' }) →
    wpAny (model PR w) (ktrTop dp un gd cn cs L a ccd cl outer) (call (.ref f) vs) Q E s
theorem dp_ok4 {dp : Nat} (h : dp + 30 < recursionLimit) : dp + 1 + 20 < recursionLimit := Nat.lt_of_le_of_lt (by omega) h
theorem un_ok4 {un : Nat} (h : un + 200 < cLine) : un + 3 + 120 < cLine := Nat.lt_of_le_of_lt (by omega) h
theorem dp_ok5 {dp : Nat} (h : dp + 30 < recursionLimit) : dp + 1 + 3 < recursionLimit := Nat.lt_of_le_of_lt (by omega) h
theorem un_ok5 {un : Nat} (h : un + 200 < cLine) : un + 3 + 30 < cLine := Nat.lt_of_le_of_lt (by omega) h
theorem news_swap {h₀ h : Heap} {L : Addr} {a b : Addr × Obj} {r : List (Addr × Obj)} (N : News h₀ L h (a :: b :: r)) : News h₀ L h (b :: a :: r) := fun p hp => by
  rcases List.mem_cons.mp hp with rfl | hp
  · exact N _ (.tail _ (.head _))
  · rcases List.mem_cons.mp hp with rfl | hp
    · exact N _ (.head _)
    · exact N p (.tail _ (.tail _ hp))
theorem translw (w : World) (its : List It) (ok : ∀ it ∈ its, it.Ok) (t : Tok) (hsz : (patText its).length ≤ 1000) (hsz2 : its.length ≤ 100) (hdd : NoDD (pieces its)) (hb : (bodyOf (pieces its)).length ≤ 90000) (hpl : (pieces its).length ≤ 40000) :
    SpecH w 43 [.str (S (patText its)) t] (fun _ => True) (fun _ r => ∃ t, r = .str (S (joinedT (pieces its))) t) := by
  unfold SpecH PR
  k_fill
  intro dp un gd cn cs a ccd cl outer A₀ base h₀ L m p loose mean mg mb rest ts s Q E B F X N T hk G hap htr _ hd hu hret
  refine wpAny_call ?_
  k_dflt cell_enter
  refine letA ?_
  intro A1
  refine letV ?_
  intro e1
  k_steps
  rename_i g' L' hh0 FG' B' X' T' o hh1 lt1 hh2 F1 N1
  show wpAny _ _ _ _ _ _
  try k_fold
  have ho57 : o ≠ 57 := Nat.ne_of_gt (lt1 (57, tabObj ts) (.head _))
  have hap2 : ∀ p ∈ (o, plainObj) :: rest, p.1 ≠ 57 := fun p hp => by
    rcases List.mem_cons.mp hp with rfl | hp
    · exact ho57
    · exact hap p hp
  refine (trans w its ok _ _ (.ref o) (.inr ⟨o, rfl⟩) hsz hsz2).use B' F1 X' (news_swap N1) T' rfl G hap2 htr trivial (dp_ok4 hd) (un_ok4 hu) fun r ts' tl h' tk' gs' G2 F2 N2 htr2 htl hord hout => ?_
  obtain ⟨l, ys, n0, rfl, hmem, hps⟩ := hout
  k_steps
  refine (joinw w (.ref o) (.inr ⟨o, rfl⟩) (pieces its) ys n0 l hps hdd hb hpl).use B' (by assumption) X' (by assumption) T' rfl (.tail _ hmem) (dp_ok5 hd) (un_ok5 hu) fun r tl2 h' tk' F3 N3 _ hout hpos => ?_
  obtain ⟨t', rfl⟩ := hout
  k_steps
  refine hret _ ts' [] _ _ _ G2 (by assumption) (news_sub (by assumption) fun p hp => ?_) htr2 (fun _ q => nomatch q) (fun _ _ _ q => nomatch q) ⟨_, rfl⟩ hpos
  rw [List.append_nil] at hp
  rcases List.mem_cons.mp hp with rfl | hp
  · exact .head _
  · exact .tail _ (.tail _ (List.mem_append.mpr (.inl (List.mem_append.mpr (.inl hp)))))
end
section
open PySem PySem.W PyProof.Rows PySem.Calls
set_option maxRecDepth 100000
set_option maxHeartbeats 4000000
inductive CEnd (h₀ : Heap) (L : Addr) (m : Str → Option Value) (s₁ : Shared) (I : Addr) (oI : Obj) (C : Addr) (oC : Obj) (D : Addr) (ys : List Value) (led : List (Addr × Obj)) (P : Value → Prop) (y : Value) (s₂ : Shared) : Prop
  | mk (h' tk : _) (h1 : s₂ = { s₁ with heap := h', toks := tk }) (h2 : Fr h₀ L h' m) (h3 : News h₀ L h' ((I, oI) :: (C, oC) :: (D, LCg.lst ys) :: led)) (h4 : P y) : CEnd h₀ L m s₁ I oI C oC D ys led P y s₂
theorem cend {h₀ : Heap} {L I C D : Addr} {m : Str → Option Value} {s₁ : Shared} {oI oC : Obj} {ys : List Value} {led : List (Addr × Obj)} {P : Value → Prop} {y : Value} {h' : Heap} {tk : Nat} (F : Fr h₀ L h' m) (N : News h₀ L h' ((I, oI) :: (C, oC) :: (D, LCg.lst ys) :: led)) (h : P y) :
    CEnd h₀ L m s₁ I oI C oC D ys led P y { s₁ with heap := h', toks := tk } := ⟨h', tk, rfl, F, N, h⟩
inductive SrcIs (h₀ : Heap) (L : Addr) (m : Str → Option Value) (s : Shared) (vs : List Value) (led : List (Addr × Obj)) (v : Value) (s₁ : Shared) : Prop
  | mk (ax k h tk : _) (h1 : v = .ref ax) (h2 : s₁ = { s with heap := h, toks := tk }) (h3 : Fr h₀ L h m) (h4 : News h₀ L h ((ax, listOf vs.toArray k) :: led)) : SrcIs h₀ L m s vs led v s₁
section
variable {prog : Program} {w : World} {A : Around} {E : Value → Shared → Prop} {s : Shared} {env : Env} {h₀ : Heap} {L : Addr} {m : Str → Option Value} {led : List (Addr × Obj)}
theorem comp_T {ct elt iter : PySem.Expr} {x : Str} {px : Pos} {scope : Scope} {cl : List (Str × Addr)} {pos : Pos} {Q : Value → Shared → Prop} {ax : Addr} {vs : List Value} {k : Nat} (K : Nat → List Value → Prop) (F : Fr h₀ L s.heap m) (N : News h₀ L s.heap led) (hm : (ax, listOf vs.toArray k) ∈ led) (hsz : vs.length ≤ 100000)
    (hit : ∀ Q : Value → Shared → Prop, Q (.ref ax) s → wpAny (model prog w) A (eval iter env) Q E s) (K0 : K 0 [])
    (leaf : ∀ E' i v ys I oI C oC D m₂ h tk, vs[i]? = some v → K i ys → LCg.NsObj oC m₂ → m₂ x = some v → Fr h₀ L h m → News h₀ L h ((I, oI) :: (C, oC) :: (D, LCg.lst ys) :: led) →
      wpAny (model prog w) A (isTrue ct (compEnvC scope cl C env) (eval ct (compEnvC scope cl C env))) (fun ok s' => if ok = true then
        wpAny (model prog w) A (eval elt (compEnvC scope cl C env)) (CEnd h₀ L m { s with heap := h, toks := tk } I oI C oC D ys led (fun y => K (i + 1) (ys ++ [y]))) E' s'
        else CEnd h₀ L m { s with heap := h, toks := tk } I oI C oC D ys led (fun _ => K (i + 1) ys) .none s') E' { s with heap := h, toks := tk })
    (hQ : ∀ D ys h tk, K vs.length ys → Fr h₀ L h m → News h₀ L h ((D, listOf ys.toArray ys.length) :: led) → Apart D led → Q (.ref D) { s with heap := h, toks := tk })
    (hh : A.handled = none) (hclos : closureFor scope env = pure cl) (hcell : ∀ y ∈ scope.names, y.2 ≠ .cell) (hkind : scope.kind = .function)
    (hnames : ∀ y ∈ scope.names, y.2 = .local → scope.names.lookup y.1 = some .local) (hx : scope.names.lookup x = some .local)
    (hs : ∀ x, foldedSetIterable iter env x = pure x) :
    wpAny (model prog w) A (eval (.ListComp elt [⟨.Name x px, iter, [ct], 0⟩] scope pos) env) Q E s := by
  refine LCt.ListComp_T F hclos hcell hkind hnames hx (hit _ ?_) hs
  refine LCt.CompSrcT.ledger hh F N hm (by rw [List.size_toArray, sizeLine_eq]; lia) fun g => ?_
  have key : ∀ j i ys, i + j = vs.length → K i ys → LCt.CompRestT prog w A h₀ L m env ct elt x scope cl { s with heap := g } (LCg.SrcAt h₀ ax vs.toArray) (fun i v => vs.toArray[i]? = some v) (LCg.FinE h₀ L m { s with heap := g } Q) j i ys led := by
    intro j
    induction j with
    | zero =>
      intro i ys hi hK
      refine LCt.CompRestT.zero fun D h tk F' N' o1 => hQ D ys h tk (by rw [← hi]; exact hK) F' N' ?_
      intro p hp
      have : ∀ (l : List (Addr × Obj)), LCg.Off1 D l → ∀ p ∈ l, p.1 ≠ D := by
        intro l
        induction l with
        | nil => intro _ p hp; cases hp
        | cons q r ih =>
          intro h p hp
          rcases List.mem_cons.mp hp with rfl | hp
          · exact h.1
          · exact ih h.2 p hp
      exact this led o1 p hp
    | succ j ih =>
      intro i ys hi hK
      refine LCt.CompRestT.succ fun v I oI C oC D m₂ h tk E' hv hC hx' F' N' off ne => ?_
      have hS : LCg.SrcAt h₀ ax vs.toArray led := .inr ⟨_, hm, rfl, k, rfl⟩
      refine wpAny_mono (leaf E' i v ys I oI C oC D m₂ h tk (by simpa using hv) hK hC hx' F' N') (fun ok s' hk => ?_) fun _ _ e => e
      cases ok with
      | true =>
        simp only [if_true] at hk ⊢
        refine wpAny_mono hk (fun y s₂ hy => ?_) fun _ _ e => e
        obtain ⟨h', tk', rfl, F₂, N₂, hK'⟩ := hy
        exact ⟨h', tk', led, rfl, F₂, N₂, off, hS, ih (i + 1) _ (by lia) hK'⟩
      | false =>
        simp only [Bool.false_eq_true, if_false] at hk ⊢
        obtain ⟨h', tk', rfl, F₂, N₂, hK'⟩ := hk
        exact ⟨h', tk', led, rfl, F₂, N₂, off, hS, ih (i + 1) _ (by lia) hK'⟩
  have := key vs.length 0 [] (by lia) K0
  rw [List.size_toArray]
  exact this
theorem comp_U {elt iter : PySem.Expr} {x : Str} {px : Pos} {scope : Scope} {cl : List (Str × Addr)} {pos : Pos} {Q : Value → Shared → Prop} {ax : Addr} {vs : List Value} {k : Nat} (K : Nat → List Value → Prop) (F : Fr h₀ L s.heap m) (N : News h₀ L s.heap led) (hm : (ax, listOf vs.toArray k) ∈ led) (hsz : vs.length ≤ 100000)
    (hit : ∀ Q : Value → Shared → Prop, Q (.ref ax) s → wpAny (model prog w) A (eval iter env) Q E s) (K0 : K 0 [])
    (leaf : ∀ E' i v ys I oI C oC D m₂ h tk, vs[i]? = some v → K i ys → LCg.NsObj oC m₂ → m₂ x = some v → Fr h₀ L h m → News h₀ L h ((I, oI) :: (C, oC) :: (D, LCg.lst ys) :: led) →
      wpAny (model prog w) A (eval elt (compEnvC scope cl C env)) (CEnd h₀ L m { s with heap := h, toks := tk } I oI C oC D ys led (fun y => K (i + 1) (ys ++ [y]))) E' { s with heap := h, toks := tk })
    (hQ : ∀ D ys h tk, K vs.length ys → Fr h₀ L h m → News h₀ L h ((D, listOf ys.toArray ys.length) :: led) → Apart D led → Q (.ref D) { s with heap := h, toks := tk })
    (hh : A.handled = none) (hclos : closureFor scope env = pure cl) (hcell : ∀ y ∈ scope.names, y.2 ≠ .cell) (hkind : scope.kind = .function)
    (hnames : ∀ y ∈ scope.names, y.2 = .local → scope.names.lookup y.1 = some .local) (hx : scope.names.lookup x = some .local)
    (hs : ∀ x, foldedSetIterable iter env x = pure x) :
    wpAny (model prog w) A (eval (.ListComp elt [⟨.Name x px, iter, [], 0⟩] scope pos) env) Q E s := by
  refine LCg.ListComp_U F hclos hcell hkind hnames hx (hit _ ?_) hs
  refine LCg.CompSrc.ledger hh F N hm (by rw [List.size_toArray, sizeLine_eq]; lia) fun g => ?_
  have key : ∀ j i ys, i + j = vs.length → K i ys → LCg.CompRest prog w A h₀ L m env elt x scope cl { s with heap := g } (LCg.SrcAt h₀ ax vs.toArray) (fun i v => vs.toArray[i]? = some v) (LCg.FinE h₀ L m { s with heap := g } Q) j i ys led := by
    intro j
    induction j with
    | zero =>
      intro i ys hi hK
      refine LCg.CompRest.zero fun D h tk F' N' o1 => hQ D ys h tk (by rw [← hi]; exact hK) F' N' ?_
      intro p hp
      have : ∀ (l : List (Addr × Obj)), LCg.Off1 D l → ∀ p ∈ l, p.1 ≠ D := by
        intro l
        induction l with
        | nil => intro _ p hp; cases hp
        | cons q r ih =>
          intro h p hp
          rcases List.mem_cons.mp hp with rfl | hp
          · exact h.1
          · exact ih h.2 p hp
      exact this led o1 p hp
    | succ j ih =>
      intro i ys hi hK
      refine LCg.CompRest.succ fun v I oI C oC D m₂ h tk E' hv hC hx' F' N' off ne => ?_
      have hS : LCg.SrcAt h₀ ax vs.toArray led := .inr ⟨_, hm, rfl, k, rfl⟩
      refine wpAny_mono (leaf E' i v ys I oI C oC D m₂ h tk (by simpa using hv) hK hC hx' F' N') (fun y s₂ hy => ?_) fun _ _ e => e
      obtain ⟨h', tk', rfl, F₂, N₂, hK'⟩ := hy
      exact ⟨h', tk', led, rfl, F₂, N₂, off, hS, ih (i + 1) _ (by lia) hK'⟩
  have := key vs.length 0 [] (by lia) K0
  rw [List.size_toArray]
  exact this
theorem comp_U2 {elt iter : PySem.Expr} {x : Str} {px : Pos} {scope : Scope} {cl : List (Str × Addr)} {pos : Pos} {Q : Value → Shared → Prop} {vs : List Value} (K : Nat → List Value → Prop) (F₀ : Fr h₀ L s.heap m) (hsz : vs.length ≤ 100000)
    (hit : wpAny (model prog w) A (eval iter env) (SrcIs h₀ L m s vs led) E s) (K0 : K 0 [])
    (leaf : ∀ ax k E' i v ys I oI C oC D m₂ h tk, vs[i]? = some v → K i ys → LCg.NsObj oC m₂ → m₂ x = some v → Fr h₀ L h m → News h₀ L h ((I, oI) :: (C, oC) :: (D, LCg.lst ys) :: (ax, listOf vs.toArray k) :: led) →
      wpAny (model prog w) A (eval elt (compEnvC scope cl C env)) (CEnd h₀ L m { s with heap := h, toks := tk } I oI C oC D ys ((ax, listOf vs.toArray k) :: led) (fun y => K (i + 1) (ys ++ [y]))) E' { s with heap := h, toks := tk })
    (hQ : ∀ D ys h tk, K vs.length ys → Fr h₀ L h m → News h₀ L h ((D, listOf ys.toArray ys.length) :: led) → Apart D led → Q (.ref D) { s with heap := h, toks := tk })
    (hh : A.handled = none) (hclos : closureFor scope env = pure cl) (hcell : ∀ y ∈ scope.names, y.2 ≠ .cell) (hkind : scope.kind = .function)
    (hnames : ∀ y ∈ scope.names, y.2 = .local → scope.names.lookup y.1 = some .local) (hx : scope.names.lookup x = some .local)
    (hs : ∀ x, foldedSetIterable iter env x = pure x) :
    wpAny (model prog w) A (eval (.ListComp elt [⟨.Name x px, iter, [], 0⟩] scope pos) env) Q E s := by
  refine LCg.ListComp_U F₀ hclos hcell hkind hnames hx (wpAny_mono hit (fun v s₁ hv => ?_) fun _ _ e => e) hs
  obtain ⟨ax, k, h, tk, rfl, rfl, F, N⟩ := hv
  have hm : (ax, listOf vs.toArray k) ∈ (ax, listOf vs.toArray k) :: led := .head _
  refine LCg.CompSrc.ledger hh F N hm (by rw [List.size_toArray, sizeLine_eq]; lia) fun g => ?_
  have key : ∀ j i ys, i + j = vs.length → K i ys → LCg.CompRest prog w A h₀ L m env elt x scope cl { s with heap := g, toks := tk } (LCg.SrcAt h₀ ax vs.toArray) (fun i v => vs.toArray[i]? = some v) (LCg.FinE h₀ L m { s with heap := g, toks := tk } Q) j i ys ((ax, listOf vs.toArray k) :: led) := by
    intro j
    induction j with
    | zero =>
      intro i ys hi hK
      refine LCg.CompRest.zero fun D h tk F' N' o1 => hQ D ys h tk (by rw [← hi]; exact hK) F' (fun p hp => N' p (by rcases List.mem_cons.mp hp with rfl | hp; exact .head _; exact .tail _ (.tail _ hp))) ?_
      intro p hp
      have : ∀ (l : List (Addr × Obj)), LCg.Off1 D l → ∀ p ∈ l, p.1 ≠ D := by
        intro l
        induction l with
        | nil => intro _ p hp; cases hp
        | cons q r ih =>
          intro h p hp
          rcases List.mem_cons.mp hp with rfl | hp
          · exact h.1
          · exact ih h.2 p hp
      exact this led o1.2 p hp
    | succ j ih =>
      intro i ys hi hK
      refine LCg.CompRest.succ fun v I oI C oC D m₂ h tk E' hv hC hx' F' N' off ne => ?_
      have hS : LCg.SrcAt h₀ ax vs.toArray ((ax, listOf vs.toArray k) :: led) := .inr ⟨_, hm, rfl, k, rfl⟩
      refine wpAny_mono (leaf ax k E' i v ys I oI C oC D m₂ h tk (by simpa using hv) hK hC hx' F' N') (fun y s₂ hy => ?_) fun _ _ e => e
      obtain ⟨h', tk', rfl, F₂, N₂, hK'⟩ := hy
      exact ⟨h', tk', _, rfl, F₂, N₂, off, hS, ih (i + 1) _ (by lia) hK'⟩
  have := key vs.length 0 [] (by lia) K0
  rw [List.size_toArray]
  exact this
theorem in_T {x : List Nat} {c : Nat} {t u : Tok} {Q : Value → Shared → Prop} (h : c ∈ x) (hQ : Q (.bool true) s) : wpAny (model prog w) A (compareOp .In (.str (S [c]) u) (.str (S x) t)) Q E s := by
  refine P.in_str ?_
  rw [show (S [c] : Str) = ⟨#[c]⟩ from rfl, StrLaws.found_one, S_toList, decide_eq_true h]
  exact hQ
theorem in_F {x : List Nat} {c : Nat} {t u : Tok} {Q : Value → Shared → Prop} (h : c ∉ x) (hQ : Q (.bool false) s) : wpAny (model prog w) A (compareOp .In (.str (S [c]) u) (.str (S x) t)) Q E s := by
  refine P.in_str ?_
  rw [show (S [c] : Str) = ⟨#[c]⟩ from rfl, StrLaws.found_one, S_toList, decide_eq_false h]
  exact hQ
end
example : True := by
  k_with "compareOp In str str" =>
    ((refine' Mine.in_T ?m1988 ?_; (case m1988 => assumption)))
  trivial
example : True := by
  k_with "compareOp In str str" =>
    ((refine' Mine.in_F ?m1989 ?_; (case m1989 => assumption)))
  trivial
end
section
theorem LocW13.hereW13 : True := trivial
open LocW13
open PySem PySem.W PyProof.Rows PySem.Calls
set_option maxRecDepth 100000
set_option maxHeartbeats 8000000
example : True := by
  k_with "k_mem" =>
    (fail_if_success (fail_if_success (have := hereW13)))
    (assumption)
  trivial
example : True := by
  k_with "eval ListComp" =>
    (fail_if_success (fail_if_success (have := hereW13)))
    ((refine halt ?_))
  trivial
noncomputable def It.kind : It → Int
  | .star => 0
  | .qm => 1
  | .lit _ => 4
  | .br neg _ => brKind neg
theorem kind_e1 : It.kind .star = 0 := rfl
theorem kind_e2 : It.kind .qm = 1 := rfl
theorem kind_e3 {c : Nat} : It.kind (.lit c) = 4 := rfl
theorem kind_e4 {neg : Bool} {ms : List (List Nat)} : It.kind (.br neg ms) = brKind neg := rfl
noncomputable def It.mem : It → List (List Nat)
  | .star => []
  | .qm => []
  | .lit c => [[c]]
  | .br _ ms => ms
theorem mem_tx {news : List (Addr × Obj)} : ∀ {ms : List (List Nat)} {vs : List Value}, DatAll news vs (ms.map fun t => .str (S t)) → TxAre vs ms
  | [], _, h => by cases h; exact .nil
  | t :: ts, _, h => by
    cases h with
    | cons h1 h2 =>
    cases h1
    exact .cons (mem_tx h2)
theorem news_nil {h₀ h : Heap} {L : Addr} {news : List (Addr × Obj)} (N : News h₀ L h news) : News h₀ L h (news ++ []) := by rw [List.append_nil]; exact N
theorem mem_pos {m : List Nat} (h : m ∈ mtab) : 1 ≤ m.length := by
  have := (by decide : ∀ m ∈ mtab, 1 ≤ m.length)
  exact this m h
theorem flat_count : ∀ {ms : List (List Nat)}, (∀ m ∈ ms, m ∈ mtab) → ms.length ≤ ms.flatten.length
  | [], _ => by simp
  | m :: ms, h => by
    have h1 := mem_pos (h m (.head _))
    have h2 := flat_count fun m hm => h m (.tail _ hm)
    simp only [List.length_cons, List.flatten_cons, List.length_append]; lia
theorem br_len {neg : Bool} {ms : List (List Nat)} (ok : (It.br neg ms).Ok) (h : (It.br neg ms).text.length ≤ 1000) : ms.length ≤ 1000 ∧ ms.flatten.length ≤ 1000 := by
  have h1 := flat_count ok.2
  have h2 : (It.br neg ms).text.length = (if neg = true then [91, 33] else [91]).length + ms.flatten.length + 1 := by unfold It.text; simp only [List.length_append, List.length_singleton]
  lia
theorem kept_skip {ms : List (List Nat)} {ys : List Value} {i : Nat} {x : List Nat} (hx : ms[i]? = some x) (h : x = [98, 45, 97]) (hK : TxAre ys ((ms.take i).filter (· ≠ [98, 45, 97]))) : TxAre ys ((ms.take (i + 1)).filter (· ≠ [98, 45, 97])) := by
  rw [List.take_add_one, hx, List.filter_append]
  simpa [h] using hK
theorem kept_add {ms : List (List Nat)} {ys : List Value} {i : Nat} {x : List Nat} {t : Tok} (hx : ms[i]? = some x) (h : x ≠ [98, 45, 97]) (hK : TxAre ys ((ms.take i).filter (· ≠ [98, 45, 97]))) : TxAre (ys ++ [.str (S x) t]) ((ms.take (i + 1)).filter (· ≠ [98, 45, 97])) := by
  rw [List.take_add_one, hx, List.filter_append]
  have e : (some x).toList.filter (· ≠ [98, 45, 97]) = [x] := by simp [h]
  rw [e]
  exact hK.snoc
theorem kept_nil_false {ms : List (List Nat)} (h : kept ms = []) : pieceOf (.br false ms) = some [40, 63, 33, 41] := piece_f0 h
theorem kept_nil_true {ms : List (List Nat)} (h : kept ms = []) : pieceOf (.br true ms) = some [46] := piece_t0 h
theorem kept_cons_false {ms : List (List Nat)} {c : Nat} {r : List Nat} (h : kept ms = c :: r) : pieceOf (.br false ms) = some ([91] ++ (c :: r) ++ [93]) := piece_f1 h
theorem kept_cons_true {ms : List (List Nat)} {c : Nat} {r : List Nat} (h : kept ms = c :: r) : pieceOf (.br true ms) = some ([91, 94] ++ (c :: r) ++ [93]) := piece_t1 h
example : True := by
  k_with "exec If UnaryOp cons nil" =>
    (fail_if_success (fail_if_success (have := hereW13)))
    ((refine halt ?_))
  trivial
theorem take_all {ms : List (List Nat)} {vs ys : List Value} (hT : TxAre vs ms) (hK : TxAre ys ((ms.take vs.length).filter (· ≠ [98, 45, 97]))) : TxAre ys (ms.filter (· ≠ [98, 45, 97])) := by
  rw [hT.len, List.take_length] at hK; exact hK
theorem piecew (w : World) (it : It) (ok : it.Ok) (t : Tok) (r : Value) (hsz : it.text.length ≤ 1000) : Spec w 122 [.int it.kind t, r] (fun news => DatIn news r (mems it.mem)) (fun _ v => PcIs .none v (pieceOf it)) := by
  unfold Spec PR
  k_fill
  intro dp un gd cn cs a ccd cl outer A₀ base h₀ L m p loose mean mg mb news s Q E B F X N T hk hpre hd hu hret
  cases hpre with
  | @list l vs nn ds hl hall =>
  have hT := mem_tx hall
  refine wpAny_call ?_
  k_dflt cell_enter
  refine letA ?_
  intro A1
  refine letV ?_
  intro e1
  cases it with
  | star =>
    dsimp only [kind_e1, kind_e2, kind_e3, kind_e4] at *
    k_steps
    exact hret _ [] _ _ (by assumption) (news_nil (by assumption)) (by simp) rfl
  | qm =>
    dsimp only [kind_e1, kind_e2, kind_e3, kind_e4] at *
    k_steps
    exact hret _ [] _ _ (by assumption) (news_nil (by assumption)) (by simp) ⟨_, rfl⟩
  | lit c =>
    dsimp only [kind_e1, kind_e2, kind_e3, kind_e4] at *
    obtain ⟨tc, vs', rfl, hT'⟩ := hT.cons_inv
    by_cases hs : c ∈ spec
    · have e : escd c = [92] ++ [c] := if_pos (List.contains_iff_mem.mpr hs)
      unfold spec at hs
      k_steps
      exact hret _ [] _ _ (by assumption) (news_nil (by assumption)) (by simp) ⟨_, by rw [e]⟩
    · have e : escd c = [] ++ [c] := if_neg fun q => hs (List.contains_iff_mem.mp q)
      unfold spec at hs
      k_steps
      exact hret _ [] _ _ (by assumption) (news_nil (by assumption)) (by simp) ⟨_, by rw [e]⟩
  | br neg ms =>
    replace hT : TxAre vs ms := hT
    have hml : ms.length ≤ 1000 ∧ ms.flatten.length ≤ 1000 := br_len ok hsz
    have hvl : vs.length ≤ 100000 := by rw [hT.len]; exact Nat.le_trans hml.1 (by decide)
    cases neg with
    | false =>
      dsimp only [kind_e1, kind_e2, kind_e3, kind_e4, brKind_e1, brKind_e2] at *
      k_steps
      (rename Fr _ _ _ _ => FF)
      (rename News _ _ _ _ => NN)
      show wpAny _ _ _ _ _ _
      try k_fold
      refine comp_T (cl := []) (fun i ys => TxAre ys ((ms.take i).filter (· ≠ [98, 45, 97]))) FF NN hl hvl (fun Q hq => ld FF rfl hq) .nil (fun E' i v ys I oI C oC D m₂ h tk hv hK hC hx F' N' => ?_) (fun D ys h tk hK F' N' hap => ?_) rfl rfl (by decide) rfl (by decide) rfl (fun _ => rfl)
      · obtain ⟨x, tx, hx1, rfl⟩ := hT.get hv
        by_cases hx2 : x = [98, 45, 97]
        · k_steps
          exact cend (by assumption) (by assumption) (kept_skip hx1 hx2 hK)
        · k_steps
          exact cend (by assumption) (by assumption) (kept_add hx1 hx2 hK)
      · replace hK := take_all hT hK
        have hkl := kept_len ms
        obtain ⟨tsx, hts, hfl⟩ : ∃ z, z = ms.filter (· ≠ [98, 45, 97]) ∧ z.flatten = kept ms := ⟨_, rfl, rfl⟩
        rw [← hts] at hK
        have hjl : tsx.flatten.length ≤ 100000 := by rw [hfl]; omega
        clear hts
        k_steps
        (rename Fr _ _ _ _ => FG)
        rw [hfl] at FG
        rcases hk0 : kept ms with _ | ⟨c, r⟩
        · rw [hk0] at FG
          refine wpAny_If ?_
          k_steps
          exact hret _ [] _ _ (by assumption) (news_nil (news_sub (by assumption) fun p hp => .tail _ hp)) (by simp) (by rw [kept_nil_false hk0]; exact ⟨_, rfl⟩)
        · rw [hk0] at FG
          have hne : c :: r ≠ [] := by simp
          have hr0 : r.length ≤ 1000 := by rw [hk0, List.length_cons] at hkl; omega
          have hl1 : (c :: r).length ≤ 100000 := by rw [List.length_cons]; omega
          refine wpAny_If ?_
          k_steps
          exact hret _ [] _ _ (by assumption) (news_nil (news_sub (by assumption) fun p hp => .tail _ hp)) (by simp) (by rw [kept_cons_false hk0]; exact ⟨_, rfl⟩)
    | true =>
      dsimp only [kind_e1, kind_e2, kind_e3, kind_e4, brKind_e1, brKind_e2] at *
      k_steps
      (rename Fr _ _ _ _ => FF)
      (rename News _ _ _ _ => NN)
      show wpAny _ _ _ _ _ _
      try k_fold
      refine comp_T (cl := []) (fun i ys => TxAre ys ((ms.take i).filter (· ≠ [98, 45, 97]))) FF NN hl hvl (fun Q hq => ld FF rfl hq) .nil (fun E' i v ys I oI C oC D m₂ h tk hv hK hC hx F' N' => ?_) (fun D ys h tk hK F' N' hap => ?_) rfl rfl (by decide) rfl (by decide) rfl (fun _ => rfl)
      · obtain ⟨x, tx, hx1, rfl⟩ := hT.get hv
        by_cases hx2 : x = [98, 45, 97]
        · k_steps
          exact cend (by assumption) (by assumption) (kept_skip hx1 hx2 hK)
        · k_steps
          exact cend (by assumption) (by assumption) (kept_add hx1 hx2 hK)
      · replace hK := take_all hT hK
        have hkl := kept_len ms
        obtain ⟨tsx, hts, hfl⟩ : ∃ z, z = ms.filter (· ≠ [98, 45, 97]) ∧ z.flatten = kept ms := ⟨_, rfl, rfl⟩
        rw [← hts] at hK
        have hjl : tsx.flatten.length ≤ 100000 := by rw [hfl]; omega
        clear hts
        k_steps
        (rename Fr _ _ _ _ => FG)
        rw [hfl] at FG
        rcases hk0 : kept ms with _ | ⟨c, r⟩
        · rw [hk0] at FG
          refine wpAny_If ?_
          k_steps
          exact hret _ [] _ _ (by assumption) (news_nil (news_sub (by assumption) fun p hp => .tail _ hp)) (by simp) (by rw [kept_nil_true hk0]; exact ⟨_, rfl⟩)
        · rw [hk0] at FG
          have hne : c :: r ≠ [] := by simp
          have hr0 : r.length ≤ 1000 := by rw [hk0, List.length_cons] at hkl; omega
          have hl1 : (c :: r).length ≤ 100000 := by rw [List.length_cons]; omega
          refine wpAny_If ?_
          k_steps
          exact hret _ [] _ _ (by assumption) (news_nil (news_sub (by assumption) fun p hp => .tail _ hp)) (by simp) (by rw [kept_cons_true hk0]; exact ⟨_, rfl⟩)
end
section
theorem LocW14.hereW14 : True := trivial
open LocW14
open PySem PySem.W PyProof.Rows PySem.Calls
set_option maxRecDepth 100000
set_option maxHeartbeats 8000000
example : True := by
  k_with "exec For Tuple Name cons nil" =>
    (fail_if_success (fail_if_success (have := hereW14)))
    ((refine halt ?_))
  trivial
example : True := by
  k_with "truthy ref" =>
    (fail_if_success (fail_if_success (have := hereW14)))
    ((k_here; refine' Mine.truthy_nil ?mtnN994 ?mtnl994 ?_; (case mtnN994 => k_asm); (case mtnl994 => k_dflt k_mem); intro _))
  trivial
example : True := by
  k_with "truthy ref" =>
    (fail_if_success (fail_if_success (have := hereW14)))
    ((k_here; refine' Mine.truthy_snoc ?mtnN995 ?mtnl995 ?mtnz995 ?_; (case mtnN995 => k_asm); (case mtnl995 => k_dflt k_mem); (case mtnz995 => assumption); intro _))
  trivial
theorem it_dat {news : List (Addr × Obj)} {v : Value} {it : It} (h : DatIn news v it.dat) : ∃ a n t r, v = .ref a ∧ (a, tupOf [.int it.kind t, r] n) ∈ news ∧ DatIn news r (mems it.mem) := by
  have e : it.dat = .tuple [.int it.kind, mems it.mem] := by cases it <;> rfl
  rw [e] at h
  exact dat_two h
theorem dp_ok6 {dp : Nat} (h : dp + 10 < recursionLimit) : dp + 1 + 3 < recursionLimit := Nat.lt_of_le_of_lt (by lia) h
theorem un_ok6 {un : Nat} (h : un + 60 < cLine) : un + 3 + 30 < cLine := Nat.lt_of_le_of_lt (by lia) h
noncomputable def Spec2 (w : World) (f : Addr) (vs : List Value) (Pre : List (Addr × Obj) → Prop) (Out : List (Addr × Obj) → Value → Prop) : Prop :=
  ∀ (dp un : Nat) (gd : Option (List Code)) (cn : Str) (cs : Scope) (a : Addr) (ccd : Value) (cl : List (Str × Addr)) (outer : List Env) (A₀ : Around) (base h₀ : Heap) (L : Addr) (m : Str → Option Value)
    (p : Program) (loose : List Str) (mean : ExcName → Option Value) (mg mb : Str → Option Value) (news : List (Addr × Obj)) (s : Shared) (Q E : Value → Shared → Prop),
    Below A₀ base outer h₀ → Fr h₀ L s.heap m → (Mine.hp.heap_1 w.params).In h₀ → News h₀ L s.heap news → Top p loose mean mg mb h₀ → cs.kind = .function →
    Pre news → dp + 10 < recursionLimit → un + 60 < cLine →
    (∀ r tl h' tk', Fr h₀ L h' m → News h₀ L h' (news ++ tl) → (∀ q ∈ news, ∀ p ∈ tl, q.1 < p.1) → Out (news ++ tl) r → Q r { s with heap := h', toks := tk' }) →
    wpAny (model PR w) (ktrTop dp un gd cn cs L a ccd cl outer) (call (.ref f) vs) Q E s
theorem it_len {its : List It} {i : Nat} (hi : i < its.length) (hsz : (patText its).length ≤ 1000) : its[i].text.length ≤ 1000 := by
  have h1 := patText_take its i hi
  have h2 := patText_le its (i + 1)
  rw [h1, List.length_append] at h2
  lia
theorem ys_lt2 {st : Value} {its : List It} {k : Nat} {ys : List Value} (hps : PcsAre st ys (pieces (its.take k))) (hk : k ≤ its.length) (hl : its.length ≤ 100) : ys.length ≤ 100 := by
  rw [hps.len]
  have := pieces_len its k
  lia
theorem news_one {h₀ h : Heap} {L : Addr} {q : Addr × Obj} {news : List (Addr × Obj)} (N : News h₀ L h (q :: news)) : News h₀ L h (news ++ [q]) := fun p hp => N p ((List.mem_append.mp hp).elim (fun h => .tail _ h) fun h => by rw [List.mem_singleton.mp h]; exact .head _)
theorem ord_one {pl : Addr} {o : Obj} {news : List (Addr × Obj)} (h : ∀ p ∈ news, p.1 < pl) : ∀ q ∈ news, ∀ p ∈ [(pl, o)], q.1 < p.1 := fun q hq p hp => by rw [List.mem_singleton.mp hp]; exact h q hq
inductive PJ (its : List It) (pl : Addr) (news : List (Addr × Obj)) (i : Nat) (m : Str → Option Value) (led : List (Addr × Obj)) : Prop
  | mk (ys n2 : _) (h1 : led = (pl, listOf ys.toArray n2) :: news) (h2 : PcsAre .none ys (pieces (its.take i))) (h3 : Has m [("pieces", .ref pl)]) : PJ its pl news i m led
theorem piecesw (w : World) (its : List It) (ok : ∀ it ∈ its, it.Ok) (r : Value) (hsz : (patText its).length ≤ 1000) (hsz2 : its.length ≤ 100) :
    Spec2 w 129 [r] (fun news => DatIn news r (itemsDat its)) (fun led v => ∃ l ys n, v = .ref l ∧ (l, listOf ys.toArray n) ∈ led ∧ PcsAre .none ys (pieces its)) := by
  unfold Spec2 PR
  k_fill
  intro dp un gd cn cs a ccd cl outer A₀ base h₀ L m p loose mean mg mb news s Q E B F X N T hk hpre hd hu hret
  cases hpre with
  | @list l vs nn ds hl hall =>
  refine wpAny_call ?_
  k_dflt cell_enter
  refine letA ?_
  intro A1
  refine letV ?_
  intro e1
  k_steps
  rename_i g' L' hh0 FG' B' X' T' pl hh1 lt1 hh2 F1 N1
  show wpAny _ _ _ _ _ _
  try k_fold
  have happ : Apart pl news := fun p hp => Nat.ne_of_lt (lt1 p hp)
  have hvl : vs.length = its.length := by have := hall.length; rwa [List.length_map] at this
  refine for_list (h₀ := g') (l := l) (vs := vs) (nn := nn) rfl (PJ its pl news) (fun i m led h => by obtain ⟨_, _, rfl, _⟩ := h; exact .tail _ hl) (fun _ => rfl) ?_ ?_ ?_
  · k_steps
    exact ⟨rfl, _, _, _, _, rfl, F1, N1, [], 0, rfl, .nil, Has.cons rfl Has.nil⟩
  · rintro E' i v m₁ led h tk I o hv ⟨ys, n2, rfl, hps, H⟩ F₂ N₂ hne
    refine letT ?_
    intro R9
    k_fold
    replace F₂ : Fr g' L' h _ := fr_at F₂ H
    dsimp only [kB_e1, kB_e2] at F₂
    replace N₂ : News g' L' h _ := turn_in N₂
    have hapI := turn_ap (o := o) hne happ
    clear F1 N1 H
    obtain ⟨hi, hD⟩ := dat_len hall hv
    rw [List.getElem_map] at hD
    rw [List.length_map] at hi
    have hp1 := pieces_take its i hi
    have hit := ok _ (List.getElem_mem hi)
    have htl := it_len (i := i) hi hsz
    have hyl : ys.length ≤ 100000 := by have := ys_lt2 hps (Nat.le_of_lt hi) hsz2; omega
    have hyl2 : ys.length < 16777216 := by omega
    generalize its[i] = it at hD hp1 hit htl
    obtain ⟨ta, tn, tt, r, rfl, hmem, hr⟩ := it_dat hD
    refine asg2 rfl F₂ N₂ (.tail _ (.tail _ hmem)) (fun h' tk' F3 N3 => ?_) (by rfl) (by rfl) (by rfl)
    k_steps
    refine (piecew w it hit tt r htl).use B' (by assumption) X' (by assumption) T' rfl (hr.mono fun p hp => .tail _ (.tail _ hp)) (dp_ok6 hd) (un_ok6 hu) fun v2 tl h' tk' F4 N4 _ hpv => ?_
    replace N4 := news_sub (news := (pl, listOf ys.toArray n2) :: (I, o) :: news) N4 fun p hp => List.mem_append.mpr (.inl hp)
    have hst : (Value.none : Value) = .none ∨ ∃ o, (Value.none : Value) = .ref o := .inl rfl
    cases hpc : pieceOf it with
    | some x =>
      rw [hpc] at hpv hp1
      have hpv' := hpv
      obtain ⟨tx, rfl⟩ := hpv'
      k_steps
      exact turn_fin hne (by assumption) (by assumption) ⟨_, _, rfl, add_some hp1 hps ⟨_, rfl⟩, Has.cons rfl Has.nil⟩
    | none =>
      rw [hpc] at hpv hp1
      cases (hpv : v2 = .none)
      rcases hps.last with ⟨rfl, hq⟩ | ⟨zs, z, qs, q, rfl, hq, hz⟩
      · k_steps
        exact turn_fin hne (by assumption) (by assumption) ⟨_, _, rfl, add_star hp1 (by rw [hq]; exact fun q => nomatch q) hps rfl, Has.cons rfl Has.nil⟩
      · have hzl : zs.length < 16777216 := Nat.lt_of_le_of_lt (by simp) hyl2
        cases q with
        | none =>
          cases (hz : z = .none)
          k_steps
          exact turn_fin hne (by assumption) (by assumption) ⟨_, _, rfl, add_same hp1 (by rw [hq]; simp) hps, Has.cons rfl Has.nil⟩
        | some q =>
          have hz' := hz
          obtain ⟨tz, rfl⟩ := hz'
          k_steps
          exact turn_fin hne (by assumption) (by assumption) ⟨_, _, rfl, add_star hp1 (by rw [hq]; simp) hps rfl, Has.cons rfl Has.nil⟩
  · rintro m₁ led h tk ⟨ys, n2, rfl, hps, H⟩ F₂ N₂
    replace F₂ : Fr g' L' h _ := fr_at F₂ H
    dsimp only [kB_e1, kB_e2] at F₂
    replace N₂ : News g' L' h _ := N₂
    k_steps
    rw [hvl, List.take_length] at hps
    exact hret (.ref pl) [(pl, listOf ys.toArray n2)] _ _ (by assumption) (news_one (by assumption)) (ord_one lt1) ⟨pl, ys, n2, rfl, List.mem_append.mpr (.inr (.head _)), hps⟩
end
section
open PySem PySem.W PyProof.Rows PySem.Calls
set_option maxRecDepth 100000
set_option maxHeartbeats 4000000
theorem pick_mid (a b : Value) (mid : List Value) : slicePick (a :: mid ++ [b]).toArray (some 1) (some (-1)) none = mid.toArray := by
  have hsz : (a :: mid ++ [b]).toArray.size = mid.length + 2 := by simp
  have e : slicePick (a :: mid ++ [b]).toArray (some 1) (some (-1)) none = slicePick (a :: mid ++ [b]).toArray (some ((1 : Nat) : Int)) (some ((mid.length + 1 : Nat) : Int)) none := by
    unfold slicePick
    rw [hsz]
    have e1 : sliceBounds (some 1) (some (-1)) none (mid.length + 2) = sliceBounds (some ((1 : Nat) : Int)) (some ((mid.length + 1 : Nat) : Int)) none (mid.length + 2) := by
      simp only [sliceBounds, Option.getD_none]
      have h1 : ¬ ((1 : Int) < 0) := by decide
      have h2 : ((-1 : Int) < 0) := by decide
      have h3 : ¬ (((mid.length + 1 : Nat) : Int) < 0) := by lia
      simp only [h1, h2, h3, if_false, if_true, show (1 : Int) > 0 by decide]
      congr 2
      push_cast
      first | lia | (congr 1; lia) | skip
    rw [e1]
  rw [e, slicePick_run _ 1 (mid.length + 1) (by rw [hsz]; lia) (by lia)]
  simp
theorem joinT_cons {c : Nat} {x : List Nat} {r : List (List Nat)} (h : r ≠ []) : joinT [c] (x :: r) = x ++ [c] ++ joinT [c] r := by
  cases r with
  | nil => exact absurd rfl h
  | cons y r => rfl
theorem cut_uniq {c : Nat} : ∀ {a b x y : List Nat}, c ∉ a → c ∉ b → a ++ c :: x = b ++ c :: y → a = b ∧ x = y
  | [], [], x, y, _, _, h => ⟨rfl, by simpa using h⟩
  | [], b :: bs, x, y, _, hb, h => absurd (by simp only [List.nil_append, List.cons_append] at h; rw [(List.cons.inj h).1]; exact .head _) hb
  | a :: as, [], x, y, ha, _, h => absurd (by simp only [List.nil_append, List.cons_append] at h; rw [← (List.cons.inj h).1]; exact .head _) ha
  | a :: as, b :: bs, x, y, ha, hb, h => by
    simp only [List.cons_append] at h
    obtain ⟨h1, h2⟩ := List.cons.inj h
    obtain ⟨h3, h4⟩ := cut_uniq (fun q => ha (.tail _ q)) (fun q => hb (.tail _ q)) h2
    exact ⟨by rw [h1, h3], h4⟩
theorem split_uniq {c : Nat} : ∀ {A B : List (List Nat)}, A ≠ [] → B ≠ [] → (∀ t ∈ A, c ∉ t) → (∀ t ∈ B, c ∉ t) → joinT [c] A = joinT [c] B → A = B
  | [], _, hA, _, _, _, _ => absurd rfl hA
  | _ :: _, [], _, hB, _, _, _ => absurd rfl hB
  | [a], [b], _, _, _, _, h => by rw [show a = b from h]
  | [a], b :: b2 :: B, _, _, hfa, _, h => by
    have : c ∈ a := by
      rw [show a = joinT [c] (b :: b2 :: B) from h, joinT_cons (by simp)]; simp
    exact absurd this (hfa a (.head _))
  | a :: a2 :: A, [b], _, _, _, hfb, h => by
    have : c ∈ b := by
      rw [show b = joinT [c] (a :: a2 :: A) from h.symm, joinT_cons (by simp)]; simp
    exact absurd this (hfb b (.head _))
  | a :: a2 :: A, b :: b2 :: B, _, _, hfa, hfb, h => by
    rw [joinT_two, joinT_two, List.append_assoc, List.append_assoc] at h
    obtain ⟨h1, h2⟩ := cut_uniq (hfa a (.head _)) (hfb b (.head _)) h
    rw [h1, split_uniq (by simp) (by simp) (fun t ht => hfa t (.tail _ ht)) (fun t ht => hfb t (.tail _ ht)) h2]
section
variable {prog : Program} {w : World} {A : Around} {E : Value → Shared → Prop} {s : Shared} {h₀ : Heap} {L : Addr} {m : Str → Option Value} {led : List (Addr × Obj)} {value slice : PySem.Expr}
theorem values_tx : ∀ (l : List (Str × Tok)), TxAre (strValues l) (l.map fun p => p.1.cps.toList)
  | [] => .nil
  | (x, t) :: r => by
    have h := values_tx r
    show TxAre (Value.str x t :: strValues r) (x.cps.toList :: _)
    rw [str_S x, S_toList]
    exact .cons h
theorem split_S {x : List Nat} {c : Nat} {t u : Tok} {Q : Value → Shared → Prop} (F : Fr h₀ L s.heap m) (N : News h₀ L s.heap led) (hsz : x.length ≤ 100000) (A' : List (List Nat)) (hA : A' ≠ []) (hj : joinT [c] A' = x) (hf : ∀ t ∈ A', c ∉ t)
    (h : ∀ D vs n h' k, TxAre vs A' → Fr h₀ L h' m → News h₀ L h' ((D, listOf vs.toArray n) :: led) → (∀ p ∈ led, p.1 < D) → Q (.ref D) { s with heap := h', toks := k }) :
    wpAny (model prog w) A (call (.builtin "str.split") [.str (S x) t, .str (S [c]) u]) Q E s := by
  refine splitN1 F N rfl (fun l h' k e F' N' => ?_) (by rw [S_len, sizeLine_eq]; lia)
  have e1 : (Txt.split (S x) (S [c])).map (fun p => p.cps.toList) = A' := by
    refine split_uniq (c := c) (fun q => ?_) hA (fun t ht => ?_) hf ?_
    · have := split_pos (S x) (S [c])
      rw [List.map_eq_nil_iff] at q
      rw [q] at this; simp at this
    · obtain ⟨p, hp, rfl⟩ := List.mem_map.mp ht
      exact StrLaws.split_free (S x) c p hp
    · have e2 := StrLaws.join_split (S x) (S [c])
      have e3 : Txt.split (S x) (S [c]) = ((Txt.split (S x) (S [c])).map fun p => p.cps.toList).map S := by
        rw [List.map_map]
        conv => lhs; rw [← List.map_id (Txt.split (S x) (S [c]))]
        apply List.map_congr_left
        intro p _
        exact str_S p
      rw [e3, joinT_S] at e2
      rw [hj]; exact S_inj e2
  have e2 := values_tx l
  have e3 : (l.map fun p => p.1.cps.toList) = A' := by
    rw [← e1, ← e, List.map_map]; rfl
  rw [e3] at e2
  exact h _ _ _ _ _ e2 F' N' fun p hp => Heap.lt_size (N p hp).1
theorem slice_mid {l : Addr} {a b : Value} {mid : List Value} {n : Nat} {ui uj : Tok} {Q : Value → Shared → Prop} (F : Fr h₀ L s.heap m) (N : News h₀ L s.heap led) (hl : (l, listOf (a :: mid ++ [b]).toArray n) ∈ led) (hz : mid.length ≤ 100000)
    (h : ∀ D h', Fr h₀ L h' m → News h₀ L h' ((D, listOf mid.toArray 0) :: led) → (∀ p ∈ led, p.1 < D) → Q (.ref D) { s with heap := h' })
    (hs : subscripted slice false (.ref l) (.ref s.heap.objs.size) = operate [.ref s.heap.objs.size, .ref l] (getItem (.ref l) (.ref s.heap.objs.size))) (ht : ∀ r, letTemporaryGo value (.ref l) r = pure ()) :
    wpAny (model prog w) A (subscriptTail value slice (.ref l) (.ref s.heap.objs.size)) Q E { s with heap := s.heap.push { cls := .type "slice", data := .fields #[.int 1 ui, .int (-1) uj, .none] } } :=
  kmk_slice_lit F N ⟨_, (N _ hl).1, rfl, n, rfl⟩ (.int _ _) (.int _ _) (by rw [pick_mid]) h hs ht (by rw [sizeLine_eq]; simp; lia)
end
theorem tail_mids (mid : List (List Nat)) (last : List Nat) : tailOf (mid ++ [last]) = (mid.map fun r => [40, 63, 62, 46, 42, 63] ++ r ++ [41]).flatten ++ [46, 42] ++ last := by
  induction mid with
  | nil => simp [tailOf_e1, tailOf_e2, tailOf_e3]
  | cons x r ih =>
    have e : tailOf (x :: r ++ [last]) = [40, 63, 62, 46, 42, 63] ++ x ++ [41] ++ tailOf (r ++ [last]) := by
      cases r <;> rfl
    rw [e, ih]; simp
noncomputable def sepT (ps : List (Option (List Nat))) : List Nat := (ps.map fun p => match p with | none => [0] | some x => x).flatten
theorem sepT_e1 : sepT [] = [] := rfl
theorem sep_join : ∀ ps : List (Option (List Nat)), joinT [0] ((runsOf ps).1 :: (runsOf ps).2) = sepT ps
  | [] => rfl
  | some x :: r => by
    have ih := sep_join r
    show joinT [0] ((x ++ (runsOf r).1) :: (runsOf r).2) = x ++ sepT r
    rw [joinT_head, ih]
  | none :: r => by
    have ih := sep_join r
    show joinT [0] ([] :: (runsOf r).1 :: (runsOf r).2) = [0] ++ sepT r
    rw [joinT_two, ih]; rfl
theorem runs_free {c : Nat} : ∀ {ps : List (Option (List Nat))}, (∀ x, some x ∈ ps → c ∉ x) → ∀ t ∈ (runsOf ps).1 :: (runsOf ps).2, c ∉ t
  | [], _, t, ht => by
    rcases List.mem_cons.mp ht with rfl | ht
    · exact List.not_mem_nil
    · cases ht
  | some x :: r, h, t, ht => by
    have ih := runs_free (ps := r) fun y hy => h y (.tail _ hy)
    rcases List.mem_cons.mp ht with rfl | ht
    · intro q
      rcases List.mem_append.mp q with q | q
      · exact h x (.head _) q
      · exact ih _ (.head _) q
    · exact ih t (.tail _ ht)
  | none :: r, h, t, ht => by
    have ih := runs_free (ps := r) fun y hy => h y (.tail _ hy)
    rcases List.mem_cons.mp ht with rfl | ht
    · exact List.not_mem_nil
    · exact ih t ht
end
section
theorem LocW15.hereW15 : True := trivial
open LocW15
open PySem PySem.W PyProof.Rows PySem.Calls
set_option maxRecDepth 100000
set_option maxHeartbeats 8000000
example : True := by
  k_with "execs cons" =>
    (fail_if_success (fail_if_success (have := hereW15)))
    ((k_here; refine Mine.consL ?_; intro _))
  trivial
example : True := by
  k_with "k_mem" =>
    (fail_if_success (fail_if_success (have := hereW15)))
    (assumption)
  trivial
example : True := by
  k_with "eval ListComp" =>
    (fail_if_success (fail_if_success (have := hereW15)))
    ((refine halt ?_))
  trivial
example : True := by
  k_with "call builtin:str.split" =>
    (fail_if_success (fail_if_success (have := hereW15)))
    ((refine halt ?_))
  trivial
theorem sep_all {ps : List (Option (List Nat))} {ys zs : List Value} (h : PcsAre .none ys ps) (hK : TxAre zs ((ps.take ys.length).map fun p => match p with | none => [0] | some x => x)) : TxAre zs (ps.map fun p => match p with | none => [0] | some x => x) := by
  rw [h.len, List.take_length] at hK; exact hK
theorem sep_add {ps : List (Option (List Nat))} {zs : List Value} {i : Nat} {t : Tok} (hi : i < ps.length) (hK : TxAre zs ((ps.take i).map fun p => match p with | none => [0] | some x => x)) {x : List Nat} (hx : (match ps[i] with | none => [0] | some x => x) = x) : TxAre (zs ++ [.str (S x) t]) ((ps.take (i + 1)).map fun p => match p with | none => [0] | some x => x) := by
  rw [List.take_add_one, List.getElem?_eq_getElem hi, List.map_append]
  have e : ((some ps[i]).toList.map fun p => match p with | none => [0] | some x => x) = [x] := by simp only [Option.toList_some, List.map_cons, List.map_nil]; rw [hx]
  rw [e]
  exact hK.snoc
theorem gti_T {prog : Program} {w : World} {A : Around} {E : Value → Shared → Prop} {s : Shared} {a b : Int} {t u : Tok} {Q : Value → Shared → Prop} (e : b < a) (h : Q (.bool true) s) : wpAny (model prog w) A (compareOp .Gt (.int a t) (.int b u)) Q E s := gt_int (by rw [decide_eq_true (by omega)]; exact h)
theorem gti_F {prog : Program} {w : World} {A : Around} {E : Value → Shared → Prop} {s : Shared} {a b : Int} {t u : Tok} {Q : Value → Shared → Prop} (e : ¬ b < a) (h : Q (.bool false) s) : wpAny (model prog w) A (compareOp .Gt (.int a t) (.int b u)) Q E s := gt_int (by rw [decide_eq_false (by omega)]; exact h)
example : True := by
  k_with "compareOp Gt int int" =>
    (fail_if_success (fail_if_success (have := hereW15)))
    ((refine' Mine.gti_T ?m19100 ?_; (case m19100 => with_reducible assumption)))
  trivial
example : True := by
  k_with "compareOp Gt int int" =>
    (fail_if_success (fail_if_success (have := hereW15)))
    ((refine' Mine.gti_F ?m19101 ?_; (case m19101 => with_reducible assumption)))
  trivial
example : True := by
  k_with "subscriptTail Name Slice ref ref" =>
    (fail_if_success (fail_if_success (have := hereW15)))
    ((refine' Mine.slice_mid (s := ⟨_, _, _, _, _⟩) ?m19102 ?m29102 ?m39102 ?m49102 ?_ ?m59102 ?m69102; (case m19102 => with_reducible assumption); (case m29102 => with_reducible assumption); (case m39102 => k_dflt k_mem); (case m49102 => with_reducible assumption); (case m59102 => with_reducible exact Mine.sub_slice); (case m69102 => intro _; with_unfolding_all rfl); intro _ _ _ _ _))
  trivial
example : True := by
  k_with "subscriptTail" =>
    (fail_if_success (fail_if_success (have := hereW15)))
    (((with_reducible show wpAny _ _ (subscriptTail _ _ (Value.ref _) (Value.int (-1) _)) _ _ _); refine' Mine.item_last ?mllN9103 ?mlll9103 ?_ ?mlls9103; (case mllN9103 => k_asm); (case mlll9103 => k_dflt k_mem); (case mlls9103 => with_reducible exact Mine.sub_unop)))
  trivial
example : True := by
  k_with "subscriptTail Name UnaryOp ref int" =>
    (fail_if_success (fail_if_success (have := hereW15)))
    (((with_reducible show wpAny _ _ (subscriptTail _ _ (Value.ref _) (Value.int (-1) _)) _ _ _); refine' Mine.item_last ?mllN9104 ?mlll9104 ?_ ?mlls9104; (case mllN9104 => k_asm); (case mlll9104 => k_dflt k_mem); (case mlls9104 => with_reducible exact Mine.sub_unop)))
  trivial
noncomputable def midF (r : List Nat) : List Nat := [40, 63, 62, 46, 42, 63] ++ r ++ [41]
theorem mid_len {mid : List (List Nat)} {x : List Nat} (h : x ∈ mid) : x.length ≤ (mid.map midF).flatten.length := by
  induction mid with
  | nil => cases h
  | cons y r ih =>
    simp only [List.map_cons, List.flatten_cons, List.length_append]
    rcases List.mem_cons.mp h with rfl | h
    · simp only [midF, List.length_append]; omega
    · have := ih h; omega
theorem mid_add {mid : List (List Nat)} {zs : List Value} {i : Nat} {x : List Nat} {t : Tok} (hx : mid[i]? = some x) (hK : TxAre zs ((mid.take i).map midF)) : TxAre (zs ++ [.str (S (midF x)) t]) ((mid.take (i + 1)).map midF) := by
  rw [List.take_add_one, hx, List.map_append]
  exact hK.snoc
theorem mid_all {mid : List (List Nat)} {vm zs : List Value} (h : TxAre vm mid) (hK : TxAre zs ((mid.take vm.length).map midF)) : TxAre zs (mid.map midF) := by
  rw [h.len, List.take_length] at hK; exact hK
theorem body_nil {ps : List (Option (List Nat))} {h : List Nat} (e : runsOf ps = (h, [])) : bodyOf ps = h := by unfold bodyOf; rw [e]; exact List.append_nil _
theorem body_mids {ps : List (Option (List Nat))} {h last : List Nat} {mid : List (List Nat)} (e : runsOf ps = (h, mid ++ [last])) : bodyOf ps = h ++ ((mid.map midF).flatten ++ [46, 42] ++ last) := by
  unfold bodyOf; rw [e]; show h ++ tailOf (mid ++ [last]) = _; rw [tail_mids]; rfl
theorem mids_le {ps : List (Option (List Nat))} {h last : List Nat} {mid : List (List Nat)} (e : bodyOf ps = h ++ ((mid.map midF).flatten ++ [46, 42] ++ last)) (hsz : (bodyOf ps).length ≤ 90000) :
    h.length ≤ 90000 ∧ (mid.map midF).flatten.length ≤ 90000 ∧ last.length ≤ 90000 ∧ (h ++ ((mid.map midF).flatten ++ [46, 42] ++ last)).length ≤ 90000 ∧ ((mid.map midF).flatten ++ [46, 42]).length ≤ 90000 := by
  rw [e] at hsz
  refine ⟨?_, ?_, ?_, hsz, ?_⟩ <;> (simp only [List.length_append] at hsz ⊢; omega)
theorem runs_le : ∀ ps : List (Option (List Nat)), (runsOf ps).2.length ≤ ps.length
  | [] => Nat.le_refl _
  | some x :: r => Nat.le_succ_of_le (runs_le r)
  | none :: r => Nat.succ_le_succ (runs_le r)
theorem news_nil' {h₀ h : Heap} {L : Addr} {news : List (Addr × Obj)} (N : News h₀ L h news) : News h₀ L h (news ++ []) := by rw [List.append_nil]; exact N
theorem ljoinw (w : World) (ps : List (Option (List Nat))) (ys : List Value) (n0 : Nat) (r : Addr) (hps : PcsAre .none ys ps) (h0 : ∀ x, some x ∈ ps → 0 ∉ x) (hsz : (bodyOf ps).length ≤ 90000) (hsz2 : (sepT ps).length ≤ 90000) (hl : ps.length ≤ 40000) :
    Spec w 134 [.ref r] (fun news => (r, listOf ys.toArray n0) ∈ news) (fun _ v => ∃ t, v = .str (S (joinedT ps)) t) := by
  unfold Spec PR
  k_fill
  intro dp un gd cn cs a ccd cl outer A₀ base h₀ L m p loose mean mg mb news s Q E B F X N T hk hpre hd hu hret
  have hvl : ys.length ≤ 100000 := by rw [hps.len]; omega
  refine wpAny_call ?_
  k_dflt cell_enter
  refine letA ?_
  intro A1
  refine letV ?_
  intro e1
  (rename Fr _ _ _ _ => F0)
  replace F0 := fr_gen [("pieces", .ref r)] F0 (Has.cons rfl Has.nil)
  obtain ⟨m0, F0⟩ := F0
  dsimp only [kB_e1, kB_e2] at F0
  k_steps
  (rename Fr _ _ _ _ => FF)
  (rename News _ _ _ _ => NN)
  show wpAny _ _ _ _ _ _
  try k_fold
  refine comp_U (cl := []) (fun i zs => TxAre zs ((ps.take i).map fun p => match p with | none => [0] | some x => x)) FF NN hpre hvl (fun Q hq => ld FF rfl hq) .nil (fun E' i v zs I oI C oC D m₂ h tk hv hK hC hx F' N' => ?_) (fun D zs h tk hK F' N' hap => ?_) rfl rfl (by decide) rfl (by decide) rfl (fun _ => rfl)
  · have hi : i < ps.length := by rw [← hps.len]; exact (List.getElem?_eq_some_iff.mp hv).1
    obtain ⟨v', hv', hp⟩ := hps.get hi
    rw [hv] at hv'
    cases hv'
    cases hpi : ps[i] with
    | none =>
      rw [hpi] at hp
      cases (hp : v = .none)
      k_steps
      exact cend (by assumption) (by assumption) (sep_add hi hK (by rw [hpi]))
    | some x =>
      rw [hpi] at hp
      obtain ⟨tx, rfl⟩ := hp
      k_steps
      exact cend (by assumption) (by assumption) (sep_add hi hK (by rw [hpi]))
  · replace hK := sep_all hps hK
    have hj1 : (ps.map fun p => match p with | none => [0] | some x => x).flatten.length ≤ 100000 := Nat.le_trans hsz2 (by decide)
    k_steps
    (rename Fr _ _ _ _ => FG)
    (rename News _ _ _ _ => NG)
    show wpAny _ _ _ _ _ _
    try k_fold
    refine split_S FG NG hj1 ((runsOf ps).1 :: (runsOf ps).2) (by simp) (sep_join ps) (runs_free h0) fun D2 vs n2 h' k hT F'' N'' lt2 => ?_
    obtain ⟨t1, vr, rfl, hTr⟩ := hT.cons_inv
    replace N'' := news_sub (news := (D2, listOf (Value.str (S (runsOf ps).1) t1 :: vr).toArray n2) :: news) N'' fun p hp => by
      rcases List.mem_cons.mp hp with rfl | hp
      · exact .head _
      · exact .tail _ (.tail _ hp)
    have at0 : LAt (Value.str (S (runsOf ps).1) t1 :: vr) 0 (.str (S (runsOf ps).1) t1) := ⟨by decide, by decide, rfl⟩
    have hrl := runs_le ps
    have hvr : (Value.str (S (runsOf ps).1) t1 :: vr).length ≤ 100000 := by rw [List.length_cons, hTr.len]; omega
    clear hK hap lt2 FG NG
    rcases (runsOf ps).2.eq_nil_or_concat with hr | ⟨mid, last, hr⟩
    · have e1 : runsOf ps = ((runsOf ps).1, []) := by rw [← hr]
      have e2 := body_nil e1
      have hh : (runsOf ps).1.length ≤ 90000 := by rw [← e2]; exact hsz
      rw [hr] at hTr
      cases hTr
      have hg : ¬ (1 : Int) < (([Value.str (S (runsOf ps).1) t1] : List Value).length : Nat) := by simp
      k_steps
      exact hret _ [] _ _ (by assumption) (news_nil' (news_sub (by assumption) fun p hp => .tail _ hp)) (by simp) ⟨_, by unfold joinedT; rw [e2]⟩
    · rw [List.concat_eq_append] at hr
      have e1 : runsOf ps = ((runsOf ps).1, mid ++ [last]) := by rw [← hr]
      have e2 := body_mids e1
      obtain ⟨m1, m2, m3, m4, m5⟩ := mids_le e2 hsz
      rw [hr] at hTr
      obtain ⟨vm, vl, rfl, hTm, hTl⟩ := hTr.split
      obtain ⟨t2, vn, rfl, hTn⟩ := hTl.cons_inv
      cases hTn
      change News _ _ _ ((D2, listOf ((Value.str (S (runsOf ps).1) t1 :: vm) ++ [Value.str (S last) t2]).toArray n2) :: news) at N''
      have hvm : vm.length ≤ 100000 := by rw [List.length_cons, List.length_append] at hvr; omega
      clear at0
      have at0 : LAt ((Value.str (S (runsOf ps).1) t1 :: vm) ++ [Value.str (S last) t2]) 0 (.str (S (runsOf ps).1) t1) := ⟨by decide, by decide, rfl⟩
      have hvr2 : ((Value.str (S (runsOf ps).1) t1 :: vm) ++ [Value.str (S last) t2]).length ≤ 100000 := hvr
      have hg : (1 : Int) < ((((Value.str (S (runsOf ps).1) t1 :: vm) ++ [Value.str (S last) t2]).length : Nat) : Int) := by rw [List.length_append, List.length_cons, List.length_singleton]; omega
      k_steps
      (rename Fr _ _ _ _ => FH)
      (rename News _ _ _ _ => NH)
      show wpAny _ _ _ _ _ _
      try k_fold
      refine comp_U2 (cl := []) (vs := vm) (led := (D2, listOf ((Value.str (S (runsOf ps).1) t1 :: vm) ++ [Value.str (S last) t2]).toArray n2) :: news) (fun i zs => TxAre zs ((mid.take i).map midF)) FH hvm ?_ .nil (fun ax k2 E' i v zs I oI C oC D m₂ h tk hv hK hC hx F' N' => ?_) (fun D zs h tk hK F' N' hap => ?_) rfl rfl (by decide) rfl (by decide) rfl (fun _ => rfl)
      · k_steps
        exact ⟨_, _, _, _, rfl, rfl, by assumption, by assumption⟩
      · obtain ⟨x, tx, hx1, rfl⟩ := hTm.get hv
        have hxl : x.length ≤ 90000 := Nat.le_trans (mid_len (List.mem_of_getElem? hx1)) m2
        k_steps
        exact cend (by assumption) (by assumption) (mid_add hx1 hK)
      · replace hK := mid_all hTm hK
        have hj2 : (mid.map midF).flatten.length ≤ 100000 := Nat.le_trans m2 (by decide)
        have hz1 : (mid.map midF).flatten.length + [46, 42].length ≤ 16777216 := by rw [List.length_cons, List.length_cons, List.length_nil]; omega
        have hz2 : ((mid.map midF).flatten ++ [46, 42]).length + last.length ≤ 16777216 := by omega
        have hz3 : (runsOf ps).1.length + ((mid.map midF).flatten ++ [46, 42] ++ last).length ≤ 16777216 := by rw [List.length_append] at m4; omega
        clear hvr hvr2 hrl hg
        k_steps
        exact hret _ [] _ _ (by assumption) (news_nil' (news_sub (by assumption) fun p hp => .tail _ (.tail _ hp))) (by simp) ⟨_, by unfold joinedT; rw [e2]⟩
end
section
theorem LocW16.hereW16 : True := trivial
open LocW16
open PySem PySem.W PyProof.Rows PySem.Calls
set_option maxRecDepth 100000
set_option maxHeartbeats 4000000
section
variable {prog : Program} {w : World} {A : Around} {E : Value → Shared → Prop} {s : Shared} {env : Env} {h₀ : Heap} {L : Addr} {m : Str → Option Value} {led : List (Addr × Obj)}
theorem comp_S {elt iter : PySem.Expr} {x : Str} {px : Pos} {scope : Scope} {cl : List (Str × Addr)} {pos : Pos} {Q : Value → Shared → Prop} {z : List Nat} {tz : Tok} (K : Nat → List Value → Prop) (F : Fr h₀ L s.heap m) (N : News h₀ L s.heap led) (hsz : z.length ≤ 100000)
    (hit : ∀ Q : Value → Shared → Prop, Q (.str (S z) tz) s → wpAny (model prog w) A (eval iter env) Q E s) (K0 : K 0 [])
    (leaf : ∀ E' i c t ys I oI C oC D m₂ h tk, z[i]? = some c → K i ys → LCg.NsObj oC m₂ → m₂ x = some (.str (S [c]) t) → Fr h₀ L h m → News h₀ L h ((I, oI) :: (C, oC) :: (D, LCg.lst ys) :: led) →
      wpAny (model prog w) A (eval elt (compEnvC scope cl C env)) (CEnd h₀ L m { s with heap := h, toks := tk } I oI C oC D ys led (fun y => K (i + 1) (ys ++ [y]))) E' { s with heap := h, toks := tk })
    (hQ : ∀ D ys h tk, K z.length ys → Fr h₀ L h m → News h₀ L h ((D, listOf ys.toArray ys.length) :: led) → Q (.ref D) { s with heap := h, toks := tk })
    (hh : A.handled = none) (hclos : closureFor scope env = pure cl) (hcell : ∀ y ∈ scope.names, y.2 ≠ .cell) (hkind : scope.kind = .function)
    (hnames : ∀ y ∈ scope.names, y.2 = .local → scope.names.lookup y.1 = some .local) (hx : scope.names.lookup x = some .local)
    (hs : ∀ x, foldedSetIterable iter env x = pure x) :
    wpAny (model prog w) A (eval (.ListComp elt [⟨.Name x px, iter, [], 0⟩] scope pos) env) Q E s := by
  rw [eval_ListComp]
  refine wpAny_comprehension_free (use := none) rfl hs hclos hkind hnames (hit _ ?_)
  have key : ∀ g j i ys, i + j = z.length → K i ys → LCg.CompRest prog w A h₀ L m env elt x scope cl { s with heap := g } (fun _ => True) (SignAt (S z)) (LCg.FinE h₀ L m { s with heap := g } Q) j i ys led := by
    intro g j
    induction j with
    | zero =>
      intro i ys hi hK
      exact LCg.CompRest.zero fun D h tk F' N' o1 => hQ D ys h tk (by rw [← hi]; exact hK) F' N'
    | succ j ih =>
      intro i ys hi hK
      refine LCg.CompRest.succ fun v I oI C oC D m₂ h tk E' hv hC hx' F' N' off ne => ?_
      obtain ⟨c, u, hc, rfl⟩ := hv
      have hc' : z[i]? = some c := by simpa [S] using hc
      refine wpAny_mono (leaf E' i c u ys I oI C oC D m₂ h tk hc' hK hC hx' F' N') (fun y s₂ hy => ?_) fun _ _ e => e
      obtain ⟨h', tk', rfl, F₂, N₂, hK'⟩ := hy
      exact ⟨h', tk', led, rfl, F₂, N₂, off, True.intro, ih (i + 1) _ (by lia) hK'⟩
  have hzs : (S z).cps.size = z.length := by simp [S]
  have fin : ∀ (o : Obj) (St : Nat → Heap → Prop), Walks prog w A s.heap.objs.size [s.heap.objs.size] [s.heap.objs.size] (S z).cps.size (SignAt (S z)) St → (∀ i h, St i h → ∃ o, h.get? s.heap.objs.size = some o) → St 0 (s.heap.push o) →
      wpAny (model prog w) A (newList []) (fun acc s₃ => wpAny (model prog w) A (newFunctionEnv scope env.globals cl [] env.qual none .none (some env)) (fun cenv s₄ =>
        codeAny (model prog w) A (.compStart (.ListComp elt [⟨.Name x px, iter, [], 0⟩] scope pos) 0 (.ref s.heap.objs.size) acc { cenv with scope := relabel scope env }) (compPost (model prog w) A E none Q acc cenv.locals) s₄) E s₃) E { s with heap := s.heap.push o } := by
    intro o St W hIo hst
    refine LCg.block_U (S := fun _ => True) (Fin := LCg.FinE h₀ L m { s with heap := s.heap.push o } Q) W (by rw [hzs, sizeLine_eq]; lia) hIo (fun i h h' o' nw st e e' _ _ _ => W.frame i h h' st fun b hb o'' e'' => by
        rw [List.mem_singleton.mp hb] at e'' ⊢
        rw [e] at e''; rw [e']; exact e'') hcell hkind hx hst (fun b hb => ?_)
      (F.keeps fun _ _ e => Heap.get?_push_of_some _ e) (N.grown fun _ _ e => Heap.get?_push_of_some _ e) (Nat.ne_of_lt F.ns.lt) (next_is_new F) (fun p hp => Nat.ne_of_lt (Heap.lt_size (N p hp).1)) trivial (by rw [hzs]; exact key _ z.length 0 [] (by lia) K0) ?_
    · rw [List.mem_singleton.mp hb]
      show s.heap.objs.size < (s.heap.push _).objs.size
      rw [Heap.size_push]; exact Nat.lt_succ_self _
    · intro D C h tk m' ys news' F' N' o1 hn hC₀ hD₀ hCL hDL hCD offC fin
      refine ⟨m', hn, fun h'' hs'' => fin D h'' tk (F'.change hs'' hCL hC₀) (fun p hp => ?_) o1⟩
      refine ⟨hs''.extBut _ _ ?_ (N' p hp).1, (N' p hp).2⟩
      rcases List.mem_cons.mp hp with rfl | hp
      · exact Ne.symm hCD
      · exact offC p hp
  cases ha : (S z).cps.all (· < 128)
  · exact wpAny_pyIter_wide ha (fin _ _ (Walks.strWide hh _ (S z) tz) (fun i h st => by obtain ⟨o, e, _⟩ := st; exact ⟨o, e⟩) ⟨_, Heap.get?_push_size _ rfl, rfl, rfl⟩)
  · exact wpAny_pyIter_ascii ha (fin _ _ (Walks.strAscii hh _ (S z) tz) (fun i h st => by obtain ⟨o, e, _⟩ := st; exact ⟨o, e⟩) ⟨_, Heap.get?_push_size _ rfl, rfl, rfl⟩)
theorem ord_S {c : Nat} {t : Tok} {Q : Value → Shared → Prop} (h : ∀ t' tk, Q (.int (c : Nat) t') { s with toks := tk }) : wpAny (model prog w) A (call (.builtin "ord") [.str (S [c]) t]) Q E s := P.ord_of_char (h _ _)
theorem ints_add {ys : List Value} {z : List Nat} {i c : Nat} {t : Tok} (hc : z[i]? = some c) (hK : IntsAre ys ((z.take i).map fun c => ((c : Nat) : Int))) : IntsAre (ys ++ [.int (c : Nat) t]) ((z.take (i + 1)).map fun c => ((c : Nat) : Int)) := by
  rw [List.take_add_one, hc, List.map_append]
  have : ∀ {vs : List Value} {ns : List Int} {a : Int}, IntsAre vs ns → IntsAre (vs ++ [.int a t]) (ns ++ [a]) := by
    intro vs ns a h
    induction h with
    | nil => exact .cons _ _ .nil
    | cons n u _ ih => exact .cons n u ih
  exact this hK
theorem bytes_S {z : List Nat} {l : Addr} {vs : List Value} {n : Nat} {Q : Value → Shared → Prop} (F : Fr h₀ L s.heap m) (N : News h₀ L s.heap led) (hl : (l, listOf vs.toArray n) ∈ led) (hi : IntsAre vs (z.map fun c => ((c : Nat) : Int))) (hb : ∀ c ∈ z, c < 256) (hz : z.length ≤ 100000) (hh : A.handled = none)
    (h : ∀ h' t k, Fr h₀ L h' m → News h₀ L h' led → Q (.bytes (Bs z) t) { s with heap := h', toks := k }) : wpAny (model prog w) A (call (.type "bytes") [.ref l]) Q E s := by
  refine bytes_K F N ⟨_, (N _ hl).1, rfl, n, rfl⟩ hi (fun n hn => ?_) (by have := hi.length; rw [List.length_map] at this; rw [this, sizeLine_eq]; lia) hh fun h' t k F' N' _ => ?_
  · obtain ⟨c, hc, rfl⟩ := List.mem_map.mp hn
    have := hb c hc
    lia
  · have e : (z.map fun c => ((c : Nat) : Int)).map (fun n => n.toNat.toUInt8) = z.map (·.toUInt8) := by rw [List.map_map]; apply List.map_congr_left; intro c _; simp
    rw [e]
    exact h h' t k F' N'
end
example : True := by
  k_with "k_mem" =>
    (fail_if_success (fail_if_success (have := hereW16)))
    (assumption)
  trivial
example : True := by
  k_with "eval ListComp" =>
    (fail_if_success (fail_if_success (have := hereW16)))
    ((refine halt ?_))
  trivial
example : True := by
  k_with "call builtin:ord" =>
    (fail_if_success (fail_if_success (have := hereW16)))
    ((refine' Mine.ord_S ?_; intro _ _))
  trivial
example : True := by
  k_with "call type:bytes" =>
    (fail_if_success (fail_if_success (have := hereW16)))
    ((refine halt ?_))
  trivial
set_option maxHeartbeats 8000000 in
theorem octetsw (w : World) (z : List Nat) (t : Tok) (hb : ∀ c ∈ z, c < 256) (hsz : z.length ≤ 100000) : Spec w 149 [.str (S z) t] (fun _ => True) (fun _ v => ∃ t, v = .bytes (Bs z) t) := by
  unfold Spec PR
  k_fill
  intro dp un gd cn cs a ccd cl outer A₀ base h₀ L m p loose mean mg mb news s Q E B F X N T hk hpre hd hu hret
  refine wpAny_call ?_
  k_dflt cell_enter
  refine letA ?_
  intro A1
  refine letV ?_
  intro e1
  k_steps
  (rename Fr _ _ _ _ => FF)
  (rename News _ _ _ _ => NN)
  show wpAny _ _ _ _ _ _
  try k_fold
  refine comp_S (cl := []) (fun i ys => IntsAre ys ((z.take i).map fun c => ((c : Nat) : Int))) FF NN hsz (fun Q hq => ld FF rfl hq) .nil (fun E' i c tc ys I oI C oC D m₂ h tk hv hK hC hx F' N' => ?_) (fun D ys h tk hK F' N' => ?_) rfl rfl (by decide) rfl (by decide) rfl (fun _ => rfl)
  · k_steps
    exact cend (by assumption) (by assumption) (ints_add hv hK)
  · rw [List.take_length] at hK
    k_steps
    show wpAny _ _ _ _ _ _
    try k_fold
    refine bytes_S F' N' (.head _) hK hb hsz rfl fun h' t k F'' N'' => ?_
    k_steps
    exact hret _ [] _ _ (by assumption) (by rw [List.append_nil]; exact news_sub (by assumption) fun p hp => .tail _ hp) (by simp) ⟨_, rfl⟩
end
section
open PySem PySem.W PyProof.Rows PySem.Calls
set_option maxRecDepth 100000
set_option maxHeartbeats 4000000
inductive RngIs (h₀ : Heap) (L : Addr) (m : Str → Option Value) (s : Shared) (n : Nat) (led : List (Addr × Obj)) (v : Value) (s₁ : Shared) : Prop
  | mk (r t u v' h tk : _) (h1 : v = .ref r) (h2 : s₁ = { s with heap := h, toks := tk }) (h3 : Fr h₀ L h m) (h4 : News h₀ L h led) (h5 : IsRange h r 0 (n : Int) 1 t u v') : RngIs h₀ L m s n led v s₁
theorem rsize_up (n : Nat) : Builtin.Range.rangeSize 0 (n : Int) 1 = (n : Int) := by
  unfold Builtin.Range.rangeSize
  simp only [show ((1 : Int) > 0) from by decide, if_true, Int.ediv_one]
  split <;> lia
theorem small_up {n : Nat} (h : n ≤ 100000) : Builtin.Range.small 0 (n : Int) 1 = true := small_one (by decide) (by decide) (by lia) (by lia)
section
variable {prog : Program} {w : World} {A : Around} {E : Value → Shared → Prop} {s : Shared} {env : Env} {h₀ : Heap} {L : Addr} {m : Str → Option Value} {led : List (Addr × Obj)}
theorem rng_call {n : Nat} {a : Int} {t : Tok} {Q : Value → Shared → Prop} (ha : a = (n : Int)) (F : Fr h₀ L s.heap m) (N : News h₀ L s.heap led)
    (h : ∀ r h' tk t₁ u₁ v₁, Fr h₀ L h' m → News h₀ L h' ((r, rngObj 0 (n : Int) 1 t₁ u₁ v₁) :: led) → (∀ p ∈ led, p.1 < r) → Q (.ref r) { s with heap := h', toks := tk }) :
    wpAny (model prog w) A (call (.type "range") [.int a t]) Q E s := by
  subst ha
  exact call_range_1 (h _ _ _ _ _ _ (F.push _) (News.push F N _) fun p hp => Heap.lt_size (N p hp).1)
theorem rng_is {h : Heap} {tk : Nat} {r : Addr} {n : Nat} {t u v : Tok} (F : Fr h₀ L h m) (N : News h₀ L h ((r, rngObj 0 (n : Int) 1 t u v) :: led)) : RngIs h₀ L m s n led (.ref r) { s with heap := h, toks := tk } :=
  ⟨r, t, u, v, h, tk, rfl, rfl, F, fun p hp => N p (.tail _ hp), (N _ (.head _)).1⟩
theorem comp_R {elt iter : PySem.Expr} {x : Str} {px : Pos} {scope : Scope} {cl : List (Str × Addr)} {pos : Pos} {Q : Value → Shared → Prop} {n : Nat} (K : Nat → List Value → Prop) (F₀ : Fr h₀ L s.heap m) (hsz : n ≤ 100000)
    (hit : wpAny (model prog w) A (eval iter env) (RngIs h₀ L m s n led) E s) (K0 : K 0 [])
    (leaf : ∀ E' i t ys I oI C oC D m₂ h tk, i < n → K i ys → LCg.NsObj oC m₂ → m₂ x = some (.int (i : Nat) t) → Fr h₀ L h m → News h₀ L h ((I, oI) :: (C, oC) :: (D, LCg.lst ys) :: led) →
      wpAny (model prog w) A (eval elt (compEnvC scope cl C env)) (CEnd h₀ L m { s with heap := h, toks := tk } I oI C oC D ys led (fun y => K (i + 1) (ys ++ [y]))) E' { s with heap := h, toks := tk })
    (hQ : ∀ D ys h tk, K n ys → Fr h₀ L h m → News h₀ L h ((D, listOf ys.toArray ys.length) :: led) → Apart D led → Q (.ref D) { s with heap := h, toks := tk })
    (hh : A.handled = none) (hclos : closureFor scope env = pure cl) (hcell : ∀ y ∈ scope.names, y.2 ≠ .cell) (hkind : scope.kind = .function)
    (hnames : ∀ y ∈ scope.names, y.2 = .local → scope.names.lookup y.1 = some .local) (hx : scope.names.lookup x = some .local)
    (hs : ∀ x, foldedSetIterable iter env x = pure x) :
    wpAny (model prog w) A (eval (.ListComp elt [⟨.Name x px, iter, [], 0⟩] scope pos) env) Q E s := by
  refine LCg.ListComp_U F₀ hclos hcell hkind hnames hx (wpAny_mono hit (fun v s₁ hv => ?_) fun _ _ e => e) hs
  obtain ⟨r, t, u, v', h, tk, rfl, rfl, F, N, hr⟩ := hv
  refine LCg.CompSrc.range hh F N hr (small_up hsz) (rsize_up n) (by rw [sizeLine_eq]; lia) fun g => ?_
  have key : ∀ j i ys, i + j = n → K i ys → LCg.CompRest prog w A h₀ L m env elt x scope cl { s with heap := g, toks := tk } (fun _ => True) (fun i v => ∃ t, v = .int (0 + (i : Int)) t) (LCg.FinE h₀ L m { s with heap := g, toks := tk } Q) j i ys led := by
    intro j
    induction j with
    | zero =>
      intro i ys hi hK
      refine LCg.CompRest.zero fun D h tk F' N' o1 => hQ D ys h tk (by rw [← hi]; exact hK) F' N' ?_
      intro p hp
      have : ∀ (l : List (Addr × Obj)), LCg.Off1 D l → ∀ p ∈ l, p.1 ≠ D := by
        intro l
        induction l with
        | nil => intro _ p hp; cases hp
        | cons q r ih =>
          intro h p hp
          rcases List.mem_cons.mp hp with rfl | hp
          · exact h.1
          · exact ih h.2 p hp
      exact this led o1 p hp
    | succ j ih =>
      intro i ys hi hK
      refine LCg.CompRest.succ fun v I oI C oC D m₂ h tk E' hv hC hx' F' N' off ne => ?_
      obtain ⟨ti, rfl⟩ := hv
      rw [Int.zero_add] at hx'
      refine wpAny_mono (leaf E' i ti ys I oI C oC D m₂ h tk (by lia) hK hC hx' F' N') (fun y s₂ hy => ?_) fun _ _ e => e
      obtain ⟨h', tk', rfl, F₂, N₂, hK'⟩ := hy
      exact ⟨h', tk', led, rfl, F₂, N₂, off, True.intro, ih (i + 1) _ (by lia) hK'⟩
  exact key n 0 [] (by lia) K0
theorem comp_RT {ct elt iter : PySem.Expr} {x : Str} {px : Pos} {scope : Scope} {cl : List (Str × Addr)} {pos : Pos} {Q : Value → Shared → Prop} {n : Nat} (K : Nat → List Value → Prop) (F₀ : Fr h₀ L s.heap m) (hsz : n ≤ 100000)
    (hit : wpAny (model prog w) A (eval iter env) (RngIs h₀ L m s n led) E s) (K0 : K 0 [])
    (leaf : ∀ E' i t ys I oI C oC D m₂ h tk, i < n → K i ys → LCg.NsObj oC m₂ → m₂ x = some (.int (i : Nat) t) → Fr h₀ L h m → News h₀ L h ((I, oI) :: (C, oC) :: (D, LCg.lst ys) :: led) →
      wpAny (model prog w) A (isTrue ct (compEnvC scope cl C env) (eval ct (compEnvC scope cl C env))) (fun ok s' => if ok = true then
        wpAny (model prog w) A (eval elt (compEnvC scope cl C env)) (CEnd h₀ L m { s with heap := h, toks := tk } I oI C oC D ys led (fun y => K (i + 1) (ys ++ [y]))) E' s'
        else CEnd h₀ L m { s with heap := h, toks := tk } I oI C oC D ys led (fun _ => K (i + 1) ys) .none s') E' { s with heap := h, toks := tk })
    (hQ : ∀ D ys h tk, K n ys → Fr h₀ L h m → News h₀ L h ((D, listOf ys.toArray ys.length) :: led) → Apart D led → Q (.ref D) { s with heap := h, toks := tk })
    (hh : A.handled = none) (hclos : closureFor scope env = pure cl) (hcell : ∀ y ∈ scope.names, y.2 ≠ .cell) (hkind : scope.kind = .function)
    (hnames : ∀ y ∈ scope.names, y.2 = .local → scope.names.lookup y.1 = some .local) (hx : scope.names.lookup x = some .local)
    (hs : ∀ x, foldedSetIterable iter env x = pure x) :
    wpAny (model prog w) A (eval (.ListComp elt [⟨.Name x px, iter, [ct], 0⟩] scope pos) env) Q E s := by
  refine LCt.ListComp_T F₀ hclos hcell hkind hnames hx (wpAny_mono hit (fun v s₁ hv => ?_) fun _ _ e => e) hs
  obtain ⟨r, t, u, v', h, tk, rfl, rfl, F, N, hr⟩ := hv
  refine LCt.CompSrcT.range hh F N hr (small_up hsz) (rsize_up n) (by rw [sizeLine_eq]; lia) fun g => ?_
  have key : ∀ j i ys, i + j = n → K i ys → LCt.CompRestT prog w A h₀ L m env ct elt x scope cl { s with heap := g, toks := tk } (fun _ => True) (fun i v => ∃ t, v = .int (0 + (i : Int)) t) (LCg.FinE h₀ L m { s with heap := g, toks := tk } Q) j i ys led := by
    intro j
    induction j with
    | zero =>
      intro i ys hi hK
      refine LCt.CompRestT.zero fun D h tk F' N' o1 => hQ D ys h tk (by rw [← hi]; exact hK) F' N' ?_
      intro p hp
      have : ∀ (l : List (Addr × Obj)), LCg.Off1 D l → ∀ p ∈ l, p.1 ≠ D := by
        intro l
        induction l with
        | nil => intro _ p hp; cases hp
        | cons q r ih =>
          intro h p hp
          rcases List.mem_cons.mp hp with rfl | hp
          · exact h.1
          · exact ih h.2 p hp
      exact this led o1 p hp
    | succ j ih =>
      intro i ys hi hK
      refine LCt.CompRestT.succ fun v I oI C oC D m₂ h tk E' hv hC hx' F' N' off ne => ?_
      obtain ⟨ti, rfl⟩ := hv
      rw [Int.zero_add] at hx'
      refine wpAny_mono (leaf E' i ti ys I oI C oC D m₂ h tk (by lia) hK hC hx' F' N') (fun ok s' hk => ?_) fun _ _ e => e
      cases ok with
      | true =>
        simp only [if_true] at hk ⊢
        refine wpAny_mono hk (fun y s₂ hy => ?_) fun _ _ e => e
        obtain ⟨h', tk', rfl, F₂, N₂, hK'⟩ := hy
        exact ⟨h', tk', led, rfl, F₂, N₂, off, True.intro, ih (i + 1) _ (by lia) hK'⟩
      | false =>
        simp only [Bool.false_eq_true, if_false] at hk ⊢
        obtain ⟨h', tk', rfl, F₂, N₂, hK'⟩ := hk
        exact ⟨h', tk', led, rfl, F₂, N₂, off, True.intro, ih (i + 1) _ (by lia) hK'⟩
  exact key n 0 [] (by lia) K0
theorem mod_by {a b c : Int} {t u : Tok} {Q : Value → Shared → Prop} (h : a.fmod b = c) (hb : b ≠ 0) (hQ : ∀ t' tk, Q (.int c t') { s with toks := tk }) : wpAny (model prog w) A (binaryOp .Mod (.int a t) (.int b u)) Q E s :=
  mod_int hb (by rw [h]; exact hQ _ _)
theorem fdiv_by {a b c : Int} {t u : Tok} {Q : Value → Shared → Prop} (h : a.fdiv b = c) (hb : b ≠ 0) (hs : b.natAbs < 1073741824) (hQ : ∀ t' tk, Q (.int c t') { s with toks := tk }) : wpAny (model prog w) A (binaryOp .FloorDiv (.int a t) (.int b u)) Q E s :=
  floordiv_int hb (by rw [h]; exact hQ _ _) (Or.inl (PyProof.noPylong_small hs))
noncomputable def PowIs (a n c : Int) : Prop := 0 ≤ n ∧ n ≤ 1000000 ∧ a.natAbs < 2 ^ 64 ∧ a ^ n.toNat = c
theorem pow_by {a n c : Int} {t u : Tok} {Q : Value → Shared → Prop} (h : PowIs a n c) (hQ : ∀ t' tk, Q (.int c t') { s with toks := tk }) : wpAny (model prog w) A (binaryOp .Pow (.int a t) (.int n u)) Q E s :=
  pow_int_small h.1 h.2.1 h.2.2.1 (by rw [h.2.2.2]; exact hQ _ _)
end
noncomputable def sgn : List Nat := [46, 97, 45, 93, 33, 94, 38, 126, 124, 92, 35, 32, 9, 133, 233]
noncomputable def memsOf (q : Nat) : List (List Nat) := (List.range (1 + q % 4)).map fun k => mtab.getD (q / 9 ^ k % 9) []
noncomputable def itemOf (n : Nat) : It := match n % 7 with
  | 0 => .star
  | 1 => .qm
  | 2 => .lit 10
  | 3 => .lit 13
  | 4 => .lit (sgn.getD (n / 7 % 15) 46)
  | 5 => .br false (memsOf (n / 7))
  | _ => .br true (memsOf (n / 7))
theorem mtab_at {j : Nat} (h : j < 9) : ∃ x, mtab[j]? = some x ∧ mtab.getD j [] = x ∧ x ∈ mtab := by
  have h' : j < mtab.length := h
  exact ⟨mtab[j], List.getElem?_eq_getElem h', by simp [List.getD_eq_getElem?_getD, h'], List.getElem_mem h'⟩
theorem sgn_at {j : Nat} (h : j < 15) : ∃ x, sgn[j]? = some x ∧ sgn.getD j 46 = x ∧ x ∈ lits := by
  have h' : j < sgn.length := h
  refine ⟨sgn[j], List.getElem?_eq_getElem h', by simp [List.getD_eq_getElem?_getD, h'], ?_⟩
  have : ∀ c ∈ sgn, c ∈ lits := by decide
  exact this _ (List.getElem_mem h')
theorem mems_ok (q : Nat) : memsOf q ≠ [] ∧ ∀ m ∈ memsOf q, m ∈ mtab := by
  refine ⟨fun h => ?_, fun m hm => ?_⟩
  · have := congrArg List.length h
    simp [memsOf] at this
  · obtain ⟨k, _, rfl⟩ := List.mem_map.mp hm
    obtain ⟨x, _, h2, h3⟩ := mtab_at (j := q / 9 ^ k % 9) (Nat.mod_lt _ (by decide))
    rw [h2]; exact h3
theorem item_ok (n : Nat) : (itemOf n).Ok := by
  unfold itemOf
  generalize n % 7 = r
  rcases r with _ | _ | _ | _ | _ | _ | r
  · trivial
  · trivial
  · show (10 : Nat) ∈ lits; decide
  · show (13 : Nat) ∈ lits; decide
  · obtain ⟨x, _, h2, h3⟩ := sgn_at (j := n / 7 % 15) (Nat.mod_lt _ (by decide))
    show sgn.getD (n / 7 % 15) 46 ∈ lits
    rw [h2]; exact h3
  · exact mems_ok _
  · exact mems_ok _
noncomputable def Spec3 (w : World) (f : Addr) (vs : List Value) (Pre : List (Addr × Obj) → Prop) (Out : List (Addr × Obj) → Value → Prop) : Prop :=
  ∀ (dp un : Nat) (gd : Option (List Code)) (cn : Str) (cs : Scope) (a : Addr) (ccd : Value) (cl : List (Str × Addr)) (outer : List Env) (A₀ : Around) (base h₀ : Heap) (L : Addr) (m : Str → Option Value)
    (p : Program) (loose : List Str) (mean : ExcName → Option Value) (mg mb : Str → Option Value) (news : List (Addr × Obj)) (s : Shared) (Q E : Value → Shared → Prop),
    Below A₀ base outer h₀ → Fr h₀ L s.heap m → (Mine.hp.heap_1 w.params).In h₀ → News h₀ L s.heap news → Top p loose mean mg mb h₀ → cs.kind = .function →
    Pre news → dp + 10 < recursionLimit → un + 60 < cLine →
    (∀ r tl h' tk', Fr h₀ L h' m → News h₀ L h' (news ++ tl) → (∀ q ∈ news, ∀ p ∈ tl, p.1 ≠ q.1) → Out (news ++ tl) r → Q r { s with heap := h', toks := tk' }) →
    wpAny (model PR w) (ktrTop dp un gd cn cs L a ccd cl outer) (call (.ref f) vs) Q E s
end
section
theorem LocW17.hereW17 : True := trivial
open LocW17
open PySem PySem.W PyProof.Rows PySem.Calls
set_option maxRecDepth 100000
set_option maxHeartbeats 8000000
section
variable {prog : Program} {w : World} {A : Around} {E : Value → Shared → Prop} {s : Shared} {h₀ : Heap} {L : Addr} {m : Str → Option Value}
theorem app_third {T E' D : Addr} {oT oE : Obj} {vs : List Value} {n : Nat} {v : Value} {rest : List (Addr × Obj)} {Q : Value → Shared → Prop} (F : Fr h₀ L s.heap m) (N : News h₀ L s.heap ((T, oT) :: (E', oE) :: (D, listOf vs.toArray n) :: rest)) (hT : T ≠ D) (hE : E' ≠ D) (hap : Apart D rest) (hz : vs.length ≤ 100000)
    (h : ∀ h', Fr h₀ L h' m → News h₀ L h' ((T, oT) :: (E', oE) :: (D, listOf (vs ++ [v]).toArray (n + 1)) :: rest) → Q .none { s with heap := h' }) : wpAny (model prog w) A (call (.builtin "list.append") [.ref D, v]) Q E s := by
  refine app_head (n := n) (rest := (T, oT) :: (E', oE) :: rest) F (fun p hp => ?_) (fun p hp => ?_) hz fun h' F' N' => h h' F' fun p hp => ?_
  · rcases List.mem_cons.mp hp with rfl | hp
    · exact N _ (.tail _ (.tail _ (.head _)))
    · rcases List.mem_cons.mp hp with rfl | hp
      · exact N _ (.head _)
      · rcases List.mem_cons.mp hp with rfl | hp
        · exact N _ (.tail _ (.head _))
        · exact N _ (.tail _ (.tail _ (.tail _ hp)))
  · rcases List.mem_cons.mp hp with rfl | hp
    · exact hT
    · rcases List.mem_cons.mp hp with rfl | hp
      · exact hE
      · exact hap p hp
  · rcases List.mem_cons.mp hp with rfl | hp
    · exact N' _ (.tail _ (.head _))
    · rcases List.mem_cons.mp hp with rfl | hp
      · exact N' _ (.tail _ (.tail _ (.head _)))
      · rcases List.mem_cons.mp hp with rfl | hp
        · exact N' _ (.head _)
        · exact N' _ (.tail _ (.tail _ (.tail _ hp)))
end
section
variable {prog : Program} {w : World} {A : Around} {E : Value → Shared → Prop} {s : Shared} {env : Env} {h₀ : Heap} {L : Addr} {m : Str → Option Value} {led : List (Addr × Obj)}
theorem comp_RN {elt iter : PySem.Expr} {x : Str} {px : Pos} {scope : Scope} {cl : List (Str × Addr)} {pos : Pos} {Q : Value → Shared → Prop} {n : Nat} (K : Nat → List Value → Prop) (F₀ : Fr h₀ L s.heap m) (_N : News h₀ L s.heap led) (hsz : n ≤ 100000)
    (hit : wpAny (model prog w) A (eval iter env) (RngIs h₀ L m s n led) E s) (K0 : K 0 [])
    (leaf : ∀ E' i t ys I oI C oC D m₂ h tk, i < n → K i ys → LCg.NsObj oC m₂ → m₂ x = some (.int (i : Nat) t) → Fr h₀ L h m → News h₀ L h ((I, oI) :: (C, oC) :: (D, LCg.lst ys) :: led) →
      wpAny (model prog w) A (eval elt (compEnvC scope cl C env)) (CEnd h₀ L m { s with heap := h, toks := tk } I oI C oC D ys led (fun y => K (i + 1) (ys ++ [y]))) E' { s with heap := h, toks := tk })
    (hQ : ∀ D ys h tk, K n ys → Fr h₀ L h m → News h₀ L h ((D, listOf ys.toArray ys.length) :: led) → Apart D led → Q (.ref D) { s with heap := h, toks := tk })
    (hh : A.handled = none) (hclos : closureFor scope env = pure cl) (hcell : ∀ y ∈ scope.names, y.2 ≠ .cell) (hkind : scope.kind = .function)
    (hnames : ∀ y ∈ scope.names, y.2 = .local → scope.names.lookup y.1 = some .local) (hx : scope.names.lookup x = some .local)
    (hs : ∀ x, foldedSetIterable iter env x = pure x) :
    wpAny (model prog w) A (eval (.ListComp elt [⟨.Name x px, iter, [], 0⟩] scope pos) env) Q E s := comp_R K F₀ hsz hit K0 leaf hQ hh hclos hcell hkind hnames hx hs
theorem comp_RTN {ct elt iter : PySem.Expr} {x : Str} {px : Pos} {scope : Scope} {cl : List (Str × Addr)} {pos : Pos} {Q : Value → Shared → Prop} {n : Nat} (K : Nat → List Value → Prop) (F₀ : Fr h₀ L s.heap m) (_N : News h₀ L s.heap led) (hsz : n ≤ 100000)
    (hit : wpAny (model prog w) A (eval iter env) (RngIs h₀ L m s n led) E s) (K0 : K 0 [])
    (leaf : ∀ E' i t ys I oI C oC D m₂ h tk, i < n → K i ys → LCg.NsObj oC m₂ → m₂ x = some (.int (i : Nat) t) → Fr h₀ L h m → News h₀ L h ((I, oI) :: (C, oC) :: (D, LCg.lst ys) :: led) →
      wpAny (model prog w) A (isTrue ct (compEnvC scope cl C env) (eval ct (compEnvC scope cl C env))) (fun ok s' => if ok = true then
        wpAny (model prog w) A (eval elt (compEnvC scope cl C env)) (CEnd h₀ L m { s with heap := h, toks := tk } I oI C oC D ys led (fun y => K (i + 1) (ys ++ [y]))) E' s'
        else CEnd h₀ L m { s with heap := h, toks := tk } I oI C oC D ys led (fun _ => K (i + 1) ys) .none s') E' { s with heap := h, toks := tk })
    (hQ : ∀ D ys h tk, K n ys → Fr h₀ L h m → News h₀ L h ((D, listOf ys.toArray ys.length) :: led) → Apart D led → Q (.ref D) { s with heap := h, toks := tk })
    (hh : A.handled = none) (hclos : closureFor scope env = pure cl) (hcell : ∀ y ∈ scope.names, y.2 ≠ .cell) (hkind : scope.kind = .function)
    (hnames : ∀ y ∈ scope.names, y.2 = .local → scope.names.lookup y.1 = some .local) (hx : scope.names.lookup x = some .local)
    (hs : ∀ x, foldedSetIterable iter env x = pure x) :
    wpAny (model prog w) A (eval (.ListComp elt [⟨.Name x px, iter, [ct], 0⟩] scope pos) env) Q E s := comp_RT K F₀ hsz hit K0 leaf hQ hh hclos hcell hkind hnames hx hs
end
inductive NJ (ns : List Nat) (pl c2 : Addr) (base news : List (Addr × Obj)) (i : Nat) (m : Str → Option Value) (led : List (Addr × Obj)) : Prop
  | mk (ys n2 o2 v0 objs : _) (h1 : led = (pl, listOf ys.toArray n2) :: (c2, o2) :: (objs ++ base)) (h2 : o2.data = .cell v0) (h3 : DatAll objs ys ((ns.take i).map fun n => (itemOf n).dat)) (h4 : Apart pl (objs ++ base)) (h5 : Apart c2 (objs ++ base)) (h6 : (∀ p ∈ objs, ∀ q ∈ news, p.1 ≠ q.1)) (h7 : Has m [("items", .ref pl)]) : NJ ns pl c2 base news i m led
theorem datAll_len {news : List (Addr × Obj)} {vs : List Value} {ds : List Dat} (h : DatAll news vs ds) : vs.length = ds.length := h.length
theorem datAll_snoc {news : List (Addr × Obj)} {v : Value} {d : Dat} {vs : List Value} {ds : List Dat} (a : DatAll news vs ds) (h : DatIn news v d) : DatAll news (vs ++ [v]) (ds ++ [d]) :=
  a.append (.one h)
theorem nums_step (n : Nat) : Int.fmod (n : Int) 7 = ((n % 7 : Nat) : Int) ∧ Int.fdiv (n : Int) 7 = ((n / 7 : Nat) : Int) := by
  constructor
  · rw [Int.fmod_eq_emod_of_nonneg _ (by decide)]; lia
  · rw [Int.fdiv_eq_ediv_of_nonneg _ (by decide)]; lia
theorem nat_fmod (n k : Nat) : Int.fmod (n : Int) (k : Int) = ((n % k : Nat) : Int) := by rw [Int.fmod_eq_emod_of_nonneg _ (by lia)]; exact (Int.natCast_emod n k).symm
theorem nat_fdiv (n k : Nat) : Int.fdiv (n : Int) (k : Int) = ((n / k : Nat) : Int) := by rw [Int.fdiv_eq_ediv_of_nonneg _ (by lia)]; exact (Int.natCast_ediv n k).symm
theorem kind_cases (n : Nat) : (n % 7 = 0 ∧ itemOf n = .star) ∨ (n % 7 = 1 ∧ itemOf n = .qm) ∨ (n % 7 = 2 ∧ itemOf n = .lit 10) ∨ (n % 7 = 3 ∧ itemOf n = .lit 13) ∨ (n % 7 = 4 ∧ itemOf n = .lit (sgn.getD (n / 7 % 15) 46)) ∨ (n % 7 = 5 ∧ itemOf n = .br false (memsOf (n / 7))) ∨ (n % 7 = 6 ∧ itemOf n = .br true (memsOf (n / 7))) := by
  have h : n % 7 < 7 := Nat.mod_lt _ (by decide)
  unfold itemOf
  generalize n % 7 = r at h
  rcases r with _ | _ | _ | _ | _ | _ | _ | r
  · exact .inl ⟨rfl, rfl⟩
  · exact .inr (.inl ⟨rfl, rfl⟩)
  · exact .inr (.inr (.inl ⟨rfl, rfl⟩))
  · exact .inr (.inr (.inr (.inl ⟨rfl, rfl⟩)))
  · exact .inr (.inr (.inr (.inr (.inl ⟨rfl, rfl⟩))))
  · exact .inr (.inr (.inr (.inr (.inr (.inl ⟨rfl, rfl⟩)))))
  · exact .inr (.inr (.inr (.inr (.inr (.inr ⟨rfl, rfl⟩)))))
  · exact absurd h (Nat.not_lt.mpr (Nat.le_add_left 7 r))
theorem num_at {vs : List Value} {ns : List Nat} {i : Nat} {v : Value} (hv : IntsAre vs (ns.map fun n => ((n : Nat) : Int))) (h : vs[i]? = some v) : ∃ n t, v = .int (n : Nat) t ∧ ns[i]? = some n := by
  obtain ⟨n', t, rfl, hn⟩ := hv.at i v h
  rw [List.getElem?_map] at hn
  cases hq : ns[i]? with
  | none => rw [hq] at hn; cases hn
  | some n => rw [hq] at hn; cases hn; exact ⟨n, t, rfl, rfl⟩
theorem fm {n r : Nat} (h : n % 7 = r) : Int.fmod (n : Int) 7 = (r : Int) := by rw [(nums_step n).1, h]
theorem kind_casesI (n : Nat) : (Int.fmod (n : Int) 7 = 0 ∧ itemOf n = .star) ∨ (Int.fmod (n : Int) 7 = 1 ∧ itemOf n = .qm) ∨ (Int.fmod (n : Int) 7 = 2 ∧ itemOf n = .lit 10) ∨ (Int.fmod (n : Int) 7 = 3 ∧ itemOf n = .lit 13) ∨ (Int.fmod (n : Int) 7 = 4 ∧ itemOf n = .lit (sgn.getD (n / 7 % 15) 46)) ∨ (Int.fmod (n : Int) 7 = 5 ∧ itemOf n = .br false (memsOf (n / 7))) ∨ (Int.fmod (n : Int) 7 = 6 ∧ itemOf n = .br true (memsOf (n / 7))) := by
  rcases kind_cases n with ⟨h, e⟩ | ⟨h, e⟩ | ⟨h, e⟩ | ⟨h, e⟩ | ⟨h, e⟩ | ⟨h, e⟩ | ⟨h, e⟩
  · exact .inl ⟨fm h, e⟩
  · exact .inr (.inl ⟨fm h, e⟩)
  · exact .inr (.inr (.inl ⟨fm h, e⟩))
  · exact .inr (.inr (.inr (.inl ⟨fm h, e⟩)))
  · exact .inr (.inr (.inr (.inr (.inl ⟨fm h, e⟩))))
  · exact .inr (.inr (.inr (.inr (.inr (.inl ⟨fm h, e⟩)))))
  · exact .inr (.inr (.inr (.inr (.inr (.inr ⟨fm h, e⟩)))))
theorem nj_base {pl c1 c2 tb : Addr} {o1 otb : Obj} {news : List (Addr × Obj)} (la : c2 < tb ∧ c1 < tb ∧ AllLt tb news) (lb : tb < pl ∧ c2 < pl ∧ c1 < pl ∧ AllLt pl news) (hc : c1 < c2) (ap1 : Apart c1 news) (ap2 : Apart c2 news) : Apart pl ((tb, otb) :: (c1, o1) :: news) ∧ Apart c2 ((tb, otb) :: (c1, o1) :: news) ∧ pl ≠ c2 := by
  refine ⟨fun p hp => ?_, fun p hp => ?_, Nat.ne_of_gt lb.2.1⟩
  · rcases List.mem_cons.mp hp with rfl | hp
    · exact Nat.ne_of_lt lb.1
    · rcases List.mem_cons.mp hp with rfl | hp
      · exact Nat.ne_of_lt lb.2.2.1
      · exact Nat.ne_of_lt (allLt_mem lb.2.2.2 p hp)
  · rcases List.mem_cons.mp hp with rfl | hp
    · exact Nat.ne_of_gt la.1
    · rcases List.mem_cons.mp hp with rfl | hp
      · exact Nat.ne_of_lt hc
      · exact ap2 p hp
theorem lt4 {pl I c2 E' : Addr} {r : List (Addr × Obj)} (h : pl < E' ∧ I < E' ∧ c2 < E' ∧ AllLt E' r) : pl ≠ E' ∧ I ≠ E' ∧ c2 ≠ E' ∧ Apart E' r := ⟨Nat.ne_of_lt h.1, Nat.ne_of_lt h.2.1, Nat.ne_of_lt h.2.2.1, apart_l h.2.2.2⟩
theorem ap4 {pl I c2 E' : Addr} {o1 o2 o3 : Obj} {r : List (Addr × Obj)} (h : Apart E' ((pl, o1) :: (I, o2) :: (c2, o3) :: r)) : pl ≠ E' ∧ I ≠ E' ∧ c2 ≠ E' ∧ Apart E' r := ⟨h _ (.head _), h _ (.tail _ (.head _)), h _ (.tail _ (.tail _ (.head _))), fun p hp => h p (.tail _ (.tail _ (.tail _ hp)))⟩
theorem ne_hap {pl E' : Addr} {o : Obj} {r : List (Addr × Obj)} (h : Apart E' ((pl, o) :: r)) : E' ≠ pl := (h _ (.head _)).symm
theorem nj_fin {g h' : Heap} {L pl c2 I T E' : Addr} {s : Shared} {tk' : Nat} {m' : Str → Option Value} {ns : List Nat} {base news : List (Addr × Obj)} {i : Nat} {ys : List Value} {nn n : Nat} {o2 oI oT oE : Obj} {v0 : Option Value} {objs : List (Addr × Obj)} {x : Obj}
    (hne : ∀ p ∈ (pl, x) :: (c2, o2) :: (objs ++ base), p.1 ≠ I) (F : Fr g L h' m') (hm : m' "items" = some (.ref pl)) {o2' : Obj}
    (N : News g L h' ((T, oT) :: (E', oE) :: (pl, listOf (ys ++ [Value.ref T]).toArray nn) :: (I, oI) :: (c2, o2') :: (objs ++ base)))
    (hE : pl ≠ E' ∧ I ≠ E' ∧ c2 ≠ E' ∧ Apart E' (objs ++ base)) (hT : E' < T ∧ pl < T ∧ I < T ∧ c2 < T ∧ AllLt T (objs ++ base)) (hb : ∀ q ∈ news, q ∈ base)
    (hd : o2'.data = .cell v0) (hi : ns[i]? = some n) (hD : DatAll objs ys ((ns.take i).map fun n => (itemOf n).dat)) (d : DatIn [(T, oT), (E', oE)] (.ref T) (itemOf n).dat)
    (apl : Apart pl (objs ++ base)) (apc : Apart c2 (objs ++ base)) (hob : ∀ p ∈ objs, ∀ q ∈ news, p.1 ≠ q.1) :
    TurnNx g L s (NJ ns pl c2 base news (i + 1)) [(I, oI)] { s with heap := h', toks := tk' } := by
  have hTm := allLt_mem hT.2.2.2.2
  refine ⟨h', tk', m', (pl, listOf (ys ++ [Value.ref T]).toArray nn) :: (c2, o2') :: (((T, oT) :: (E', oE) :: objs) ++ base), rfl, F, fun p hp => ?_, fun q hq p hp => ?_, ys ++ [Value.ref T], nn, o2', v0, (T, oT) :: (E', oE) :: objs, rfl, hd, ?_, fun p hp => ?_, fun p hp => ?_, fun p hp q hq => ?_, Has.co hm Has.nil⟩
  · rcases List.mem_cons.mp hp with rfl | hp
    · exact N _ (.tail _ (.tail _ (.tail _ (.head _))))
    · rcases List.mem_cons.mp hp with rfl | hp
      · exact N _ (.tail _ (.tail _ (.head _)))
      · rcases List.mem_cons.mp hp with rfl | hp
        · exact N _ (.tail _ (.tail _ (.tail _ (.tail _ (.head _)))))
        · rcases List.mem_cons.mp hp with rfl | hp
          · exact N _ (.head _)
          · rcases List.mem_cons.mp hp with rfl | hp
            · exact N _ (.tail _ (.head _))
            · exact N _ (.tail _ (.tail _ (.tail _ (.tail _ (.tail _ hp)))))
  · rw [List.mem_singleton.mp hq]
    rcases List.mem_cons.mp hp with rfl | hp
    · exact hne (pl, x) (.head _)
    · rcases List.mem_cons.mp hp with rfl | hp
      · exact hne (c2, o2) (.tail _ (.head _))
      · rcases List.mem_cons.mp hp with rfl | hp
        · exact Nat.ne_of_gt hT.2.2.1
        · rcases List.mem_cons.mp hp with rfl | hp
          · exact hE.2.1.symm
          · exact hne p (.tail _ (.tail _ hp))
  · rw [List.take_add_one, hi, List.map_append]
    exact datAll_snoc (hD.mono fun p hp => .tail _ (.tail _ hp)) (d.mono fun p hp => by
      rcases List.mem_cons.mp hp with rfl | hp
      · exact .head _
      · rw [List.mem_singleton.mp hp]; exact .tail _ (.head _))
  · rcases List.mem_cons.mp hp with rfl | hp
    · exact Nat.ne_of_gt hT.2.1
    · rcases List.mem_cons.mp hp with rfl | hp
      · exact hE.1.symm
      · exact apl p hp
  · rcases List.mem_cons.mp hp with rfl | hp
    · exact Nat.ne_of_gt hT.2.2.2.1
    · rcases List.mem_cons.mp hp with rfl | hp
      · exact hE.2.2.1.symm
      · exact apc p hp
  · rcases List.mem_cons.mp hp with rfl | hp
    · exact Nat.ne_of_gt (hTm q (List.mem_append_right _ (hb q hq)))
    · rcases List.mem_cons.mp hp with rfl | hp
      · exact (hE.2.2.2 q (List.mem_append_right _ (hb q hq))).symm
      · exact hob p hp q hq
theorem ap_cons {pl c : Addr} {o : Obj} {r : List (Addr × Obj)} (h : pl ≠ c) (k : Apart pl r) : Apart pl ((c, o) :: r) := fun p hp => by
  rcases List.mem_cons.mp hp with rfl | hp
  · exact h.symm
  · exact k p hp
theorem ap_swap {pl I c : Addr} {o o' oI : Obj} {r : List (Addr × Obj)} (h : Apart pl ((I, oI) :: (c, o) :: r)) : Apart pl ((I, oI) :: (c, o') :: r) := fun p hp => by
  rcases List.mem_cons.mp hp with rfl | hp
  · exact h _ (.head _)
  · rcases List.mem_cons.mp hp with rfl | hp
    · exact h (c, o) (.tail _ (.head _))
    · exact h p (.tail _ (.tail _ hp))
theorem sgn_at2 {j : Nat} (h : j < 15) : At [46, 97, 45, 93, 33, 94, 38, 126, 124, 92, 35, 32, 9, 133, 233] (j : Nat) (sgn.getD j 46) := by
  refine ⟨by lia, by lia, ?_⟩
  obtain ⟨x, h1, h2, _⟩ := sgn_at h
  rw [h2, ← h1]; rfl
theorem leaf_nums {q i : Nat} (h : i < 1 + q % 4) : PowIs 9 (i : Nat) ((9 ^ i : Nat) : Int) ∧ Int.fdiv (q : Int) ((9 ^ i : Nat) : Int) = ((q / 9 ^ i : Nat) : Int) ∧ ((9 ^ i : Nat) : Int) ≠ 0 ∧ ((9 ^ i : Nat) : Int).natAbs < 1073741824 ∧ Int.fmod ((q / 9 ^ i : Nat) : Int) 9 = ((q / 9 ^ i % 9 : Nat) : Int) := by
  have h4 : q % 4 < 4 := Nat.mod_lt _ (by decide)
  have hi : i < 4 := by lia
  refine ⟨⟨by lia, by lia, by decide, ?_⟩, nat_fdiv q (9 ^ i), ?_, ?_, nat_fmod _ 9⟩
  · rw [Int.toNat_natCast]; exact (Int.natCast_pow 9 i).symm
  · have : 9 ^ i ≠ 0 := by
      rcases i with _ | _ | _ | _ | i <;> simp
    lia
  · rcases i with _ | _ | _ | _ | i <;> first | decide | lia
theorem tab_at {tv : List Value} (h : TxAre tv mtab) {j : Nat} (hj : j < 9) : ∃ t, LAt tv ((j : Nat) : Int) (.str (S (mtab.getD j [])) t) := by
  obtain ⟨x, h1, h2, _⟩ := mtab_at hj
  have hl : tv.length = 9 := h.len
  have hlt : j < tv.length := by lia
  obtain ⟨y, t, hy, e⟩ := h.get (List.getElem?_eq_getElem hlt)
  rw [h1] at hy
  cases hy
  refine ⟨t, by lia, by lia, ?_⟩
  rw [Int.toNat_natCast, h2, ← e]
  exact List.getElem?_eq_getElem hlt
theorem mem_add {q i : Nat} {ys : List Value} {t : Tok} (h : TxAre ys ((List.range i).map fun k => mtab.getD (q / 9 ^ k % 9) [])) : TxAre (ys ++ [.str (S (mtab.getD (q / 9 ^ i % 9) [])) t]) ((List.range (i + 1)).map fun k => mtab.getD (q / 9 ^ k % 9) []) := by
  rw [List.range_succ, List.map_append]; exact h.snoc
theorem tx_dat {news : List (Addr × Obj)} {ys : List Value} {ts : List (List Nat)} (h : TxAre ys ts) : DatAll news ys (ts.map fun t => Dat.str (S t)) := by
  induction h with
  | nil => exact .nil
  | cons _ ih => exact .cons (.str _ _) ih
theorem br_dat {q : Nat} {neg : Bool} {T E' : Addr} {ys : List Value} {n k : Nat} {t : Tok} (h : TxAre ys ((List.range (1 + q % 4)).map fun k => mtab.getD (q / 9 ^ k % 9) [])) : DatIn [(T, tupOf [.int (brKind neg) t, .ref E'] k), (E', listOf ys.toArray n)] (.ref T) (It.br neg (memsOf q)).dat := by
  refine .tuple (.head _) (.cons (.int _ _) (.cons (.list (.tail _ (.head _)) ?_) .nil))
  exact (tx_dat h : DatAll _ ys ((memsOf q).map fun t => Dat.str (S t)))
theorem nj_len {objs : List (Addr × Obj)} {ys : List Value} {ns : List Nat} {i : Nat} (hD : DatAll objs ys ((ns.take i).map fun n => (itemOf n).dat)) (hl : ns.length ≤ 100) : ys.length ≤ 100000 := by
  rw [hD.length, List.length_map]
  have := List.length_take_le i ns
  have := List.length_take_le' i ns
  lia
theorem nj_done {h₀ h : Heap} {L pl c2 : Addr} {o2 x : Obj} {objs base news : List (Addr × Obj)} (N : News h₀ L h ((pl, x) :: (c2, o2) :: (objs ++ base))) (hb : ∀ q ∈ news, q ∈ base) : News h₀ L h (news ++ (pl, x) :: objs) := fun p hp => by
  rcases List.mem_append.mp hp with hp | hp
  · exact N p (.tail _ (.tail _ (List.mem_append_right _ (hb p hp))))
  · rcases List.mem_cons.mp hp with rfl | hp
    · exact N _ (.head _)
    · exact N p (.tail _ (.tail _ (List.mem_append_left _ hp)))
theorem nj_own {pl : Addr} {x : Obj} {objs base news : List (Addr × Obj)} (hb : ∀ q ∈ news, q ∈ base) (apl : Apart pl (objs ++ base)) (hob : ∀ p ∈ objs, ∀ q ∈ news, p.1 ≠ q.1) : ∀ q ∈ news, ∀ p ∈ (pl, x) :: objs, p.1 ≠ q.1 := fun q hq p hp => by
  rcases List.mem_cons.mp hp with rfl | hp
  · exact (apl q (List.mem_append_right _ (hb q hq))).symm
  · exact hob p hp q hq
theorem nj_out {ns : List Nat} {vs ys : List Value} {pl : Addr} {n2 : Nat} {objs news : List (Addr × Obj)} (hv : IntsAre vs (ns.map fun n => ((n : Nat) : Int))) (hD : DatAll objs ys ((ns.take vs.length).map fun n => (itemOf n).dat)) : DatIn (news ++ (pl, listOf ys.toArray n2) :: objs) (.ref pl) (itemsDat (ns.map itemOf)) := by
  have hl := hv.length
  rw [List.length_map] at hl
  rw [hl, List.take_length] at hD
  unfold itemsDat
  rw [List.map_map]
  exact .list (List.mem_append_right _ (.head _)) (hD.mono fun p hp => List.mem_append_right _ (.tail _ hp))
example : True := by
  k_with "k_mem" =>
    (fail_if_success (fail_if_success (have := hereW17)))
    (assumption)
  trivial
example : True := by
  k_with "exec For Name Name cons nil" =>
    (fail_if_success (fail_if_success (have := hereW17)))
    ((refine halt ?_))
  trivial
example : True := by
  k_with "eval ListComp" =>
    (fail_if_success (fail_if_success (have := hereW17)))
    ((refine halt ?_))
  trivial
example : True := by
  k_with "binaryOp Mod int int" =>
    (fail_if_success (fail_if_success (have := hereW17)))
    ((refine' Mine.mod_by ?m19112 ?m29112 ?_; (case m19112 => with_reducible assumption); (case m29112 => decide); intro _ _))
  trivial
example : True := by
  k_with "binaryOp FloorDiv int int" =>
    (fail_if_success (fail_if_success (have := hereW17)))
    ((refine' Mine.fdiv_by ?m19113 ?m29113 ?m39113 ?_; (case m19113 => with_reducible assumption); (case m29113 => first | with_reducible assumption | decide); (case m39113 => first | with_reducible assumption | decide); intro _ _))
  trivial
example : True := by
  k_with "binaryOp Pow int int" =>
    (fail_if_success (fail_if_success (have := hereW17)))
    ((refine' Mine.pow_by ?m19114 ?_; (case m19114 => with_reducible assumption); intro _ _))
  trivial
theorem ap_lt {c L' : Addr} {news : List (Addr × Obj)} (h : ∀ p ∈ news, p.1 < L') (hc : L' ≤ c) : Apart c news := fun p hp => Nat.ne_of_lt (Nat.lt_of_lt_of_le (h p hp) hc)
example : True := by
  k_with "k_updF" =>
    (fail_if_success (fail_if_success (have := hereW17)))
    (first
        | exact UpdF.head (by assumption)
        | (refine' UpdF.tail ?ua9115 ?ub9115; (case ua9115 => first | assumption | (refine neN ?_; (try dsimp only); omega)); (case ub9115 => k_updF)))
  trivial
example : True := by
  k_with "eval Name" =>
    (fail_if_success (fail_if_success (have := hereW17)))
    ((k_here; k_dflt (first
        | (refine' nameX_L ?F9116 ?v9116 ?_ ?a9116 ?b9116; (case F9116 => k_asm); (case a9116 => rfl); (case b9116 => rfl); (case v9116 => exact Eq.refl (some _)); k_whole)
        | (refine' nameX_C ?N9116 ?c9116 ?m9116 ?d9116 ?_ ?a9116 ?b9116; (case a9116 => rfl); (case b9116 => rfl); (case N9116 => k_asm); (case c9116 => rfl); (case m9116 => k_mem); (case d9116 => k_asm); k_whole))))
  trivial
example : True := by
  k_with "call builtin:list.append" =>
    (fail_if_success (fail_if_success (have := hereW17)))
    ((k_here; refine' Mine.app_third ?m19117 ?m29117 ?m39117 ?m49117 ?m59117 ?m69117 ?_; (case m19117 => k_asm); (case m29117 => k_asm); (case m39117 => ((rename _ < _ ∧ _ < _ ∧ _ < _ ∧ _ < _ ∧ _ => q); exact Nat.ne_of_gt q.2.1)); (case m49117 => first | ((rename _ < _ ∧ _ < _ ∧ _ < _ ∧ AllLt _ _ => q); exact Nat.ne_of_gt q.1) | with_reducible exact Mine.ne_hap (by assumption)); (case m59117 => first | with_reducible assumption | with_reducible exact Mine.ap_swap (by assumption)); (case m69117 => with_reducible assumption); intro _ _ _))
  trivial
example : True := by
  k_with "call type:range" =>
    (fail_if_success (fail_if_success (have := hereW17)))
    ((refine halt ?_))
  trivial
example : True := by
  k_with "eval Name" =>
    (fail_if_success (fail_if_success (have := hereW17)))
    ((k_here; (with_reducible show wpAny _ _ (eval (Expr.Name _ _) (compEnvC _ _ _ _)) _ _ _); k_dflt (first
        | refine LCgL.ld_own (by k_asm) (by k_mem) (by assumption) (by assumption) ?_
        | (refine' lcf_cell ?N9119 ?c9119 ?m9119 ?d9119 ?_ ?a9119 ?b9119; (case a9119 => rfl); (case b9119 => rfl); (case N9119 => k_asm); (case c9119 => rfl); (case m9119 => (repeat (first | exact List.Mem.head _ | apply List.mem_append_right | apply List.mem_cons_of_mem))); (case d9119 => assumption); k_whole))))
  trivial
example : True := by
  k_with "subscriptTail Name BinOp ref int" =>
    (fail_if_success (fail_if_success (have := hereW17)))
    ((k_here; (refine' Mine.lat_get ?m19120 ?m29120 ?m39120 ?_ ?m49120); (case m19120 => k_asm); (case m29120 => (repeat (first | exact List.Mem.head _ | apply List.mem_append_right | apply List.mem_cons_of_mem))); (case m39120 => with_reducible assumption); (case m49120 => with_reducible exact Mine.sub_binop)))
  trivial
theorem itemsw (w : World) (ns : List Nat) (vs : List Value) (nn : Nat) (l : Addr) (hv : IntsAre vs (ns.map fun n => ((n : Nat) : Int))) (hl : ns.length ≤ 100) : Spec3 w 110 [.ref l] (fun news => (l, listOf vs.toArray nn) ∈ news) (fun led v => DatIn led v (itemsDat (ns.map itemOf))) := by
  unfold Spec3 PR
  k_fill
  intro dp un gd cn cs a ccd cl outer A₀ base h₀ L m p loose mean mg mb news s Q E B F X N T hk hpre hd hu hret
  refine wpAny_call ?_
  k_dflt (refine' code_defC ?k1 ?k2 ?k3 ?k4 ?k5 ?kA ?kF ?kK ?k6 ?k7 ?k8 ?k9 ?kB ?kD ?_ ?c2 ?c3 ?c4; (case kA => exact rfl); (case kF => exact rfl); (case kK => assumption); (case k1 => k_asm); (case k2 => k_asm); (case k3 => k_asm); (case k4 => k_asm); (case k5 => k_asm); (case k6 => k_is); (case k7 => k_is); (case k8 => ktr_room); (case k9 => exact BindsTo.of_eq rfl); (case kB => exact rfl); (case kD => decide +kernel); (case c2 => exact rfl); (case c3 => exact rfl); (case c4 => exact rfl); k_whole; intro g' L' h' tk' cells' FG' F' N' Y' B' X' T' l1; obtain ⟨o1, o2, hE, d1, d2⟩ := CellsAre.two Y'; subst hE; clear Y'; replace d1 : o1.data = .cell none := d1; replace d2 : o2.data = .cell none := d2; (try simp only [List.cons_append, List.nil_append] at N'); (try dsimp only); (try k_lift B'); (try k_fold))
  refine letA ?_
  intro A1
  refine letV ?_
  intro e1
  (rename Fr _ _ _ _ => F0)
  replace F0 := fr_gen [("numbers", .ref l)] F0 (Has.cons rfl Has.nil)
  obtain ⟨m0, F0⟩ := F0
  dsimp only [kB_e1, kB_e2] at F0
  have ap1 : Apart (L' + 1) news := ap_lt l1 (Nat.le_succ _)
  have ap2 : Apart (L' + 1 + 1) news := ap_lt l1 (Nat.le_trans (Nat.le_succ _) (Nat.le_succ _))
  k_steps
  rename_i tb hh1 la hh2 ot dt pl hh3 lb hh4 F1 N1
  obtain ⟨tv, htv, N2⟩ : ∃ tv : List Value, TxAre tv mtab ∧ News g' L' hh4 ((pl, listOf (([] : List Value).toArray) 0) :: (tb, listOf tv.toArray 0) :: (L' + 1 + 1, o1) :: (L' + 1, ot) :: news) := ⟨[_, _, _, _, _, _, _, _, _], by unfold mtab; exact .cons (.cons (.cons (.cons (.cons (.cons (.cons (.cons (.cons .nil)))))))), N1⟩
  obtain ⟨apl, apc, npc⟩ := nj_base (otb := listOf tv.toArray 0) (o1 := ot) la lb (Nat.lt_succ_self _) ap1 ap2
  obtain ⟨c2, hc2⟩ : ∃ c2, c2 = L' + 1 + 1 := ⟨_, rfl⟩
  have hbn : ∀ q ∈ news, q ∈ (tb, listOf tv.toArray 0) :: (L' + 1, ot) :: news := fun q hq => .tail _ (.tail _ hq)
  show wpAny _ _ _ _ _ _
  try k_fold
  refine for_list (h₀ := g') (l := l) (vs := vs) (nn := nn) rfl (NJ ns pl (L' + 1 + 1) ((tb, listOf tv.toArray 0) :: (L' + 1, ot) :: news) news) (fun i m led h => by obtain ⟨_, _, _, _, _, rfl, _⟩ := h; exact .tail _ (.tail _ (List.mem_append_right _ (hbn _ hpre)))) (fun _ => rfl) ?_ ?_ ?_
  · k_steps
    exact ⟨rfl, _, _, _, _, rfl, F1, news_sub N2 (fun p hp => by
      rcases List.mem_cons.mp hp with rfl | hp
      · exact .head _
      · rcases List.mem_cons.mp hp with rfl | hp
        · exact .tail _ (.tail _ (.head _))
        · rcases List.mem_cons.mp hp with rfl | hp
          · exact .tail _ (.head _)
          · exact .tail _ (.tail _ (.tail _ hp))), [], 0, o1, _, [], rfl, d1, .nil, apl, apc, (fun _ q => nomatch q), Has.cons rfl Has.nil⟩
  · rintro E' i v m₁ led h tk I o hvi ⟨ys, n2, oc, v0, objs, rfl, hdc, hD, apl2, apc2, hob, H⟩ F₂ N₂ hne
    refine letT ?_
    intro R9
    k_fold
    replace F₂ : Fr g' L' h _ := fr_at F₂ H
    dsimp only [kB_e1, kB_e2] at F₂
    have apl3 : Apart pl ((L' + 1 + 1, oc) :: (objs ++ ((tb, listOf tv.toArray 0) :: (L' + 1, ot) :: news))) := ap_cons npc apl2
    replace N₂ : News g' L' h _ := turn_in N₂
    have hapI := turn_ap (o := o) hne apl3
    have hIc : I ≠ L' + 1 + 1 := (hne _ (.tail _ (.head _))).symm
    have hys : ys.length ≤ 100000 := nj_len hD hl
    obtain ⟨n, t, rfl, hni⟩ := num_at hv hvi
    have hf : Int.fdiv (n : Int) 7 = ((n / 7 : Nat) : Int) := (nums_step n).2
    clear F1 N1 N2 H la lb
    rcases kind_casesI n with ⟨hk1, hit⟩ | ⟨hk1, hit⟩ | ⟨hk1, hit⟩ | ⟨hk1, hit⟩ | ⟨hk1, hit⟩ | ⟨hk1, hit⟩ | ⟨hk1, hit⟩
    · k_steps
      exact nj_fin hne (by assumption) rfl (by assumption) (lt4 (by assumption)) (by assumption) hbn (by assumption) hni hD (by rw [hit]; exact .tuple (.head _) (.cons (.int _ _) (.cons (.list (.tail _ (.head _)) .nil) .nil))) apl2 apc2 hob
    · k_steps
      exact nj_fin hne (by assumption) rfl (by assumption) (lt4 (by assumption)) (by assumption) hbn (by assumption) hni hD (by rw [hit]; exact .tuple (.head _) (.cons (.int _ _) (.cons (.list (.tail _ (.head _)) .nil) .nil))) apl2 apc2 hob
    · k_steps
      exact nj_fin hne (by assumption) rfl (by assumption) (lt4 (by assumption)) (by assumption) hbn (by assumption) hni hD (by rw [hit]; exact .tuple (.head _) (.cons (.int _ _) (.cons (.list (.tail _ (.head _)) (.cons (.str _ _) .nil)) .nil))) apl2 apc2 hob
    · k_steps
      exact nj_fin hne (by assumption) rfl (by assumption) (lt4 (by assumption)) (by assumption) hbn (by assumption) hni hD (by rw [hit]; exact .tuple (.head _) (.cons (.int _ _) (.cons (.list (.tail _ (.head _)) (.cons (.str _ _) .nil)) .nil))) apl2 apc2 hob
    · have hmod : Int.fmod ((n / 7 : Nat) : Int) 15 = ((n / 7 % 15 : Nat) : Int) := nat_fmod (n / 7) 15
      have hat := sgn_at2 (j := n / 7 % 15) (Nat.mod_lt _ (by decide))
      k_steps
      exact nj_fin hne (by assumption) rfl (by assumption) (lt4 (by assumption)) (by assumption) hbn (by assumption) hni hD (by rw [hit]; exact .tuple (.head _) (.cons (.int _ _) (.cons (.list (.tail _ (.head _)) (.cons (.str _ _) .nil)) .nil))) apl2 apc2 hob
    · have hq : Int.fmod ((n / 7 : Nat) : Int) 4 = ((n / 7 % 4 : Nat) : Int) := nat_fmod (n / 7) 4
      have hq2 : (1 : Int) + ((n / 7 % 4 : Nat) : Int) = ((1 + n / 7 % 4 : Nat) : Int) := by omega
      have hq3 : 1 + n / 7 % 4 ≤ 100000 := by omega
      k_steps
      (rename Fr _ _ _ _ => FF)
      (rename News _ _ _ _ => NN)
      show wpAny _ _ _ _ _ _
      try k_fold
      refine comp_RN (cl := [("table", L' + 1), ("rest", L' + 1 + 1)]) (n := 1 + n / 7 % 4) (fun i ys => TxAre ys ((List.range i).map fun k => mtab.getD (n / 7 / 9 ^ k % 9) [])) FF NN hq3 ?hit .nil (fun E' i t ys I oI C oC D m₂ h tk hi hK hC hx F' N' => ?leaf) (fun D ys h tk hK F' N' hap => ?done) rfl rfl (by decide) rfl (by decide) rfl (fun _ => rfl)
      case hit =>
        k_steps
        (rename Fr _ _ _ _ => F5)
        (rename News _ _ _ _ => N5)
        show wpAny _ _ _ _ _ _
        try k_fold
        refine rng_call (n := 1 + n / 7 % 4) hq2 F5 N5 fun r h' tk t u v F' N' hlt => ?_
        k_steps
        exact rng_is F' N'
      case leaf =>
        obtain ⟨e1, e2, e3, e4, e5⟩ := leaf_nums hi
        obtain ⟨tt, hta⟩ := tab_at htv (j := n / 7 / 9 ^ i % 9) (Nat.mod_lt _ (by decide))
        k_steps
        exact cend (by assumption) (by assumption) (mem_add hK)
      case done =>
        clear FF NN
        k_steps
        exact nj_fin hne (by assumption) rfl (by assumption) (ap4 hap) (by assumption) hbn (by assumption) hni hD (by rw [hit]; exact br_dat (neg := false) (k := 0) hK) apl2 apc2 hob
    · have hq : Int.fmod ((n / 7 : Nat) : Int) 4 = ((n / 7 % 4 : Nat) : Int) := nat_fmod (n / 7) 4
      have hq2 : (1 : Int) + ((n / 7 % 4 : Nat) : Int) = ((1 + n / 7 % 4 : Nat) : Int) := by omega
      have hq3 : 1 + n / 7 % 4 ≤ 100000 := by omega
      k_steps
      (rename Fr _ _ _ _ => FF)
      (rename News _ _ _ _ => NN)
      show wpAny _ _ _ _ _ _
      try k_fold
      refine comp_RN (cl := [("table", L' + 1), ("rest", L' + 1 + 1)]) (n := 1 + n / 7 % 4) (fun i ys => TxAre ys ((List.range i).map fun k => mtab.getD (n / 7 / 9 ^ k % 9) [])) FF NN hq3 ?hit .nil (fun E' i t ys I oI C oC D m₂ h tk hi hK hC hx F' N' => ?leaf) (fun D ys h tk hK F' N' hap => ?done) rfl rfl (by decide) rfl (by decide) rfl (fun _ => rfl)
      case hit =>
        k_steps
        (rename Fr _ _ _ _ => F5)
        (rename News _ _ _ _ => N5)
        show wpAny _ _ _ _ _ _
        try k_fold
        refine rng_call (n := 1 + n / 7 % 4) hq2 F5 N5 fun r h' tk t u v F' N' hlt => ?_
        k_steps
        exact rng_is F' N'
      case leaf =>
        obtain ⟨e1, e2, e3, e4, e5⟩ := leaf_nums hi
        obtain ⟨tt, hta⟩ := tab_at htv (j := n / 7 / 9 ^ i % 9) (Nat.mod_lt _ (by decide))
        k_steps
        exact cend (by assumption) (by assumption) (mem_add hK)
      case done =>
        clear FF NN
        k_steps
        exact nj_fin hne (by assumption) rfl (by assumption) (ap4 hap) (by assumption) hbn (by assumption) hni hD (by rw [hit]; exact br_dat (neg := true) (k := 0) hK) apl2 apc2 hob
  · rintro m₁ led h tk ⟨ys, n2, oc, v0, objs, rfl, hdc, hD, apl2, apc2, hob, H⟩ F₂ N₂
    replace F₂ : Fr g' L' h _ := fr_at F₂ H
    dsimp only [kB_e1, kB_e2] at F₂
    replace N₂ : News g' L' h _ := N₂
    k_steps
    exact hret (.ref pl) ((pl, listOf ys.toArray n2) :: objs) _ _ (by assumption) (nj_done (by assumption) hbn) (nj_own hbn apl2 hob) (nj_out hv hD)
end
section
open PySem PySem.W PyProof.Rows PySem.Calls
set_option maxRecDepth 100000
set_option maxHeartbeats 4000000
section
variable {prog : Program} {w : World} {A : Around} {E : Value → Shared → Prop} {s : Shared} {env : Env} {h₀ : Heap} {L : Addr} {m : Str → Option Value} {led : List (Addr × Obj)}
inductive EnumReady (h₀ : Heap) (L : Addr) (s : Shared) (l : Addr) (J : (Str → Option Value) → List (Addr × Obj) → Prop) (v : Value) (s₁ : Shared) : Prop
  | mk (e it h tk m led : _) (h1 : v = .ref e) (h2 : s₁ = { s with heap := h, toks := tk }) (h3 : Fr h₀ L h m) (h4 : News h₀ L h led) (h5 : J m led) (h6 : IsEnum h e it 0 .none) (h7 : h.IsListIter it l 0) (h8 : e ≠ it) (h9 : (∀ p ∈ led, p.1 ≠ e ∧ p.1 ≠ it)) (h10 : e ≠ L) (h11 : it ≠ L) (h12 : h₀.get? e = none) (h13 : h₀.get? it = none) : EnumReady h₀ L s l J v s₁
theorem enum_ready {l : Addr} {vs : List Value} {nn : Nat} {J : (Str → Option Value) → List (Addr × Obj) → Prop} {s₀ : Shared} {tk : Nat} (F : Fr h₀ L s.heap m) (N : News h₀ L s.heap led) (hl : (l, listOf vs.toArray nn) ∈ led) (hJ : J m led) (hs : s = { s₀ with heap := s.heap, toks := tk }) :
    wpAny (model prog w) A (call (.type "enumerate") [.ref l]) (EnumReady h₀ L s₀ l J) E s := by
  refine call_enumerate_list (items := vs.toArray) ⟨_, (N _ hl).1, rfl, nn, rfl⟩ fun h' he hi hsz hk => ?_
  have fresh : ∀ b, s.heap.objs.size ≤ b → h₀.get? b = none := fun b hb => by
    cases q : h₀.get? b with
    | none => rfl
    | some o => exact absurd (Heap.lt_size (F.keep _ _ q)) (Nat.not_lt.mpr hb)
  refine ⟨_, _, h', tk, m, led, rfl, ?_, F.keeps hk, fun p hp => ⟨hk _ _ (N p hp).1, (N p hp).2⟩, hJ, he, hi, Nat.succ_ne_self _, fun p hp => ?_, ?_, ?_, fresh _ (Nat.le_succ _), fresh _ (Nat.le_refl _)⟩
  · rw [hs]
  · have := Heap.lt_size (N p hp).1
    exact ⟨Nat.ne_of_lt (Nat.lt_succ_of_lt this), Nat.ne_of_lt this⟩
  · exact Nat.ne_of_gt (Nat.lt_succ_of_lt F.ns.lt)
  · exact Nat.ne_of_gt F.ns.lt
noncomputable def enObj (it : Addr) : Obj := { cls := .type "enumerate", dict := none, data := .fields #[.none, .bool false, .ref it, rawInt 0, .none, .none], slots := #[] }
noncomputable def EnAt (e it l : Addr) (oi : Obj) (led : List (Addr × Obj)) : Prop := oi.cls = .type "list_iterator" ∧ oi.data = .fields #[.ref l, .int 0 0] ∧ e ≠ it ∧ ∀ p ∈ led, p.1 ≠ e ∧ p.1 ≠ it
theorem enum_call {l : Addr} {vs : List Value} {nn : Nat} {Q : Value → Shared → Prop} (F : Fr h₀ L s.heap m) (N : News h₀ L s.heap led) (hl : (l, listOf vs.toArray nn) ∈ led)
    (h : ∀ e it h' oi, Fr h₀ L h' m → News h₀ L h' ((e, enObj it) :: (it, oi) :: led) → EnAt e it l oi led → Q (.ref e) { s with heap := h' }) :
    wpAny (model prog w) A (call (.type "enumerate") [.ref l]) Q E s := by
  refine call_enumerate_list (items := vs.toArray) ⟨_, (N _ hl).1, rfl, nn, rfl⟩ fun h' he hi hsz hk => ?_
  obtain ⟨oi, hoi, hc, hd⟩ := hi
  have fresh : ∀ b, s.heap.objs.size ≤ b → h₀.get? b = none := fun b hb => by
    cases q : h₀.get? b with
    | none => rfl
    | some o => exact absurd (Heap.lt_size (F.keep _ _ q)) (Nat.not_lt.mpr hb)
  refine h _ _ _ oi (F.keeps hk) (fun p hp => ?_) ⟨hc, hd, Nat.succ_ne_self _, fun p hp => ?_⟩
  · rcases List.mem_cons.mp hp with q | hp
    · rw [q]; exact ⟨he, Nat.ne_of_gt (Nat.lt_succ_of_lt F.ns.lt), fresh _ (Nat.le_succ _)⟩
    · rcases List.mem_cons.mp hp with q | hp
      · rw [q]; exact ⟨hoi, Nat.ne_of_gt F.ns.lt, fresh _ (Nat.le_refl _)⟩
      · exact ⟨hk _ _ (N p hp).1, (N p hp).2⟩
  · have := Heap.lt_size (N p hp).1
    exact ⟨Nat.ne_of_lt (Nat.lt_succ_of_lt this), Nat.ne_of_lt this⟩
theorem enum_is {l e it : Addr} {oi : Obj} {h : Heap} {tk : Nat} {J : (Str → Option Value) → List (Addr × Obj) → Prop} (F : Fr h₀ L h m) (N : News h₀ L h ((e, enObj it) :: (it, oi) :: led)) (hE : EnAt e it l oi led) (hJ : J m led) : EnumReady h₀ L s l J (.ref e) { s with heap := h, toks := tk } :=
  have a := N _ (.head _)
  have b := N _ (.tail _ (.head _))
  ⟨e, it, h, tk, m, led, rfl, rfl, F, fun p hp => N p (.tail _ (.tail _ hp)), hJ, a.1, ⟨oi, b.1, hE.1, hE.2.1⟩, hE.2.2.1, hE.2.2.2, a.2.1, b.2.1, a.2.2, b.2.2⟩
inductive ForE (h₀ : Heap) (L : Addr) (s : Shared) (e it l : Addr) (vs : List Value) (J : Nat → (Str → Option Value) → List (Addr × Obj) → Prop) (k : Nat) (s' : Shared) : Prop
  | mk (i : Nat) (h' tk' m' led' : _) (h1 : k = vs.length + 1 - i) (h2 : i ≤ vs.length) (h3 : s' = { s with heap := h', toks := tk' }) (h4 : (∃ old, IsEnum h' e it i old) ∧ h'.IsListIter it l i ∧ h'.IsList l vs.toArray) (h5 : Fr h₀ L h' m') (h6 : News h₀ L h' led') (h7 : ∀ p ∈ led', p.1 ≠ e ∧ p.1 ≠ it) (h8 : J i m' led') : ForE h₀ L s e it l vs J k s'
theorem for_enum {elts : List PySem.Expr} {ke : Nat} {pe : Pos} {iter : PySem.Expr} {body : List Stmt} {pos : Pos} {Q : Flow → Shared → Prop} {l : Addr} {vs : List Value} {nn : Nat} (hh : A.handled = none)
    (J : Nat → (Str → Option Value) → List (Addr × Obj) → Prop) (hJl : ∀ i m led, J i m led → (l, listOf vs.toArray nn) ∈ led)
    (hs : ∀ x, foldedSetIterable iter env x = pure x)
    (ev : wpAny (model prog w) A (eval iter env) (EnumReady h₀ env.locals s l (J 0)) E s)
    (turn : ∀ E' i v t n m led h tk T oT e oe it oi, vs[i]? = some v → J i m led → Fr h₀ env.locals h m → oT.cls = .type "tuple" → oT.data = .seq #[.int (i : Nat) t, v] n → News h₀ env.locals h ((T, oT) :: (e, oe) :: (it, oi) :: led) → T ≠ e → T ≠ it → e ≠ it → (∀ p ∈ led, p.1 ≠ T ∧ p.1 ≠ e ∧ p.1 ≠ it) →
      wpAny (model prog w) A (assign (.Tuple elts ke pe) env (.ref T)) (fun _ s₂ => wpAny (model prog w) A (execs body env) (TurnEnd h₀ env.locals s Q (J (i + 1)) [(e, oe), (it, oi)]) E' s₂) E' { s with heap := h, toks := tk })
    (dn : ∀ m led h tk, J vs.length m led → Fr h₀ env.locals h m → News h₀ env.locals h led → Q .next { s with heap := h, toks := tk }) :
    wpAny (model prog w) A (exec (.For (.Tuple elts ke pe) iter body [] pos) env) Q E s := by
  refine wpAny_For (wpAny_mono ev (fun v s₁ h₁ => ?_) fun _ _ e => e) hs
  obtain ⟨e, it, h, tk, m, led, rfl, rfl, F, N, hJ, he, hi, hne, hoff, heL, hiL, he0, hi0⟩ := h₁
  refine wpAny_pyIter_enum he ?_
  have hll := N _ (hJl _ _ _ hJ)
  have hle : l ≠ e := (hoff _ (hJl _ _ _ hJ)).1
  have hli : l ≠ it := (hoff _ (hJl _ _ _ hJ)).2
  have W := WalksT.enumerate (prog := prog) (w := w) (A := A) hh e it l hne hle hli vs.toArray
  have hsz : vs.toArray.size = vs.length := by simp
  rw [hsz] at W
  have hst0 : (∃ old, IsEnum h e it 0 old) ∧ h.IsListIter it l 0 ∧ h.IsList l vs.toArray := ⟨⟨_, he⟩, hi, ⟨_, hll.1, rfl, nn, rfl⟩⟩
  refine codeAny_forLoop_any (fun k s' => ForE h₀ env.locals s e it l vs J k s')
    ?_ (vs.length + 1) ⟨0, h, tk, m, led, rfl, Nat.zero_le _, rfl, hst0, F, N, hoff, hJ⟩
  rintro k s' ⟨i, h', tk', m', led', rfl, hile, rfl, hst, F', N', hoff', hJ'⟩
  have wr_ne : ∀ {b : Addr}, b ≠ e → b ≠ it → b ∉ [e, it] := fun h1 h2 hm => by
    rcases List.mem_cons.mp hm with q | q
    · exact h1 q
    · exact h2 (List.mem_singleton.mp q)
  have frk : ∀ {h1 h2 : Heap} {m1 : Str → Option Value}, Fr h₀ env.locals h1 m1 → (∀ b o, b ∉ [e, it] → h1.get? b = some o → h2.get? b = some o) → Fr h₀ env.locals h2 m1 := fun F1 hk => by
    obtain ⟨oL, es, ep, hL, r⟩ := F1.ns
    refine ⟨⟨oL, es, ep, hk _ _ (wr_ne heL.symm hiL.symm) hL, r⟩, fun b o q => hk b o (wr_ne (fun x => by rw [x, he0] at q; cases q) (fun x => by rw [x, hi0] at q; cases q)) (F1.keep b o q), F1.above⟩
  rcases Nat.lt_or_ge i vs.length with hlt | hge
  · refine W.item i _ _ _ hlt hst fun T vals h₂ tk₂ hP hT0 hT hmid hk₂ => ?_
    refine W.go elts ke pe i T _ _ _ hmid fun h₃ hst₃ hk₃ => ?_
    obtain ⟨t, x, hx, rfl⟩ := hP
    have hTw := W.apart _ _ _ hmid
    obtain ⟨oT, hoT, hTc, nT, hTd⟩ := hT
    have F₃ := frk (frk F' hk₂) hk₃
    obtain ⟨⟨old, hoe⟩, ⟨oi, hoi, hoi2⟩, hl3⟩ := id hst₃
    have N₃ : News h₀ env.locals h₃ led' := fun p hp => ⟨hk₃ _ _ (wr_ne (hoff' p hp).1 (hoff' p hp).2) (hk₂ _ _ (wr_ne (hoff' p hp).1 (hoff' p hp).2) (N' p hp).1), (N' p hp).2⟩
    have hTno : T ≠ env.locals ∧ h₀.get? T = none := by
      have h1 : h'.objs.size ≤ T := hT0
      refine ⟨fun q => ?_, ?_⟩
      · have := F'.ns.lt
        rw [← q] at this
        exact Nat.lt_irrefl _ (Nat.lt_of_lt_of_le this h1)
      · cases q : h₀.get? T with
        | none => rfl
        | some o => exact absurd (Heap.lt_size (F'.keep _ _ q)) (Nat.not_lt.mpr h1)
    have hT3 : h₃.get? T = some oT := hk₃ _ _ hTw hoT
    have NN : News h₀ env.locals h₃ ((T, oT) :: (e, _) :: (it, oi) :: led') := fun p hp => by
      rcases List.mem_cons.mp hp with q | hp
      · rw [q]; exact ⟨hT3, hTno⟩
      · rcases List.mem_cons.mp hp with q | hp
        · rw [q]; exact ⟨hoe, heL, he0⟩
        · rcases List.mem_cons.mp hp with q | hp
          · rw [q]; exact ⟨hoi, hiL, hi0⟩
          · exact N₃ p hp
    have hTe : T ≠ e := fun q => hTw (by rw [q]; exact .head _)
    have hTi : T ≠ it := fun q => hTw (by rw [q]; exact .tail _ (.head _))
    refine wpAny_mono (turn (notedBy (model prog w) A env fun e s' => _) i x t nT m' led' h₃ _ T oT e _ it oi (by simpa using hx) hJ' F₃ hTc hTd NN hTe hTi hne fun p hp => ⟨Nat.ne_of_lt (Nat.lt_of_lt_of_le (Heap.lt_size (N' p hp).1) hT0), hoff' p hp⟩) (fun _ s₂ h₂ => wpAny_mono h₂ (fun f s₃ h₃ => ?_) fun _ _ e => e) fun _ _ e => e
    have fin : ∀ {oe' : Obj}, oe' = { cls := .type "enumerate", dict := none, data := .fields #[.none, .bool false, .ref it, rawInt ((i + 1 : Nat) : Int), .none, old], slots := #[] } → TurnNx h₀ env.locals s (J (i + 1)) [(e, oe'), (it, oi)] s₃ →
        ∃ m, m < vs.length + 1 - i ∧ ForE h₀ env.locals s e it l vs J m s₃ := by
      rintro oe' hoe' ⟨h₄, tk₄, m₄, led₄, rfl, F₄, N₄, ne₄, J₄⟩
      refine ⟨vs.length + 1 - (i + 1), by omega, i + 1, h₄, tk₄, m₄, led₄, rfl, hlt, rfl, ⟨⟨old, ?_⟩, ⟨oi, (N₄ (it, oi) (.tail _ (.head _))).1, hoi2⟩, ⟨_, (N₄ _ (.tail _ (.tail _ (hJl _ _ _ J₄)))).1, rfl, nn, rfl⟩⟩, F₄, fun p hp => N₄ p (.tail _ (.tail _ hp)), fun p hp => ⟨ne₄ _ (.head _) p hp, ne₄ _ (.tail _ (.head _)) p hp⟩, J₄⟩
      have := (N₄ (e, oe') (.head _)).1
      rw [hoe'] at this
      exact this
    cases f with
    | ret v => exact h₃
    | brk => exact h₃
    | next => exact fin rfl h₃
    | cont => exact fin rfl h₃
  · have hin : i = vs.length := Nat.le_antisymm hile hge
    subst hin
    refine W.done _ _ _ hst fun h₂ tk₂ hk₂ => wpAny_execs_nil ?_
    exact dn m' led' h₂ tk₂ hJ' (frk F' hk₂) fun p hp => ⟨hk₂ _ _ (wr_ne (hoff' p hp).1 (hoff' p hp).2) (N' p hp).1, (N' p hp).2⟩
theorem asgO_tup {elts : List PySem.Expr} {k : Nat} {pos : Pos} {t : Addr} {o : Obj} {vs : List Value} {n : Nat} {Q : Unit → Shared → Prop} (hh : A.handled = none) (F : Fr h₀ env.locals s.heap m) (N : News h₀ env.locals s.heap led) (ht : (t, o) ∈ led) (hc : o.cls = .type "tuple") (hd : o.data = .seq vs.toArray n)
    (hn : (assignEach elts env).length = vs.length) (hstar : (assignEach elts env).findIdx? (·.1) = none)
    (h : ∀ h', Fr h₀ env.locals h' m → News h₀ env.locals h' led → wpAny (model prog w) A (assignInOrder ((assignEach elts env).map (·.2)) vs) Q E { s with heap := h' }) :
    wpAny (model prog w) A (assign (.Tuple elts k pos) env (.ref t)) Q E s :=
  wpAny_assign_Tuple hh ⟨_, (N _ ht).1, hc, n, hd⟩ (by simpa using hn) hstar fun h' k => by
    have := h h' (fr_ext F k) (news_ext N k)
    simpa using this
theorem asgO2 {a b : Str} {pa pb pos : Pos} {k : Nat} {t : Addr} {o : Obj} {u v : Value} {n : Nat} {Q : Unit → Shared → Prop} (hh : A.handled = none) (F : Fr h₀ env.locals s.heap m) (N : News h₀ env.locals s.heap led) (ht : (t, o) ∈ led) (hc : o.cls = .type "tuple") (hd : o.data = .seq #[u, v] n)
    (h : ∀ h' tk, Fr h₀ env.locals h' (fun y => if y = b then some v else if y = a then some u else m y) → News h₀ env.locals h' led → Q () { s with heap := h', toks := tk })
    (ha : env.kindOf a = some .local) (hb : env.kindOf b = some .local) (hp : (env.scope.kind == .class || (env.scope.kind == .module && env.locals != env.globals)) = false) :
    wpAny (model prog w) A (assign (.Tuple [.Name a pa, .Name b pb] k pos) env (.ref t)) Q E s := by
  refine asgO_tup (vs := [u, v]) hh F N ht hc hd rfl rfl fun h₁ F₁ N₁ => ?_
  refine wpAny_assignInOrder_more (asg_name F₁ N₁ (fun h₂ F₂ N₂ => ?_) ha hp)
  refine wpAny_assignInOrder_more (asg_name F₂ N₂ (fun h₃ F₃ N₃ => ?_) hb hp)
  exact wpAny_assignInOrder_none (h h₃ _ F₃ N₃)
/-- for a, (b, c) in ..: the inner pair is a tuple of the ledger. -/
theorem asgO3 {a b c : Str} {pa pb pc pos pos' : Pos} {k k' : Nat} {t t' : Addr} {o o' : Obj} {u v z : Value} {n n' : Nat} {Q : Unit → Shared → Prop} (hh : A.handled = none) (F : Fr h₀ env.locals s.heap m) (N : News h₀ env.locals s.heap led) (ht : (t, o) ∈ led) (hc : o.cls = .type "tuple") (hd : o.data = .seq #[u, .ref t'] n)
    (ht' : (t', o') ∈ led) (hc' : o'.cls = .type "tuple") (hd' : o'.data = .seq #[v, z] n')
    (h : ∀ h' tk, Fr h₀ env.locals h' (fun y => if y = c then some z else if y = b then some v else if y = a then some u else m y) → News h₀ env.locals h' led → Q () { s with heap := h', toks := tk })
    (ha : env.kindOf a = some .local) (hb : env.kindOf b = some .local) (hcc : env.kindOf c = some .local) (hp : (env.scope.kind == .class || (env.scope.kind == .module && env.locals != env.globals)) = false) :
    wpAny (model prog w) A (assign (.Tuple [.Name a pa, .Tuple [.Name b pb, .Name c pc] k' pos'] k pos) env (.ref t)) Q E s := by
  refine asgO_tup (vs := [u, .ref t']) hh F N ht hc hd rfl rfl fun h₁ F₁ N₁ => ?_
  refine wpAny_assignInOrder_more (asg_name F₁ N₁ (fun h₂ F₂ N₂ => ?_) ha hp)
  refine wpAny_assignInOrder_more (asgO2 (o := o') (k := k') hh F₂ N₂ ht' hc' hd' (fun h₃ tk F₃ N₃ => ?_) hb hcc hp)
  exact wpAny_assignInOrder_none (h h₃ _ F₃ N₃)
end
theorem enum_in {h₀ h : Heap} {L c T e it : Addr} {oT oe oi x : Obj} {led0 : List (Addr × Obj)} (N : News h₀ L h ((T, oT) :: (e, oe) :: (it, oi) :: (c, x) :: led0)) : News h₀ L h ((c, x) :: (T, oT) :: (e, oe) :: (it, oi) :: led0) := fun p hp => by
  rcases List.mem_cons.mp hp with rfl | hp
  · exact N _ (.tail _ (.tail _ (.tail _ (.head _))))
  · rcases List.mem_cons.mp hp with rfl | hp
    · exact N _ (.head _)
    · rcases List.mem_cons.mp hp with rfl | hp
      · exact N _ (.tail _ (.head _))
      · rcases List.mem_cons.mp hp with rfl | hp
        · exact N _ (.tail _ (.tail _ (.head _)))
        · exact N p (.tail _ (.tail _ (.tail _ (.tail _ hp))))
theorem enum_ap {c T e it : Addr} {oT oe oi x : Obj} {led0 : List (Addr × Obj)} (hne : ∀ p ∈ (c, x) :: led0, p.1 ≠ T ∧ p.1 ≠ e ∧ p.1 ≠ it) (h : Apart c led0) : Apart c ((T, oT) :: (e, oe) :: (it, oi) :: led0) := by
  have k := hne _ (.head _)
  intro p hp
  rcases List.mem_cons.mp hp with rfl | hp
  · exact k.1.symm
  · rcases List.mem_cons.mp hp with rfl | hp
    · exact k.2.1.symm
    · rcases List.mem_cons.mp hp with rfl | hp
      · exact k.2.2.symm
      · exact h p hp
theorem enum_fin {g h' : Heap} {L c T e it : Addr} {s : Shared} {tk' : Nat} {m' : Str → Option Value} {x x' oT oe oi : Obj} {led0 : List (Addr × Obj)} {J : (Str → Option Value) → List (Addr × Obj) → Prop} (hne : ∀ p ∈ (c, x) :: led0, p.1 ≠ T ∧ p.1 ≠ e ∧ p.1 ≠ it) (F : Fr g L h' m')
    (N : News g L h' ((c, x') :: (T, oT) :: (e, oe) :: (it, oi) :: led0)) (hJ : J m' ((c, x') :: led0)) :
    TurnNx g L s J [(e, oe), (it, oi)] { s with heap := h', toks := tk' } := by
  refine ⟨h', tk', m', _, rfl, F, fun p hp => ?_, fun q hq p hp => ?_, hJ⟩
  · rcases List.mem_cons.mp hp with rfl | hp
    · exact N _ (.tail _ (.tail _ (.head _)))
    · rcases List.mem_cons.mp hp with rfl | hp
      · exact N _ (.tail _ (.tail _ (.tail _ (.head _))))
      · rcases List.mem_cons.mp hp with rfl | hp
        · exact N _ (.head _)
        · exact N p (.tail _ (.tail _ (.tail _ (.tail _ hp))))
  · have k : p.1 ≠ e ∧ p.1 ≠ it := by
      rcases List.mem_cons.mp hp with rfl | hp
      · exact (hne _ (.head _)).2
      · exact (hne p (.tail _ hp)).2
    rcases List.mem_cons.mp hq with rfl | hq
    · exact k.1
    · rw [List.mem_singleton.mp hq]; exact k.2
example : True := by
  k_with "call type:enumerate" =>
    ((refine' Mine.enum_call ?m19121 ?m29121 ?m39121 ?_; (case m19121 => k_asm); (case m29121 => k_asm); (case m39121 => k_dflt k_mem); intro _ _ _ _ _ _ _))
  trivial
end
section
open PySem PySem.W PyProof.Rows PySem.Calls
set_option maxRecDepth 100000
set_option maxHeartbeats 4000000
section
variable {prog : Program} {w : World} {A : Around} {E : Value → Shared → Prop} {s : Shared} {env : Env} {h₀ : Heap} {L D : Addr} {m : Str → Option Value} {led rest : List (Addr × Obj)} {vs us : List Value} {n n2 : Nat}
theorem seqI_list : seqSlot? (.type "list") (dunderI "add") = pure (some (.builtin "list.__iadd__")) := PySem.seqSlot_of (T := "list") (name := dunderI "add") (id := "list.__iadd__") PySem.F.slot_list_iadd.lookup (by decide +kernel)
theorem inplace_seq {a b : Value} {Q : Value → Shared → Prop} (ha : s.TypeIs a "list") (hb : s.TypeIs b "list")
    (hc : wpAny (model prog w) A (call (.builtin "list.__iadd__") [a, b]) Q E s) : wpAny (model prog w) A (inplaceOp .Add a b) Q E s := by
  unfold inplaceOp
  refine wpAny_holding ?_
  have hfi : fillsInplaceSlot (.type "list") "add" (Operator.Add == .Add) = pure false := by
    unfold fillsInplaceSlot
    show (typeLookup (.type "list") (dunderI "add") >>= fun fi => pure (fi.isSome && !isSeqSlot fi)) = pure false
    rw [PySem.F.slot_list_iadd.lookup]; rfl
  refine wpAny_bind (wpAny_typeOf ha (wpAny_bind (wpAny_of_eq hfi ?_)))
  show wpAny _ A (if false = true then _ else _) Q E s
  rw [if_neg Bool.false_ne_true]
  refine wpAny_bind (wpAny_binaryOp1_none (nm := "add") ha hb noFill_list_add ?_)
  refine wpAny_bind (wpAny_of_eq seqI_list ?_)
  exact wpAny_bind (wpAny_rule hc)
theorem iadd_head {b : Addr} {Q : Value → Shared → Prop} (F : Fr h₀ L s.heap m) (N : News h₀ L s.heap ((b, listOf us.toArray n2) :: (D, listOf vs.toArray n) :: rest)) (hb : b ≠ D) (hap : Apart D rest) (hz : vs.length ≤ 100000) (hz2 : us.length ≤ 100000) (hu : us ≠ [])
    (h : ∀ h', Fr h₀ L h' m → News h₀ L h' ((b, listOf us.toArray n2) :: (D, listOf (vs ++ us).toArray (n + 1)) :: rest) → Q (.ref D) { s with heap := h' }) : wpAny (model prog w) A (inplaceOp .Add (.ref D) (.ref b)) Q E s := by
  have zD := N _ (.tail _ (.head _))
  have zb := N _ (.head _)
  refine inplace_seq ⟨_, zD.1, rfl⟩ ⟨_, zb.1, rfl⟩ (call_meets PySem.F.slot_list_iadd ⟨_, zD.1, rfl⟩ PySem.F.entry_list_iadd (PySem.F.args_list_iadd_2 _ _) (AutoSeq1.list___iadd___list_list_0 D vs.toArray n b us.toArray n2 ?_ ?_ ?_) ⟨zD.1, zb.1, ?_⟩)
  · simp [Builtin.List.listTooLong, sizeLine]; lia
  · rw [List.size_toArray, sizeLine_eq]; lia
  · rw [List.size_toArray, List.size_toArray, sizeLine_eq]; lia
  · refine h _ (F.change (Heap.SameBut.update ..) zD.2.1 zD.2.2) fun p hp => ?_
    rcases List.mem_cons.mp hp with rfl | hp
    · exact ⟨(Heap.get?_update_ne _ _ _ _ hb).trans zb.1, zb.2⟩
    · rcases List.mem_cons.mp hp with rfl | hp
      · refine ⟨?_, zD.2⟩
        show Heap.get? _ D = some _
        rw [Heap.get?_update_self _ zD.1 (by simp [Obj.mapSeq]; rfl)]
        simp [Obj.mapSeq, hu]
      · have := N _ (.tail _ (.tail _ hp))
        exact ⟨(Heap.get?_update_ne _ _ _ _ (hap p hp)).trans this.1, this.2⟩
theorem iadd_third {b c : Addr} {oc : Obj} {Q : Value → Shared → Prop} (F : Fr h₀ L s.heap m) (N : News h₀ L s.heap ((b, listOf us.toArray n2) :: (c, oc) :: (D, listOf vs.toArray n) :: rest)) (hb : b ≠ D) (hc : c ≠ D) (hap : Apart D rest) (hz : vs.length ≤ 100000) (hz2 : us.length ≤ 100000) (hu : us ≠ [])
    (h : ∀ h', Fr h₀ L h' m → News h₀ L h' ((b, listOf us.toArray n2) :: (c, oc) :: (D, listOf (vs ++ us).toArray (n + 1)) :: rest) → Q (.ref D) { s with heap := h' }) : wpAny (model prog w) A (inplaceOp .Add (.ref D) (.ref b)) Q E s := by
  refine iadd_head (n := n) (n2 := n2) (rest := (c, oc) :: rest) F (fun p hp => ?_) hb (fun p hp => ?_) hz hz2 hu fun h' F' N' => h h' F' fun p hp => ?_
  · rcases List.mem_cons.mp hp with rfl | hp
    · exact N _ (.head _)
    · rcases List.mem_cons.mp hp with rfl | hp
      · exact N _ (.tail _ (.tail _ (.head _)))
      · rcases List.mem_cons.mp hp with rfl | hp
        · exact N _ (.tail _ (.head _))
        · exact N _ (.tail _ (.tail _ (.tail _ hp)))
  · rcases List.mem_cons.mp hp with rfl | hp
    · exact hc
    · exact hap p hp
  · rcases List.mem_cons.mp hp with rfl | hp
    · exact N' _ (.head _)
    · rcases List.mem_cons.mp hp with rfl | hp
      · exact N' _ (.tail _ (.tail _ (.head _)))
      · rcases List.mem_cons.mp hp with rfl | hp
        · exact N' _ (.tail _ (.head _))
        · exact N' _ (.tail _ (.tail _ (.tail _ hp)))
/-- `x in (a, b)` for texts; x a text or None. -/
noncomputable def InTwo (v : Value) (a b : List Nat) (r : Bool) : Prop := ∃ p, PcIs .none v p ∧ r = (p == some a || p == some b)
theorem eqAt_pc {B : Around} {s' : Shared} {v : Value} {p : Option (List Nat)} {a : List Nat} {t : Tok} (h : PcIs .none v p) : PySem.SeqAt.EqAt B s' (.str (S a) t) v (p == some a) := by
  cases p with
  | none =>
    cases (h : v = .none)
    have := PySem.SeqAt.EqAt.str_none (A := B) (s := s') (S a) t
    simpa using this
  | some x =>
    obtain ⟨t', rfl⟩ := h
    have := (PyProof.Rows.eqGives_str (S a) (S x) t t').at B s'
    have e : (S a == S x) = (some x == some a) := by
      rw [Bool.eq_iff_iff]
      simp only [beq_iff_eq, Option.some.injEq]
      constructor
      · intro h; simpa [S] using (congrArg (fun z => z.cps.toList) h).symm
      · intro h; rw [h]
    rw [← e]; exact this
noncomputable def pcEq (p : Option (List Nat)) (y : Value) : Bool := match y with | .str x _ => p == some x.cps.toList | _ => false
theorem pcEq_e {p : Option (List Nat)} {x : Str} {t : Tok} : pcEq p (.str x t) = (p == some x.cps.toList) := rfl
theorem in_two {T : Addr} {a b : List Nat} {ta tb : Tok} {k : Nat} {v : Value} {r : Bool} {Q : Value → Shared → Prop} (N : News h₀ L s.heap led) (hT : (T, tupOf [.str (S a) ta, .str (S b) tb] k) ∈ led) (hi : InTwo v a b r) (h : Q (.bool r) s) :
    wpAny (model prog w) A (compareOp .In v (.ref T)) Q E s := by
  obtain ⟨p, hp, rfl⟩ := hi
  refine PySem.SeqAt.in_tupleAt (items := #[.str (S a) ta, .str (S b) tb]) (pcEq p) ⟨_, (N _ hT).1, rfl, k, rfl⟩ (fun y hy => ?_) ?_
  · rcases (by simpa using hy : y = .str (S a) ta ∨ y = .str (S b) tb) with rfl | rfl
    · exact eqAt_pc hp
    · exact eqAt_pc hp
  · simpa [S, pcEq_e] using h
end
example : True := by
  k_with "inplaceOp Add ref ref" =>
    (((with_reducible show wpAny _ _ (inplaceOp Operator.Add (Value.ref _) (Value.ref _)) _ _ _); refine' Mine.iadd_head ?m19122 ?m29122 ?m39122 ?m49122 ?m59122 ?m69122 ?m79122 ?_; (case m19122 => with_reducible assumption); (case m29122 => with_reducible assumption); (case m39122 => first | with_reducible assumption | ((rename _ < _ ∧ _ => q); exact Nat.ne_of_gt q.1)); (case m49122 => with_reducible assumption); (case m59122 => with_reducible assumption); (case m69122 => first | exact Nat.le_of_ble_eq_true rfl | with_reducible assumption); (case m79122 => first | exact List.cons_ne_nil _ _ | with_reducible assumption); intro _ _ _))
  trivial
example : True := by
  k_with "inplaceOp Add ref ref" =>
    (((with_reducible show wpAny _ _ (inplaceOp Operator.Add (Value.ref _) (Value.ref _)) _ _ _); refine' Mine.iadd_third ?m19123 ?m29123 ?m39123 ?m49123 ?m59123 ?m69123 ?m79123 ?m89123 ?_; (case m19123 => with_reducible assumption); (case m29123 => with_reducible assumption); (case m39123 => with_reducible assumption); (case m49123 => with_reducible assumption); (case m59123 => with_reducible assumption); (case m69123 => with_reducible assumption); (case m79123 => exact Nat.le_of_ble_eq_true rfl); (case m89123 => exact List.cons_ne_nil _ _); intro _ _ _))
  trivial
example : True := by
  k_with "compareOp In str ref" =>
    (((with_reducible show wpAny _ _ (compareOp _ _ (Value.ref _)) _ _ _); refine' Mine.in_two ?m19124 ?m29124 ?m39124 ?_; (case m19124 => k_asm); (case m29124 => k_dflt k_mem); (case m39124 => with_reducible assumption)))
  trivial
example : True := by
  k_with "compareOp In none ref" =>
    (((with_reducible show wpAny _ _ (compareOp _ _ (Value.ref _)) _ _ _); refine' Mine.in_two ?m19125 ?m29125 ?m39125 ?_; (case m19125 => k_asm); (case m29125 => k_dflt k_mem); (case m39125 => with_reducible assumption)))
  trivial
end
section
theorem LocW18.hereW18 : True := trivial
open LocW18
open PySem PySem.W PyProof.Rows PySem.Calls
set_option maxRecDepth 100000
set_option maxHeartbeats 8000000
example : True := by
  k_with "execs cons" =>
    (fail_if_success (fail_if_success (have := hereW18)))
    ((k_here; refine Mine.consL ?_; intro _))
  trivial
example : True := by
  k_with "k_mem" =>
    (fail_if_success (fail_if_success (have := hereW18)))
    (assumption)
  trivial
example : True := by
  k_with "exec For Tuple Call cons nil" =>
    (fail_if_success (fail_if_success (have := hereW18)))
    ((refine halt ?_))
  trivial
example : True := by
  k_with "exec For Tuple Call" =>
    (fail_if_success (fail_if_success (have := hereW18)))
    ((refine halt ?_))
  trivial
noncomputable def EqI (i j : Int) (b : Bool) : Prop := (i == j) = b
theorem eqi_B {prog : Program} {w : World} {A : Around} {E : Value → Shared → Prop} {s : Shared} {i j : Int} {t u : Tok} {b : Bool} {Q : Value → Shared → Prop} (e : EqI i j b) (h : Q (.bool b) s) : wpAny (model prog w) A (compareOp .Eq (.int i t) (.int j u)) Q E s := eq_int (by rw [show (i == j) = b from e]; exact h)
example : True := by
  k_with "compareOp Eq int int" =>
    (fail_if_success (fail_if_success (have := hereW18)))
    ((refine' Mine.eqi_B ?meT9130 ?_; (case meT9130 => with_reducible assumption)))
  trivial
example : True := by
  k_with "exec If Compare cons cons" =>
    (fail_if_success (fail_if_success (have := hereW18)))
    ((refine halt ?_))
  trivial
example : True := by
  k_with "eval ListComp" =>
    (fail_if_success (fail_if_success (have := hereW18)))
    ((refine halt ?_))
  trivial
noncomputable def aloneIn (ps : List (Option (List Nat))) : Bool := (ps.filter (·.isNone)).length == 1
noncomputable def freshAt (ps : List (Option (List Nat))) (i : Nat) : Bool := decide (0 < i) && (ps.getD (i - 1) none == some [92, 10] || ps.getD (i - 1) none == some [92, 13])
noncomputable def sentAt (ps : List (Option (List Nat))) (i : Nat) : List (Option (List Nat)) :=
  match ps.getD i none with
  | none => if freshAt ps i && aloneIn ps then [some [46], none] else [none]
  | some x => [some (dots (freshAt ps i) (fixE x))]
noncomputable def sentOf (ps : List (Option (List Nat))) : List (Option (List Nat)) := ((List.range ps.length).map (sentAt ps)).flatten
theorem pcs_get {st : Value} {vs : List Value} {ps : List (Option (List Nat))} {i : Nat} {v : Value} (h : PcsAre st vs ps) (hi : vs[i]? = some v) : ∃ p, PcIs st v p ∧ ps[i]? = some p := by
  induction h generalizing i with
  | nil => simp at hi
  | cons a b ih =>
    cases i with
    | zero => simp at hi; subst hi; exact ⟨_, a, rfl⟩
    | succ i => simpa using ih (by simpa using hi)
theorem cnt_add {ps : List (Option (List Nat))} {i : Nat} {ys : List Value} {v : Value} (h : ps[i]? = some none) (hK : ys.length = ((ps.take i).filter (·.isNone)).length) : (ys ++ [v]).length = ((ps.take (i + 1)).filter (·.isNone)).length := by
  rw [List.take_add_one, h, List.filter_append]; simp [hK]
theorem cnt_skip {ps : List (Option (List Nat))} {i : Nat} {ys : List Value} {x : List Nat} (h : ps[i]? = some (some x)) (hK : ys.length = ((ps.take i).filter (·.isNone)).length) : ys.length = ((ps.take (i + 1)).filter (·.isNone)).length := by
  rw [List.take_add_one, h, List.filter_append]; simp [hK]
theorem cnt_alone {ps : List (Option (List Nat))} {ys : List Value} (h : ys.length = (ps.filter (·.isNone)).length) : aloneIn ps = ((ys.length : Int) == 1) := by
  unfold aloneIn; rw [← h]
  rw [Bool.eq_iff_iff]; simp only [beq_iff_eq]; lia
theorem ys_small {ps : List (Option (List Nat))} {ys : List Value} (h : ys.length = (ps.filter (·.isNone)).length) (hl : ps.length ≤ 1000) : ys.length ≤ 100000 := by
  have := List.length_filter_le (·.isNone) ps
  lia
theorem fresh_fact {vs : List Value} {ps : List (Option (List Nat))} {i : Nat} (h : PcsAre .none vs ps) (hi : i < ps.length) (h0 : 0 < i) (hl : ps.length ≤ 1000) : ∃ v', LAt vs ((i : Int) - 1) v' ∧ InTwo v' [92, 10] [92, 13] (freshAt ps i) := by
  have hlt : i - 1 < vs.length := by rw [h.len]; lia
  obtain ⟨p, hp, hpi⟩ := pcs_get h (List.getElem?_eq_getElem hlt)
  refine ⟨vs[i - 1], ⟨by lia, by lia, ?_⟩, p, hp, ?_⟩
  · rw [show ((i : Int) - 1).toNat = i - 1 from by lia]; exact List.getElem?_eq_getElem hlt
  · unfold freshAt
    rw [List.getD_eq_getElem?_getD, hpi, decide_eq_true h0]; rfl
theorem fresh_cases {vs : List Value} {ps : List (Option (List Nat))} {i : Nat} (h : PcsAre .none vs ps) (hi : i < ps.length) (hl : ps.length ≤ 1000) :
    ∃ fr, freshAt ps i = fr ∧ ((¬ (0 : Int) < (i : Nat) ∧ fr = false) ∨ ((0 : Int) < (i : Nat) ∧ LAt vs (((i : Nat) : Int) - 1) .none ∧ InTwo .none [92, 10] [92, 13] fr) ∨ ∃ y t, (0 : Int) < (i : Nat) ∧ LAt vs (((i : Nat) : Int) - 1) (.str (S y) t) ∧ InTwo (.str (S y) t) [92, 10] [92, 13] fr) := by
  refine ⟨_, rfl, ?_⟩
  rcases Nat.eq_zero_or_pos i with h0 | h0
  · subst h0; exact .inl ⟨by simp, rfl⟩
  · obtain ⟨v', at1, hin⟩ := fresh_fact h hi h0 hl
    obtain ⟨q, hq, _⟩ := id hin
    have hg : (0 : Int) < (i : Nat) := by lia
    cases q with
    | none => cases (hq : v' = .none); exact .inr (.inl ⟨hg, at1, hin⟩)
    | some y => obtain ⟨t, rfl⟩ := id hq; exact .inr (.inr ⟨y, t, hg, at1, hin⟩)
theorem sent_len (ps : List (Option (List Nat))) : ∀ i, (((List.range i).map (sentAt ps)).flatten).length ≤ 2 * i
  | 0 => by simp
  | i + 1 => by
    rw [List.range_succ, List.map_append, List.flatten_append, List.length_append]
    have := sent_len ps i
    have h2 : (sentAt ps i).length ≤ 2 := by
      unfold sentAt
      split
      · split <;> simp
      · simp
    simp only [List.map_cons, List.map_nil, List.flatten_cons, List.flatten_nil, List.append_nil]
    lia
theorem zs_len {ps : List (Option (List Nat))} {zs : List Value} {i : Nat} (h : PcsAre .none zs (((List.range i).map (sentAt ps)).flatten)) (hi : i ≤ ps.length) (hl : ps.length ≤ 1000) : zs.length ≤ 100000 := by
  rw [h.len]; have := sent_len ps i; lia
theorem sz_some {ps : List (Option (List Nat))} {x : List Nat} {i : Nat} (h : ∀ x, some x ∈ ps → x.length ≤ 40000) (hi : ps[i]? = some (some x)) : [120].length + x.length ≤ 16777216 ∧ x.length ≤ 50000 ∧ ([120] ++ x).length ≤ 50000 ∧ (dots false (fixE x)).length < 16777215 := by
  have h1 := h x (List.mem_of_getElem? hi)
  have h2 := fixE_len x
  have h3 := dots_len false (fixE x)
  refine ⟨?_, ?_, ?_, ?_⟩ <;> (try simp) <;> lia
theorem dots_x (x : List Nat) : dots true (fixE ([120] ++ x)) = 120 :: dots false (fixE x) := by
  cases x with
  | nil => rfl
  | cons d r => rfl
theorem pcs_app {st : Value} {vs ws : List Value} {ps qs : List (Option (List Nat))} (h : PcsAre st vs ps) (k : PcsAre st ws qs) : PcsAre st (vs ++ ws) (ps ++ qs) := by
  induction h with
  | nil => exact k
  | cons a b ih => exact .cons a ih
theorem sent_none {ps : List (Option (List Nat))} {zs ws : List Value} {i : Nat} {fr al : Bool} (hi : ps[i]? = some none) (hf : freshAt ps i = fr) (ha : al = aloneIn ps) (hK : PcsAre .none zs (((List.range i).map (sentAt ps)).flatten)) (hw : PcsAre .none ws (if fr && al then [some [46], none] else [none])) : PcsAre .none (zs ++ ws) (((List.range (i + 1)).map (sentAt ps)).flatten) := by
  rw [List.range_succ, List.map_append, List.flatten_append]
  have : sentAt ps i = (if fr && al then [some [46], none] else [none]) := by unfold sentAt; rw [List.getD_eq_getElem?_getD, hi, ← hf, ha]; rfl
  simp only [List.map_cons, List.map_nil, List.flatten_cons, List.flatten_nil, List.append_nil, this]
  exact pcs_app hK hw
theorem sent_some {ps : List (Option (List Nat))} {zs : List Value} {i : Nat} {fr : Bool} {x : List Nat} {t : Tok} (hi : ps[i]? = some (some x)) (hf : freshAt ps i = fr) (hK : PcsAre .none zs (((List.range i).map (sentAt ps)).flatten)) : PcsAre .none (zs ++ [.str (S (dots fr (fixE x))) t]) (((List.range (i + 1)).map (sentAt ps)).flatten) := by
  rw [List.range_succ, List.map_append, List.flatten_append]
  have : sentAt ps i = [some (dots fr (fixE x))] := by unfold sentAt; rw [List.getD_eq_getElem?_getD, hi, ← hf]; rfl
  simp only [List.map_cons, List.map_nil, List.flatten_cons, List.flatten_nil, List.append_nil, this]
  exact hK.snoc ⟨t, rfl⟩
inductive SJ (ps : List (Option (List Nat))) (wl l : Addr) (al : Bool) (news : List (Addr × Obj)) (i : Nat) (m : Str → Option Value) (led : List (Addr × Obj)) : Prop
  | mk (zs n2 : _) (h1 : led = (wl, listOf zs.toArray n2) :: news) (h2 : PcsAre .none zs (((List.range i).map (sentAt ps)).flatten)) (h3 : Has m [("whole", .ref wl), ("alone", .bool al), ("pieces", .ref l)]) : SJ ps wl l al news i m led
theorem sentw (w : World) (ps : List (Option (List Nat))) (vs : List Value) (nn : Nat) (l : Addr) (hv : PcsAre .none vs ps) (hl : ps.length ≤ 1000) (hsz : ∀ x, some x ∈ ps → x.length ≤ 40000) :
    Spec3 w 139 [.ref l] (fun news => (l, listOf vs.toArray nn) ∈ news) (fun led v => ∃ a ys n, v = .ref a ∧ (a, listOf ys.toArray n) ∈ led ∧ PcsAre .none ys (sentOf ps)) := by
  unfold Spec3 PR
  k_fill
  intro dp un gd cn cs a ccd cl outer A₀ base h₀ L m p loose mean mg mb news s Q E B F X N T hk hpre hd hu hret
  refine wpAny_call ?_
  k_dflt cell_enter
  refine letA ?_
  intro A1
  refine letV ?_
  intro e1
  (rename Fr _ _ _ _ => F0)
  replace F0 := fr_gen [("pieces", .ref l)] F0 (Has.cons rfl Has.nil)
  obtain ⟨m0, F0⟩ := F0
  dsimp only [kB_e1, kB_e2] at F0
  have hvl : vs.length ≤ 100000 := by rw [hv.len]; exact Nat.le_trans hl (by decide)
  k_steps
  (rename Fr _ _ _ _ => FF)
  (rename News _ _ _ _ => NN)
  show wpAny _ _ _ _ _ _
  try k_fold
  refine comp_T (cl := []) (fun i ys => ys.length = ((ps.take i).filter (·.isNone)).length) FF NN hpre hvl (fun Q hq => ld FF rfl hq) rfl (fun E' i v ys I oI C oC D m₂ h tk hvi hK hC hx F' N' => ?_) (fun D ys h tk hK F' N' hap => ?_) rfl rfl (by decide) rfl (by decide) rfl (fun _ => rfl)
  · obtain ⟨p, hp, hpi⟩ := pcs_get hv hvi
    cases p with
    | none =>
      cases (hp : v = .none)
      k_steps
      exact cend (by assumption) (by assumption) (cnt_add hpi hK)
    | some x =>
      obtain ⟨tx, rfl⟩ := id hp
      k_steps
      exact cend (by assumption) (by assumption) (cnt_skip hpi hK)
  · rw [hv.len, List.take_length] at hK
    have hal : EqI (ys.length : Nat) 1 (aloneIn ps) := (cnt_alone hK).symm
    have hyl : ys.length ≤ 100000 := ys_small hK hl
    clear hK
    obtain ⟨al, hale⟩ : ∃ z, z = aloneIn ps := ⟨_, rfl⟩
    rw [← hale] at hal
    k_steps
    (rename News _ _ _ _ => N1)
    (rename Fr _ _ _ _ => F1)
    (rename _ ∧ AllLt _ _ => lt1)
    rename_i g' L' hh0 FG' B' X' T' q0 k0 c0 t1 tk2 hh1 c1 wl hh2 hh3 c2
    have happ : Apart wl news := apart_l lt1.2
    replace N1 : News _ _ _ ((wl, listOf (([] : List Value).toArray) 0) :: news) := news_sub N1 fun p hp => by
      rcases List.mem_cons.mp hp with rfl | hp
      · exact .head _
      · exact .tail _ (.tail _ hp)
    show wpAny _ _ _ _ _ _
    try k_fold
    refine for_enum (h₀ := g') (l := l) (vs := vs) (nn := nn) rfl (SJ ps wl l al news) (fun i m led h => by obtain ⟨_, _, rfl, _⟩ := h; exact .tail _ hpre) (fun _ => rfl) ?_ ?_ ?_
    · k_steps
      exact enum_is (by assumption) (by assumption) (by assumption) ⟨[], 0, rfl, .nil, Has.cons rfl (Has.cons rfl (Has.cons rfl Has.nil))⟩
    · rintro E' i v t n m₁ led h tk T oT e oe it oi hvi ⟨zs, n2, rfl, hps, H⟩ F₂ hTc hTd N₂ hTe hTi hei hoff
      refine letT ?_
      intro R9
      k_fold
      replace F₂ : Fr g' L' h _ := fr_at F₂ H
      dsimp only [kB_e1, kB_e2] at F₂
      replace N₂ : News g' L' h _ := enum_in N₂
      have hap3 := enum_ap (oT := oT) (oe := oe) (oi := oi) hoff happ
      clear F1 N1 H
      refine asgO2 rfl F₂ N₂ (.tail _ (.head _)) hTc hTd (fun h' tk' F3 N3 => ?_) (by rfl) (by rfl) (by rfl)
      clear F₂ N₂
      have hi : i < ps.length := by rw [← hv.len]; exact (List.getElem?_eq_some_iff.mp hvi).1
      obtain ⟨p, hp, hpi⟩ := pcs_get hv hvi
      obtain ⟨fr, hfr, hcs⟩ := fresh_cases hv hi hl
      have hzl : zs.length ≤ 100000 := zs_len hps (Nat.le_of_lt hi) hl
      rcases p with _ | x
      · cases (hp : v = .none)
        rcases hcs with ⟨hg, rfl⟩ | ⟨hg, at1, hin⟩ | ⟨y, ty, hg, at1, hin⟩
        all_goals k_steps
        all_goals (rename News _ _ _ _ => NN)
        all_goals (rename Fr _ _ _ _ => FF)
        all_goals try (replace NN := news_sub (news := (wl, listOf zs.toArray n2) :: (T, oT) :: (e, oe) :: (it, oi) :: news) NN fun p hp => .tail _ hp)
        all_goals refine wpAny_If ?_
        all_goals try cases fr
        all_goals cases al
        all_goals k_steps
        all_goals (rename News _ _ _ _ => N9)
        all_goals replace N9 := news_sub (news := (wl, _) :: (T, oT) :: (e, oe) :: (it, oi) :: news) N9 fun p hp => .tail _ hp
        all_goals exact enum_fin hoff (by assumption) N9 ⟨_, _, rfl, sent_none hpi hfr hale hps (by first | exact PcsAre.cons (ps := []) (p := none) rfl .nil | exact PcsAre.cons (ps := [none]) (p := some [46]) ⟨_, rfl⟩ (.cons rfl .nil)), Has.cons rfl (Has.cons rfl (Has.cons rfl Has.nil))⟩
      · obtain ⟨tx, rfl⟩ := id hp
        obtain ⟨hx1, hx2, hx3, hx4⟩ := sz_some hsz hpi
        rcases hcs with ⟨hg, rfl⟩ | ⟨hg, at1, hin⟩ | ⟨y, ty, hg, at1, hin⟩
        all_goals k_steps
        all_goals (rename News _ _ _ _ => NN)
        all_goals (rename Fr _ _ _ _ => FF)
        all_goals try (replace NN := news_sub (news := (wl, listOf zs.toArray n2) :: (T, oT) :: (e, oe) :: (it, oi) :: news) NN fun p hp => .tail _ hp)
        all_goals refine wpAny_If ?_
        all_goals try cases fr
        all_goals k_steps
        all_goals first
          | refine (quoted w ([120] ++ x) _ hx3).use B' (by assumption) X' (by assumption) T' rfl trivial (dp_ok hd) (un_ok hu) fun r tl h' tk' F5 N5 _ hr => ?_
          | refine (quoted w x _ hx2).use B' (by assumption) X' (by assumption) T' rfl trivial (dp_ok hd) (un_ok hu) fun r tl h' tk' F5 N5 _ hr => ?_
        all_goals replace N5 := news_sub (news := (wl, listOf zs.toArray n2) :: (T, oT) :: (e, oe) :: (it, oi) :: news) N5 fun p hp => List.mem_append.mpr (.inl hp)
        all_goals obtain ⟨tr, rfl⟩ := hr
        all_goals try rw [dots_x] 
        all_goals k_steps
        all_goals exact enum_fin hoff (by assumption) (by assumption) ⟨_, _, rfl, sent_some hpi hfr hps, Has.cons rfl (Has.cons rfl (Has.cons rfl Has.nil))⟩
    · rintro m₁ led h tk ⟨zs, n2, rfl, hps, H⟩ F₂ N₂
      replace F₂ : Fr g' L' h _ := fr_at F₂ H
      dsimp only [kB_e1, kB_e2] at F₂
      replace N₂ : News g' L' h _ := N₂
      k_steps
      rw [hv.len] at hps
      exact hret (.ref wl) [(wl, listOf zs.toArray n2)] _ _ (by assumption) (news_one (by assumption)) (fun q hq p hp => by rw [List.mem_singleton.mp hp]; exact (happ q hq).symm) ⟨wl, zs, n2, rfl, List.mem_append.mpr (.inr (.head _)), hps⟩
end
section
open PySem PySem.W PyProof.Rows PySem.Calls
set_option maxRecDepth 100000
set_option maxHeartbeats 1000000
/-- k dots more ahead of each dot that opens a line -/
noncomputable def dk (k : Nat) : Bool → List Nat → List Nat
  | _, [] => []
  | b, c :: r => (if b && c == 46 then List.replicate k 46 ++ [46] else [c]) ++ dk k (c == 10) r
theorem dk_e1 {k : Nat} {b : Bool} : dk k b [] = [] := rfl
theorem dk_e2 {k : Nat} {b : Bool} {c : Nat} {r : List Nat} : dk k b (c :: r) = (if b && c == 46 then List.replicate k 46 ++ [46] else [c]) ++ dk k (c == 10) r := rfl
/-- does a line open behind the text (line ends: line feeds) -/
noncomputable def eb : Bool → List Nat → Bool
  | b, [] => b
  | _, c :: r => eb (c == 10) r
theorem eb_e1 {b : Bool} : eb b [] = b := rfl
theorem eb_e2 {b : Bool} {c : Nat} {r : List Nat} : eb b (c :: r) = eb (c == 10) r := rfl
/-- the same, returns being line ends too -/
noncomputable def ee : Bool → List Nat → Bool
  | b, [] => b
  | _, c :: r => ee (c == 10 || c == 13) r
theorem ee_e1 {b : Bool} : ee b [] = b := rfl
theorem ee_e2 {b : Bool} {c : Nat} {r : List Nat} : ee b (c :: r) = ee (c == 10 || c == 13) r := rfl
theorem dots_one : ∀ (b : Bool) (x : List Nat), dots b x = dk 1 b x
  | _, [] => rfl
  | b, c :: r => by rw [dots_e2, dk_e2, dots_one]; rfl
theorem dk_zero : ∀ (b : Bool) (x : List Nat), dk 0 b x = x
  | _, [] => rfl
  | b, c :: r => by
    rw [dk_e2, dk_zero]
    split
    · next h => simp at h; simp [h.2]
    · rfl
theorem dk_app (k : Nat) : ∀ (b : Bool) (x y : List Nat), dk k b (x ++ y) = dk k b x ++ dk k (eb b x) y
  | b, [], y => rfl
  | b, c :: r, y => by
    show (if b && c == 46 then _ else _) ++ dk k (c == 10) (r ++ y) = _
    rw [dk_app k (c == 10) r y, ← List.append_assoc]; rfl
theorem eb_app : ∀ (b : Bool) (x y : List Nat), eb b (x ++ y) = eb (eb b x) y
  | b, [], y => rfl
  | b, c :: r, y => eb_app (c == 10) r y
theorem ee_app : ∀ (b : Bool) (x y : List Nat), ee b (x ++ y) = ee (ee b x) y
  | b, [], y => rfl
  | b, c :: r, y => ee_app (c == 10 || c == 13) r y
theorem dots_rep (y : List Nat) : ∀ k : Nat, dots false (List.replicate k 46 ++ y) = List.replicate k 46 ++ dots false y
  | 0 => rfl
  | k + 1 => by
    rw [List.replicate_succ, List.cons_append]
    show [46] ++ dots false (List.replicate k 46 ++ y) = _
    rw [dots_rep y k]; rfl
theorem dots_dk (k : Nat) : ∀ (b : Bool) (x : List Nat), dots b (dk k b x) = dk (k + 1) b x
  | _, [] => rfl
  | b, c :: r => by
    rw [dk_e2, dk_e2]
    by_cases h : (b && c == 46) = true
    · rw [if_pos h, if_pos h]
      obtain ⟨hb, hc⟩ := Bool.and_eq_true_iff.mp h
      have hc : c = 46 := by simpa using hc
      subst hb hc
      have e : List.replicate k 46 ++ [46] ++ dk k (46 == 10) r = 46 :: (List.replicate k 46 ++ dk k false r) := by
        rw [← List.replicate_succ']; rfl
      rw [e]
      show [46, 46] ++ dots false (List.replicate k 46 ++ dk k false r) = _
      rw [dots_rep, dots_dk k false r, ← List.replicate_succ']
      rfl
    · rw [if_neg h, if_neg h]
      show (if b && c == 46 then [46, 46] else [c]) ++ dots (c == 10) (dk k (c == 10) r) = _
      rw [if_neg h, dots_dk k _ r]
noncomputable def dotsN : Nat → List Nat → List Nat
  | 0, x => x
  | k + 1, x => dots true (dotsN k x)
theorem dotsN_e1 {x : List Nat} : dotsN 0 x = x := rfl
theorem dotsN_eq (x : List Nat) : ∀ k, dotsN k x = dk k true x
  | 0 => (dk_zero true x).symm
  | k + 1 => by show dots true (dotsN k x) = _; rw [dotsN_eq x k, dots_dk]
theorem dk_free (k : Nat) : ∀ (x : List Nat), 10 ∉ x → dk k false x = x
  | [], _ => rfl
  | c :: r, h => by
    have h1 : c ≠ 10 := fun q => h (q ▸ .head _)
    rw [dk_e2, show (c == 10) = false from by simpa using h1, dk_free k r fun q => h (.tail _ q)]; rfl
/-- a row quoted k times -/
noncomputable def qt (k : Nat) (r : List Nat) : List Nat := (if r.head? = some 46 then List.replicate k 46 else []) ++ r
theorem dk_row (k : Nat) {x : List Nat} (h : 10 ∉ x) : dk k true x = qt k x := by
  cases x with
  | nil => rfl
  | cons c r =>
    have h1 : c ≠ 10 := fun q => h (q ▸ .head _)
    rw [dk_e2, show (c == 10) = false from by simpa using h1, dk_free k r fun q => h (.tail _ q)]
    unfold qt
    by_cases hc : c = 46
    · subst hc; simp
    · simp [hc]
theorem eb_free : ∀ {x : List Nat}, 10 ∉ x → eb false x = false
  | [], _ => rfl
  | c :: r, h => by
    have h1 : c ≠ 10 := fun q => h (q ▸ .head _)
    show eb (c == 10) r = false
    rw [show (c == 10) = false from by simpa using h1]; exact eb_free fun q => h (.tail _ q)
theorem fixE_app : ∀ (x y : List Nat), y.head? ≠ some 10 → fixE (x ++ y) = fixE x ++ fixE y
  | [], y, _ => by simp [fixE_e1, fixE_e2, fixE_e3]
  | [c], [], _ => by simp [fixE_e1, fixE_e2, fixE_e3]
  | [c], d :: r, h => by
    have hd : d ≠ 10 := fun q => h (by rw [q]; rfl)
    have e1 : fixE (c :: d :: r) = (if c = 10 ∨ c = 13 then [13, 10] else [c]) ++ fixE (d :: r) := by rw [fixE_e3, if_neg (fun q => hd q.2)]
    have e2 : fixE [c] = if c = 10 ∨ c = 13 then [13, 10] else [c] := rfl
    rw [e2, ← e1]; rfl
  | c :: d :: r, y, h => by
    show fixE (c :: d :: (r ++ y)) = _
    rw [fixE_e3, fixE_e3 (c := c) (d := d) (r := r)]
    split
    · rw [fixE_app r y h]; rfl
    · rw [show d :: (r ++ y) = (d :: r) ++ y from rfl, fixE_app (d :: r) y h, ← List.append_assoc]
theorem eb_fixE : ∀ (b : Bool) (x : List Nat), eb b (fixE x) = ee b x
  | _, [] => rfl
  | b, [c] => by
    rw [fixE_e2]
    by_cases h : c = 10 ∨ c = 13
    · rw [if_pos h]; rcases h with rfl | rfl <;> rfl
    · rw [if_neg h]
      have h1 : c ≠ 10 := fun q => h (.inl q)
      have h2 : c ≠ 13 := fun q => h (.inr q)
      simp [eb_e1, eb_e2, ee_e1, ee_e2, h1, h2]
  | b, c :: d :: r => by
    rw [fixE_e3]
    by_cases h : c = 13 ∧ d = 10
    · rw [if_pos h]
      obtain ⟨rfl, rfl⟩ := h
      show eb true (fixE r) = ee true r
      exact eb_fixE true r
    · rw [if_neg h, eb_app]
      have e : eb b (if c = 10 ∨ c = 13 then [13, 10] else [c]) = (c == 10 || c == 13) := by
        by_cases h : c = 10 ∨ c = 13
        · rw [if_pos h]; rcases h with rfl | rfl <;> rfl
        · rw [if_neg h]
          have h1 : c ≠ 10 := fun q => h (.inl q)
          have h2 : c ≠ 13 := fun q => h (.inr q)
          simp [eb_e1, eb_e2, h1, h2]
      rw [e, eb_fixE _ (d :: r)]; rfl
noncomputable def push (c : Nat) : List (List Nat) → List (List Nat)
  | [] => [[c]]
  | x :: r => (c :: x) :: r
theorem push_e1 {c : Nat} : push c [] = [[c]] := rfl
theorem push_e2 {c : Nat} {x : List Nat} {r : List (List Nat)} : push c (x :: r) = (c :: x) :: r := rfl
/-- the rows of a text -/
noncomputable def rowsOf : List Nat → List (List Nat)
  | [] => [[]]
  | [c] => if c = 10 ∨ c = 13 then [[], []] else [[c]]
  | c :: d :: r => if c = 13 ∧ d = 10 then [] :: rowsOf r else if c = 10 ∨ c = 13 then [] :: rowsOf (d :: r) else push c (rowsOf (d :: r))
theorem rowsOf_e1 : rowsOf [] = [[]] := rfl
theorem rowsOf_e2 {c : Nat} : rowsOf [c] = if c = 10 ∨ c = 13 then [[], []] else [[c]] := rfl
theorem rowsOf_e3 {c d : Nat} {r : List Nat} : rowsOf (c :: d :: r) = if c = 13 ∧ d = 10 then [] :: rowsOf r else if c = 10 ∨ c = 13 then [] :: rowsOf (d :: r) else push c (rowsOf (d :: r)) := rfl
theorem push_ne (c : Nat) (l : List (List Nat)) : push c l ≠ [] := by cases l <;> simp [push_e1, push_e2]
theorem rowsOf_ne : ∀ x, rowsOf x ≠ []
  | [] => by simp [rowsOf_e1, rowsOf_e2, rowsOf_e3]
  | [c] => by rw [rowsOf_e2]; split <;> simp
  | c :: d :: r => by
    rw [rowsOf_e3]
    split
    · simp
    · split
      · simp
      · exact push_ne _ _
theorem joinT_nilc {sep : List Nat} {l : List (List Nat)} (h : l ≠ []) : joinT sep ([] :: l) = sep ++ joinT sep l := by
  cases l with
  | nil => exact absurd rfl h
  | cons x r => rfl
theorem joinT_push {sep : List Nat} {c : Nat} {l : List (List Nat)} (h : l ≠ []) : joinT sep (push c l) = c :: joinT sep l := by
  cases l with
  | nil => exact absurd rfl h
  | cons x r => cases r <;> rfl
theorem fixE_rows : ∀ x, fixE x = joinT [13, 10] (rowsOf x)
  | [] => rfl
  | [c] => by rw [fixE_e2, rowsOf_e2]; split <;> rfl
  | c :: d :: r => by
    rw [fixE_e3, rowsOf_e3]
    split
    · rw [joinT_nilc (rowsOf_ne r), fixE_rows r]; rfl
    · split
      · rw [joinT_nilc (rowsOf_ne _), fixE_rows (d :: r)]
      · rw [joinT_push (rowsOf_ne _), fixE_rows (d :: r)]; rfl
theorem rows_free : ∀ x, ∀ t ∈ rowsOf x, 10 ∉ t ∧ 13 ∉ t
  | [], t, h => by simp [rowsOf_e1, rowsOf_e2, rowsOf_e3] at h; subst h; simp
  | [c], t, h => by
    rw [rowsOf_e2] at h
    split at h
    · simp at h; subst h; simp
    · next hc =>
      simp at h hc; subst h; simp; exact ⟨fun q => hc.1 q.symm, fun q => hc.2 q.symm⟩
  | c :: d :: r, t, h => by
    rw [rowsOf_e3] at h
    split at h
    · rcases List.mem_cons.mp h with rfl | h
      · simp
      · exact rows_free r t h
    · split at h
      · rcases List.mem_cons.mp h with rfl | h
        · simp
        · exact rows_free (d :: r) t h
      · next hc =>
        have ih := rows_free (d :: r)
        revert h ih
        generalize rowsOf (d :: r) = l
        intro h ih
        have h1 : 10 ≠ c := fun q => hc (.inl q.symm)
        have h2 : 13 ≠ c := fun q => hc (.inr q.symm)
        cases l with
        | nil => simp [push_e1, push_e2] at h; subst h; simp [h1, h2]
        | cons x l =>
          rw [push_e2] at h
          rcases List.mem_cons.mp h with rfl | h
          · have := ih x (.head _)
            simp [h1, h2, this]
          · exact ih t (.tail _ h)
theorem joinT_cons2 (sep x : List Nat) {l : List (List Nat)} (h : l ≠ []) : joinT sep (x :: l) = x ++ sep ++ joinT sep l := by
  cases l with
  | nil => exact absurd rfl h
  | cons y r => rfl
theorem fixE_free : ∀ {x : List Nat}, (10 ∉ x ∧ 13 ∉ x) → ∀ y, fixE (x ++ 13 :: 10 :: y) = x ++ 13 :: 10 :: fixE y
  | [], _, y => by show fixE (13 :: 10 :: y) = _; rw [fixE_e3, if_pos ⟨rfl, rfl⟩]; rfl
  | [c], h, y => by
    have h1 : c ≠ 10 := fun q => h.1 (q ▸ .head _)
    have h2 : c ≠ 13 := fun q => h.2 (q ▸ .head _)
    show fixE (c :: 13 :: 10 :: y) = _
    rw [fixE_e3, if_neg (fun q => h2 q.1), if_neg (fun q => q.elim h1 h2), fixE_e3, if_pos ⟨rfl, rfl⟩]
  | c :: d :: r, h, y => by
    have h1 : c ≠ 10 := fun q => h.1 (q ▸ .head _)
    have h2 : c ≠ 13 := fun q => h.2 (q ▸ .head _)
    show fixE (c :: d :: (r ++ 13 :: 10 :: y)) = _
    rw [fixE_e3, if_neg (fun q => h2 q.1), if_neg (fun q => q.elim h1 h2)]
    have := fixE_free (x := d :: r) ⟨fun q => h.1 (.tail _ q), fun q => h.2 (.tail _ q)⟩ y
    rw [show d :: (r ++ 13 :: 10 :: y) = (d :: r) ++ 13 :: 10 :: y from rfl, this]; rfl
theorem fixE_plain : ∀ {x : List Nat}, (10 ∉ x ∧ 13 ∉ x) → fixE x = x
  | [], _ => rfl
  | [c], h => by
    have h1 : c ≠ 10 := fun q => h.1 (q ▸ .head _)
    have h2 : c ≠ 13 := fun q => h.2 (q ▸ .head _)
    rw [fixE_e2, if_neg (fun q => q.elim h1 h2)]
  | c :: d :: r, h => by
    have h1 : c ≠ 10 := fun q => h.1 (q ▸ .head _)
    have h2 : c ≠ 13 := fun q => h.2 (q ▸ .head _)
    rw [fixE_e3, if_neg (fun q => h2 q.1), if_neg (fun q => q.elim h1 h2), fixE_plain (x := d :: r) ⟨fun q => h.1 (.tail _ q), fun q => h.2 (.tail _ q)⟩]; rfl
theorem fixE_join : ∀ {l : List (List Nat)}, (∀ t ∈ l, 10 ∉ t ∧ 13 ∉ t) → fixE (joinT [13, 10] l) = joinT [13, 10] l
  | [], _ => rfl
  | [x], h => fixE_plain (h x (.head _))
  | x :: y :: r, h => by
    show fixE (x ++ [13, 10] ++ joinT [13, 10] (y :: r)) = _
    rw [List.append_assoc, show [13, 10] ++ joinT [13, 10] (y :: r) = 13 :: 10 :: joinT [13, 10] (y :: r) from rfl, fixE_free (h x (.head _)), fixE_join fun t ht => h t (.tail _ ht)]
    show _ = x ++ [13, 10] ++ joinT [13, 10] (y :: r)
    rw [List.append_assoc]; rfl
theorem dk_join (k : Nat) : ∀ {l : List (List Nat)}, (∀ t ∈ l, 10 ∉ t ∧ 13 ∉ t) → dk k true (joinT [13, 10] l) = joinT [13, 10] (l.map (qt k))
  | [], _ => rfl
  | [x], h => dk_row k (h x (.head _)).1
  | x :: y :: r, h => by
    show dk k true (x ++ [13, 10] ++ joinT [13, 10] (y :: r)) = qt k x ++ [13, 10] ++ joinT [13, 10] ((y :: r).map (qt k))
    rw [List.append_assoc, dk_app, dk_row k (h x (.head _)).1, ← dk_join k fun t ht => h t (.tail _ ht), List.append_assoc]
    congr 1
    show (if _ && (13 : Nat) == 46 then _ else [13]) ++ ((if ((13 : Nat) == 10) && (10 : Nat) == 46 then _ else [10]) ++ dk k true _) = _
    rw [if_neg (by simp), if_neg (by simp)]; rfl
theorem qt_free (k : Nat) {t : List Nat} (h : 10 ∉ t ∧ 13 ∉ t) : 10 ∉ qt k t ∧ 13 ∉ qt k t := by
  unfold qt
  split <;> simp [h, List.mem_replicate]
theorem qt_qt (k : Nat) (t : List Nat) : qt 1 (qt k t) = qt (k + 1) t := by
  unfold qt
  by_cases h : t.head? = some 46
  · rw [if_pos h, if_pos h]
    have : (List.replicate k 46 ++ t).head? = some 46 := by
      cases k with
      | zero => exact h
      | succ k => rfl
    rw [if_pos this, List.replicate_succ]; rfl
  · rw [if_neg h, if_neg h]
    simp [h]
/-- sent so many times -/
noncomputable def sentN : Nat → List Nat → List Nat
  | 0, x => x
  | k + 1, x => dots true (fixE (sentN k x))
theorem sentN_e1 {x : List Nat} : sentN 0 x = x := rfl
theorem sentN_rows (x : List Nat) : ∀ k, sentN (k + 1) x = joinT [13, 10] ((rowsOf x).map (qt (k + 1)))
  | 0 => by
    show dots true (fixE x) = _
    rw [fixE_rows, dots_one, dk_join 1 (rows_free x)]
  | k + 1 => by
    show dots true (fixE (sentN (k + 1) x)) = _
    have hf : ∀ t ∈ (rowsOf x).map (qt (k + 1)), 10 ∉ t ∧ 13 ∉ t := fun t ht => by
      obtain ⟨u, hu, rfl⟩ := List.mem_map.mp ht
      exact qt_free _ (rows_free x u hu)
    rw [sentN_rows x k, fixE_join hf, dots_one, dk_join 1 hf, List.map_map]
    congr 1
    exact List.map_congr_left fun t _ => qt_qt (k + 1) t
/-- returns with line feeds behind them become line feeds -/
noncomputable def rp1 : List Nat → List Nat
  | [] => []
  | [c] => [c]
  | c :: d :: r => if c = 13 ∧ d = 10 then 10 :: rp1 r else c :: rp1 (d :: r)
theorem rp1_e1 : rp1 [] = [] := rfl
theorem rp1_e2 {c : Nat} : rp1 [c] = [c] := rfl
theorem rp1_e3 {c d : Nat} {r : List Nat} : rp1 (c :: d :: r) = if c = 13 ∧ d = 10 then 10 :: rp1 r else c :: rp1 (d :: r) := rfl
noncomputable def rp2 (x : List Nat) : List Nat := x.map fun c => if c = 13 then 10 else c
theorem rp_rows : ∀ x, joinT [10] (rowsOf x) = rp2 (rp1 x)
  | [] => rfl
  | [c] => by
    rw [rowsOf_e2, rp1_e2]; unfold rp2
    by_cases h : c = 10 ∨ c = 13
    · rw [if_pos h]; rcases h with rfl | rfl <;> rfl
    · rw [if_neg h]
      have h2 : c ≠ 13 := fun q => h (.inr q)
      simp [joinT_e1, joinT_e2, joinT_e3, h2]
  | c :: d :: r => by
    rw [rowsOf_e3, rp1_e3]
    by_cases h : c = 13 ∧ d = 10
    · rw [if_pos h, if_pos h, joinT_nilc (rowsOf_ne r), rp_rows r]; rfl
    · rw [if_neg h, if_neg h]
      have ih := rp_rows (d :: r)
      by_cases h : c = 10 ∨ c = 13
      · rw [if_pos h, joinT_nilc (rowsOf_ne _), ih]
        rcases h with rfl | rfl <;> rfl
      · rw [if_neg h, joinT_push (rowsOf_ne _), ih]
        have h2 : c ≠ 13 := fun q => h (.inr q)
        simp [rp2, h2]
end
section
open PySem PySem.W PyProof.Rows PySem.Calls
set_option maxRecDepth 100000
set_option maxHeartbeats 1000000
/-- texts that a cut before does not spoil -/
noncomputable def GoodT (x : List Nat) : Prop := ∃ c r, x = c :: r ∧ c ≠ 10
noncomputable def GoodP (ps : List (Option (List Nat))) : Prop := ∀ x, some x ∈ ps → GoodT x
theorem GoodT.head {x : List Nat} (h : GoodT x) : x.head? ≠ some 10 := by
  obtain ⟨c, r, rfl, hc⟩ := h
  simpa using hc
structure Nice (g : List Nat → List Nat) : Prop where
  app : ∀ x y : List Nat, y.head? ≠ some 10 → g (x ++ y) = g x ++ g y
  nil : g [] = []
  plain : ∀ x : List Nat, 10 ∉ x → 13 ∉ x → g x = x
theorem nice_fixE : Nice fixE := ⟨fixE_app, rfl, fun _ h1 h2 => fixE_plain ⟨h1, h2⟩⟩
theorem nice_id : Nice id := ⟨fun _ _ _ => rfl, rfl, fun _ _ _ => rfl⟩
section
variable {k : Nat} {g : List Nat → List Nat}
noncomputable def fq (k : Nat) (g : List Nat → List Nat) (b : Bool) (x : List Nat) : List Nat := dk k b (g x)
theorem fq_app (hg : Nice g) (b : Bool) (x : List Nat) {y : List Nat} (h : y.head? ≠ some 10) : fq k g b (x ++ y) = fq k g b x ++ fq k g (eb b (g x)) y := by
  unfold fq; rw [hg.app x y h, dk_app]
theorem fq_nil (hg : Nice g) (b : Bool) : fq k g b [] = [] := by unfold fq; rw [hg.nil]; rfl
theorem head_app {x y : List Nat} (hx : x.head? ≠ some 10) (hy : y.head? ≠ some 10) : (x ++ y).head? ≠ some 10 := by
  cases x with
  | nil => exact hy
  | cons c r => exact hx
theorem tail_head (t : List (List Nat)) : (tailOf t).head? ≠ some 10 := by
  match t with
  | [] => simp [tailOf_e1, tailOf_e2, tailOf_e3]
  | [x] => simp [tailOf_e1, tailOf_e2, tailOf_e3]
  | x :: y :: r => simp [tailOf_e1, tailOf_e2, tailOf_e3]
theorem dk_any (k : Nat) (b : Bool) {c : Nat} (r : List Nat) (h : c ≠ 46) : dk k b (c :: r) = c :: dk k (c == 10) r := by
  rw [dk_e2, if_neg (by simp [h])]; rfl
theorem tail_f (hg : Nice g) : ∀ t : List (List Nat), (∀ x ∈ t, x.head? ≠ some 10) → dk k false (g (tailOf t)) = tailOf (t.map (fq k g false))
  | [], _ => by show dk k false (g []) = []; rw [hg.nil]; rfl
  | [x], h => by
    show dk k false (g ([46, 42] ++ x)) = [46, 42] ++ dk k false (g x)
    rw [hg.app _ _ (h x (.head _)), hg.plain [46, 42] (by simp) (by simp)]
    rfl
  | x :: y :: r, h => by
    have ih := tail_f hg (y :: r) fun z hz => h z (.tail _ hz)
    show dk k false (g ([40, 63, 62, 46, 42, 63] ++ x ++ [41] ++ tailOf (y :: r))) = [40, 63, 62, 46, 42, 63] ++ dk k false (g x) ++ [41] ++ tailOf ((y :: r).map (fq k g false))
    rw [hg.app _ _ (tail_head _), hg.app _ [41] (by simp), hg.app _ _ (h x (.head _)), hg.plain [40, 63, 62, 46, 42, 63] (by simp) (by simp), hg.plain [41] (by simp) (by simp), ← ih,
      List.append_assoc, List.append_assoc, dk_app, dk_app]
    rw [show [41] ++ g (tailOf (y :: r)) = 41 :: g (tailOf (y :: r)) from rfl, dk_any k _ _ (by decide : (41 : Nat) ≠ 46)]
    simp [dk_e1, dk_e2, eb_e1, eb_e2]
theorem body_f (hg : Nice g) (h : List Nat) (t : List (List Nat)) (ht : ∀ x ∈ t, x.head? ≠ some 10) :
    dk k false (g (h ++ tailOf t)) = fq k g false h ++ (if t.length = 1 ∧ eb false (g h) = true then List.replicate k 46 else []) ++ tailOf (t.map (fq k g false)) := by
  rw [hg.app _ _ (tail_head t), dk_app]
  match t, ht with
  | [], _ => simp [tailOf_e1, tailOf_e2, tailOf_e3, fq, hg.nil, dk_e1, dk_e2]
  | [x], ht =>
    have e : g (tailOf [x]) = 46 :: 42 :: g x := by
      show g ([46, 42] ++ x) = _
      rw [hg.app _ _ (ht x (.head _)), hg.plain [46, 42] (by simp) (by simp)]; rfl
    rw [e]
    show _ = _ ++ _ ++ ([46, 42] ++ dk k false (g x))
    cases hb : eb false (g h)
    · simp [dk_e1, dk_e2, fq]
    · simp [dk_e1, dk_e2, fq]
  | x :: y :: r, ht =>
    rw [if_neg (by simp), List.append_nil, ← tail_f hg _ ht]
    have e : ∃ z, g (tailOf (x :: y :: r)) = 40 :: z := by
      have hd : (x ++ [41] ++ tailOf (y :: r)).head? ≠ some 10 := by
        rw [List.append_assoc]
        exact head_app (ht x (.head _)) (by simp)
      refine ⟨[63, 62, 46, 42, 63] ++ g (x ++ [41] ++ tailOf (y :: r)), ?_⟩
      show g ([40, 63, 62, 46, 42, 63] ++ x ++ [41] ++ tailOf (y :: r)) = _
      rw [List.append_assoc, List.append_assoc, ← List.append_assoc x, hg.app _ _ hd, hg.plain [40, 63, 62, 46, 42, 63] (by simp) (by simp)]; rfl
    obtain ⟨z, hz⟩ := e
    rw [hz, dk_any k _ _ (by decide : (40 : Nat) ≠ 46), dk_any k _ _ (by decide : (40 : Nat) ≠ 46)]; rfl
theorem runs_good : ∀ {ps : List (Option (List Nat))}, GoodP ps → (runsOf ps).1.head? ≠ some 10 ∧ ∀ x ∈ (runsOf ps).2, x.head? ≠ some 10
  | [], _ => ⟨by simp [runsOf_e1, runsOf_e2, runsOf_e3], by simp [runsOf_e1, runsOf_e2, runsOf_e3]⟩
  | some x :: r, h => by
    have ih := runs_good (ps := r) fun y hy => h y (.tail _ hy)
    exact ⟨head_app (h x (.head _)).head ih.1, ih.2⟩
  | none :: r, h => by
    have ih := runs_good (ps := r) fun y hy => h y (.tail _ hy)
    refine ⟨by simp [runsOf_e1, runsOf_e2, runsOf_e3], fun x hx => ?_⟩
    rcases List.mem_cons.mp hx with rfl | hx
    · exact ih.1
    · exact ih.2 x hx
theorem joined_f (hg : Nice g) {ps : List (Option (List Nat))} (h : GoodP ps) : dk k true (g (joinedT ps)) =
    [40, 63, 115, 58] ++ ((fq k g false (runsOf ps).1 ++ (if (runsOf ps).2.length = 1 ∧ eb false (g (runsOf ps).1) = true then List.replicate k 46 else [])) ++ tailOf ((runsOf ps).2.map (fq k g false))) ++ [41, 92, 90] := by
  have hh := runs_good h
  have hb : (bodyOf ps).head? ≠ some 10 := head_app hh.1 (tail_head _)
  unfold joinedT
  rw [hg.app _ [41, 92, 90] (by simp), hg.app _ _ hb, hg.plain [40, 63, 115, 58] (by simp) (by simp), hg.plain [41, 92, 90] (by simp) (by simp), ← body_f hg _ _ hh.2, dk_app, dk_app]
  rw [dk_any k _ _ (by decide : (41 : Nat) ≠ 46)]
  simp [dk_e1, dk_e2, eb_e1, eb_e2, bodyOf]
/-- the pieces, each by itself -/
noncomputable def sentR (f : Bool → List Nat → List Nat) (e : Bool → List Nat → Bool) (al : Bool) : Bool → List (Option (List Nat)) → List (Option (List Nat))
  | _, [] => []
  | b, none :: r => (if b && al then [some [46], none] else [none]) ++ sentR f e al false r
  | b, some x :: r => some (f b x) :: sentR f e al (e b x) r
theorem sentR_e1 {f : Bool → List Nat → List Nat} {e : Bool → List Nat → Bool} {al b : Bool} : sentR f e al b [] = [] := rfl
theorem sentR_e2 {f : Bool → List Nat → List Nat} {e : Bool → List Nat → Bool} {al b : Bool} {r : List (Option (List Nat))} : sentR f e al b (none :: r) = (if b && al then [some [46], none] else [none]) ++ sentR f e al false r := rfl
theorem sentR_e3 {f : Bool → List Nat → List Nat} {e : Bool → List Nat → Bool} {al b : Bool} {x : List Nat} {r : List (Option (List Nat))} : sentR f e al b (some x :: r) = some (f b x) :: sentR f e al (e b x) r := rfl
noncomputable def nones (ps : List (Option (List Nat))) : Nat := (ps.filter (·.isNone)).length
theorem nones_runs : ∀ ps, nones ps = (runsOf ps).2.length
  | [] => rfl
  | some x :: r => by
    have := nones_runs r
    simp only [nones, runsOf_e1, runsOf_e2, runsOf_e3] at *
    simpa using this
  | none :: r => by
    have := nones_runs r
    simp only [nones, runsOf_e1, runsOf_e2, runsOf_e3] at *
    simpa using this
theorem runs_sent (hg : Nice g) (al : Bool) : ∀ (ps : List (Option (List Nat))) (b : Bool), GoodP ps → (al = true → nones ps ≤ 1) →
    runsOf (sentR (fq 1 g) (fun b x => eb b (g x)) al b ps) = (fq 1 g b (runsOf ps).1 ++ (if al = true ∧ (runsOf ps).2 ≠ [] ∧ eb b (g (runsOf ps).1) = true then [46] else []), (runsOf ps).2.map (fq 1 g false))
  | [], b, _, _ => by simp [sentR_e1, sentR_e2, sentR_e3, runsOf_e1, runsOf_e2, runsOf_e3, fq_nil hg]
  | some x :: r, b, h, ha => by
    have h' : GoodP r := fun y hy => h y (.tail _ hy)
    have ih := runs_sent hg al r (eb b (g x)) h' fun q => by have := ha q; simpa [nones] using this
    have hh := (runs_good h').1
    show (fq 1 g b x ++ (runsOf (sentR _ _ al (eb b (g x)) r)).1, (runsOf (sentR _ _ al (eb b (g x)) r)).2) = _
    rw [ih]
    show _ = (fq 1 g b (x ++ (runsOf r).1) ++ (if al = true ∧ (runsOf r).2 ≠ [] ∧ eb b (g (x ++ (runsOf r).1)) = true then [46] else []), (runsOf r).2.map (fq 1 g false))
    rw [fq_app hg b x hh, hg.app x _ hh, eb_app, List.append_assoc]
  | none :: r, b, h, ha => by
    have h' : GoodP r := fun y hy => h y (.tail _ hy)
    have ih := runs_sent hg al r false h' fun q => by have := ha q; rw [show nones (none :: r) = nones r + 1 from rfl] at this; lia
    have e : (if al = true ∧ (runsOf r).2 ≠ [] ∧ eb false (g (runsOf r).1) = true then [46] else []) = ([] : List Nat) := by
      refine if_neg fun q => q.2.1 ?_
      have := ha q.1
      have h2 := nones_runs (none :: r)
      rw [h2] at this
      exact List.length_eq_zero_iff.mp (by simpa [runsOf_e1, runsOf_e2, runsOf_e3] using this)
    rw [e, List.append_nil] at ih
    have hn : eb b (g []) = b := by rw [hg.nil]; rfl
    show runsOf ((if (b && al) = true then [some [46], none] else [none]) ++ sentR _ _ al false r) = (fq 1 g b [] ++ (if al = true ∧ (runsOf r).1 :: (runsOf r).2 ≠ [] ∧ eb b (g []) = true then [46] else []), ((runsOf r).1 :: (runsOf r).2).map (fq 1 g false))
    rw [hn, fq_nil hg]
    by_cases hb : (b && al) = true
    · obtain ⟨h1, h2⟩ := Bool.and_eq_true_iff.mp hb
      rw [if_pos hb, if_pos ⟨h2, by simp, h1⟩]
      show ([46] ++ [], (runsOf (sentR _ _ al false r)).1 :: (runsOf (sentR _ _ al false r)).2) = _
      rw [ih]; rfl
    · rw [if_neg hb, if_neg fun q => hb (by rw [q.1, q.2.2]; rfl)]
      show ([], (runsOf (sentR _ _ al false r)).1 :: (runsOf (sentR _ _ al false r)).2) = _
      rw [ih]; rfl
theorem sent_joined (hg : Nice g) {ps : List (Option (List Nat))} (h : GoodP ps) : joinedT (sentR (fq 1 g) (fun b x => eb b (g x)) (nones ps == 1) false ps) = dk 1 true (g (joinedT ps)) := by
  rw [joined_f hg h]
  unfold joinedT bodyOf
  rw [runs_sent hg _ ps false h fun q => by have := (by simpa using q : nones ps = 1); lia]
  have e : ((nones ps == 1) = true ∧ (runsOf ps).2 ≠ [] ∧ eb false (g (runsOf ps).1) = true) ↔ ((runsOf ps).2.length = 1 ∧ eb false (g (runsOf ps).1) = true) := by
    rw [nones_runs]
    constructor
    · rintro ⟨a, _, c⟩; exact ⟨by simpa using a, c⟩
    · rintro ⟨a, c⟩; exact ⟨by simpa using a, (fun q => by rw [q] at a; cases a), c⟩
  simp only [e]
  rfl
end
end
section
open PySem PySem.W PyProof.Rows PySem.Calls
set_option maxRecDepth 100000
set_option maxHeartbeats 1000000
noncomputable def lfEnd (acc : List (List Nat)) : Bool := match acc.getLast? with
  | some l => l.getLast? == some 10
  | none => false
noncomputable def keptStep (k : Nat) (acc : List (List Nat)) (m : List Nat) : List (List Nat) :=
  if m = [98, 45, 97] then acc else (if lfEnd acc && m.head? == some 46 then acc ++ List.replicate k [46] else acc) ++ [m]
noncomputable def keptM (k : Nat) (ms : List (List Nat)) : List (List Nat) := ms.foldl (keptStep k) []
noncomputable def It.more (k : Nat) : It → It
  | .br neg ms => .br neg (if keptM k ms = [] then ms else keptM k ms)
  | it => it
noncomputable def It.isLF : It → Bool
  | .lit c => c == 10
  | _ => false
theorem isLF_e1 : It.isLF .star = false := rfl
theorem isLF_e2 : It.isLF .qm = false := rfl
theorem isLF_e3 {c : Nat} : It.isLF (.lit c) = (c == 10) := rfl
theorem isLF_e4 {neg : Bool} {ms : List (List Nat)} : It.isLF (.br neg ms) = false := rfl
noncomputable def It.isStar : It → Bool
  | .star => true
  | _ => false
theorem isStar_e1 : It.isStar .star = true := rfl
theorem isStar_e2 : It.isStar .qm = false := rfl
theorem isStar_e3 {c : Nat} : It.isStar (.lit c) = false := rfl
theorem isStar_e4 {neg : Bool} {ms : List (List Nat)} : It.isStar (.br neg ms) = false := rfl
noncomputable def askDot (k : Nat) (al : Bool) : It → Bool
  | .qm => true
  | .star => al
  | .br neg ms => neg && (keptM k ms).isEmpty
  | .lit _ => false
theorem askDot_e3 {k : Nat} {al neg : Bool} {ms : List (List Nat)} : askDot k al (.br neg ms) = (neg && (keptM k ms).isEmpty) := rfl
/-- the told pattern -/
noncomputable def moreR (k : Nat) (al : Bool) : Bool → List It → List It
  | _, [] => []
  | b, it :: r => (if b && askDot k al it then List.replicate k .qm else []) ++ it.more k :: moreR k al it.isLF r
theorem moreR_e1 {k : Nat} {al b : Bool} : moreR k al b [] = [] := rfl
theorem moreR_e2 {k : Nat} {al b : Bool} {it : It} {r : List It} : moreR k al b (it :: r) = (if b && askDot k al it then List.replicate k .qm else []) ++ it.more k :: moreR k al it.isLF r := rfl
/-- the pieces from the left (p: the last one is a star) -/
noncomputable def pcsR : Bool → List It → List (Option (List Nat))
  | _, [] => []
  | p, it :: r => match pieceOf it with
    | none => if p then pcsR true r else none :: pcsR true r
    | some x => some x :: pcsR false r
theorem pcsR_e1 {p : Bool} : pcsR p [] = [] := rfl
theorem pcsR_some {p : Bool} {it : It} {r : List It} {x : List Nat} (h : pieceOf it = some x) : pcsR p (it :: r) = some x :: pcsR false r := by show (match pieceOf it with | none => if p then pcsR true r else none :: pcsR true r | some x => some x :: pcsR false r) = _; rw [h]
theorem pcsR_none {p : Bool} {it : It} {r : List It} (h : pieceOf it = none) : pcsR p (it :: r) = if p then pcsR true r else none :: pcsR true r := by show (match pieceOf it with | none => if p then pcsR true r else none :: pcsR true r | some x => some x :: pcsR false r) = _; rw [h]
theorem pcs_fold : ∀ (its : List It) (acc : List (Option (List Nat))), its.foldl (fun acc it => addPiece acc (pieceOf it)) acc = acc ++ pcsR (acc.getLast? == some none) its
  | [], acc => by simp [pcsR_e1]
  | it :: r, acc => by
    rw [List.foldl_cons, pcs_fold r]
    unfold addPiece
    cases hp : pieceOf it with
    | none =>
      rw [pcsR_none hp]
      by_cases h : acc.getLast? = some none
      · simp [h]
      · have : (acc.getLast? == some none) = false := by simpa using h
        simp [h]
    | some x => rw [pcsR_some hp]; simp
theorem pcs_R (its : List It) : pieces its = pcsR false its := by
  unfold pieces; rw [pcs_fold]; rfl
theorem kept_cons {m : List Nat} {ms : List (List Nat)} : kept (m :: ms) = if m = [98, 45, 97] then kept ms else m ++ kept ms := by
  unfold kept
  by_cases h : m = [98, 45, 97]
  · subst h; simp
  · simp [h]
theorem lfEnd_snoc (acc : List (List Nat)) (m : List Nat) : lfEnd (acc ++ [m]) = (m.getLast? == some 10) := by simp [lfEnd]
theorem mem_facts (k : Nat) : ∀ m ∈ mtab, m ≠ [98, 45, 97] → ∀ b, dk k b m = (if b && m.head? == some 46 then List.replicate k 46 else []) ++ m ∧ eb b m = (m.getLast? == some 10) := by
  intro m hm h b
  simp only [mtab, List.mem_cons, List.not_mem_nil, or_false] at hm
  rcases hm with rfl | rfl | rfl | rfl | rfl | rfl | rfl | rfl | rfl
  · exact absurd rfl h
  all_goals cases b <;> first | exact ⟨rfl, rfl⟩ | simp [dk_e1, dk_e2, eb_e1, eb_e2]
theorem rep_flat (k : Nat) : (List.replicate k [46]).flatten = List.replicate k 46 := by
  induction k with
  | zero => rfl
  | succ k ih => rw [List.replicate_succ, List.flatten_cons, ih, List.replicate_succ]; rfl
theorem kept_fold (k : Nat) : ∀ (ms acc : List (List Nat)), (∀ m ∈ ms, m ∈ mtab) → (ms.foldl (keptStep k) acc).flatten = acc.flatten ++ dk k (lfEnd acc) (kept ms)
  | [], acc, _ => by simp [kept, dk_e1, dk_e2]
  | m :: ms, acc, h => by
    have h' : ∀ x ∈ ms, x ∈ mtab := fun x hx => h x (.tail _ hx)
    rw [List.foldl_cons, kept_fold k ms _ h', kept_cons]
    unfold keptStep
    by_cases hm : m = [98, 45, 97]
    · rw [if_pos hm, if_pos hm]
    · obtain ⟨f1, f2⟩ := mem_facts k m (h m (.head _)) hm (lfEnd acc)
      rw [if_neg hm, if_neg hm, lfEnd_snoc, dk_app, f1, f2, List.flatten_append]
      by_cases hc : (lfEnd acc && m.head? == some 46) = true
      · rw [if_pos hc, if_pos hc, List.flatten_append, rep_flat]; simp
      · rw [if_neg hc, if_neg hc]; simp
theorem keptM_flat (k : Nat) {ms : List (List Nat)} (h : ∀ m ∈ ms, m ∈ mtab) : (keptM k ms).flatten = dk k false (kept ms) := kept_fold k ms [] h
theorem fold_mem (k : Nat) : ∀ (ms acc : List (List Nat)), (∀ m ∈ ms, m ∈ mtab) → (∀ m ∈ acc, m ∈ mtab ∧ m ≠ [98, 45, 97]) → ∀ m ∈ ms.foldl (keptStep k) acc, m ∈ mtab ∧ m ≠ [98, 45, 97]
  | [], _, _, ha => ha
  | m :: ms, acc, h, ha => by
    rw [List.foldl_cons]
    refine fold_mem k ms _ (fun x hx => h x (.tail _ hx)) ?_
    unfold keptStep
    by_cases hm : m = [98, 45, 97]
    · rw [if_pos hm]; exact ha
    · rw [if_neg hm]
      intro x hx
      rcases List.mem_append.mp hx with hx | hx
      · split at hx
        · rcases List.mem_append.mp hx with hx | hx
          · exact ha x hx
          · rw [(List.mem_replicate.mp hx).2]; exact ⟨by decide, by decide⟩
        · exact ha x hx
      · rw [List.mem_singleton.mp hx]; exact ⟨h m (.head _), hm⟩
theorem keptM_mem (k : Nat) {ms : List (List Nat)} (h : ∀ m ∈ ms, m ∈ mtab) : ∀ m ∈ keptM k ms, m ∈ mtab ∧ m ≠ [98, 45, 97] := fold_mem k ms [] h fun _ q => nomatch q
theorem flat_nil {ms : List (List Nat)} (h : ∀ m ∈ ms, m ∈ mtab) (hf : ms.flatten = []) : ms = [] := by
  cases ms with
  | nil => rfl
  | cons m r =>
    have h1 := (by decide : ∀ m ∈ mtab, m ≠ []) m (h m (.head _))
    simp [h1] at hf
theorem dk_nil_iff (k : Nat) (b : Bool) (x : List Nat) : dk k b x = [] ↔ x = [] := by
  cases x with
  | nil => simp [dk_e1, dk_e2]
  | cons c r => rw [dk_e2]; split <;> simp
theorem keptM_nil (k : Nat) {ms : List (List Nat)} (h : ∀ m ∈ ms, m ∈ mtab) : keptM k ms = [] ↔ kept ms = [] := by
  rw [← dk_nil_iff k false (kept ms), ← keptM_flat k h]
  constructor
  · intro e; rw [e]; rfl
  · exact flat_nil fun m hm => (keptM_mem k h m hm).1
theorem kept_keptM (k : Nat) {ms : List (List Nat)} (h : ∀ m ∈ ms, m ∈ mtab) : kept (keptM k ms) = dk k false (kept ms) := by
  rw [← keptM_flat k h]
  unfold kept
  rw [List.filter_eq_self.mpr fun m hm => by simpa using (keptM_mem k h m hm).2]
theorem more_ok (k : Nat) {it : It} (h : it.Ok) : (it.more k).Ok := by
  cases it with
  | br neg ms =>
    show (It.br neg (if keptM k ms = [] then ms else keptM k ms)).Ok
    split
    · exact h
    · next hk => exact ⟨hk, fun m hm => (keptM_mem k h.2 m hm).1⟩
  | _ => exact h
theorem moreR_ok (k : Nat) (al : Bool) : ∀ (its : List It) (b : Bool), (∀ it ∈ its, it.Ok) → ∀ it ∈ moreR k al b its, it.Ok
  | [], _, _, it, h => nomatch h
  | i :: r, b, hok, it, h => by
    rw [moreR_e2] at h
    rcases List.mem_append.mp h with h | h
    · split at h
      · rw [(List.mem_replicate.mp h).2]; trivial
      · cases h
    · rcases List.mem_cons.mp h with rfl | h
      · exact more_ok k (hok _ (.head _))
      · exact moreR_ok k al r _ (fun x hx => hok x (.tail _ hx)) it h
theorem lit_facts (k : Nat) : ∀ c ∈ lits, ∀ b, dk k b (escd c) = escd c ∧ eb b (escd c) = (c == 10) ∧ GoodT (escd c) := by
  intro c hc b
  simp only [lits, List.mem_cons, List.not_mem_nil, or_false] at hc
  rcases hc with rfl | rfl | rfl | rfl | rfl | rfl | rfl | rfl | rfl | rfl | rfl | rfl | rfl | rfl | rfl | rfl | rfl
  all_goals refine ⟨?_, ?_, ?_⟩
  all_goals first
    | exact ⟨_, _, rfl, by decide⟩
    | (cases b <;> rfl)
theorem lit_facts2 : ∀ c ∈ lits, ∀ b, ee b (escd c) = (c == 10 || c == 13) ∧ (∀ d ∈ escd c, d < 256 ∧ d ≠ 0) ∧ (escd c).length ≤ 2 := by decide +kernel
theorem rep_qm : ∀ (k : Nat) (p : Bool) (r : List It), 0 < k → pcsR p (List.replicate k .qm ++ r) = List.replicate k (some [46]) ++ pcsR false r
  | 0, _, _, h => nomatch h
  | 1, p, r, _ => rfl
  | k + 2, p, r, _ => by
    rw [List.replicate_succ, List.cons_append]
    show some [46] :: pcsR false (List.replicate (k + 1) .qm ++ r) = _
    rw [rep_qm (k + 1) false r (by lia)]; rfl
theorem runs_rep (k : Nat) (r : List (Option (List Nat))) : runsOf (List.replicate k (some [46]) ++ r) = (List.replicate k 46 ++ (runsOf r).1, (runsOf r).2) := by
  induction k with
  | zero => rfl
  | succ k ih => rw [List.replicate_succ, List.cons_append, runsOf_e2, ih, List.replicate_succ]; rfl
theorem dk_piece_br (k : Nat) (b : Bool) {neg : Bool} {ms : List (List Nat)} (h : ∀ m ∈ ms, m ∈ mtab) (hne : kept ms ≠ []) :
    pieceOf ((It.br neg ms).more k) = some (dk k b ((if neg then [91, 94] else [91]) ++ kept ms ++ [93])) ∧ eb b ((if neg then [91, 94] else [91]) ++ kept ms ++ [93]) = false := by
  have h1 : keptM k ms ≠ [] := fun q => hne ((keptM_nil k h).mp q)
  have h2 : kept (keptM k ms) ≠ [] := by rw [kept_keptM k h]; exact fun q => hne ((dk_nil_iff k false _).mp q)
  constructor
  · show pieceOf (It.br neg (if keptM k ms = [] then ms else keptM k ms)) = _
    rw [if_neg h1]
    show some (if kept (keptM k ms) = [] then _ else _) = _
    rw [if_neg h2, kept_keptM k h, dk_app, dk_app, dk_any k _ [] (by decide : (93 : Nat) ≠ 46)]
    cases neg <;> simp [dk_e1, dk_e2, eb_e1, eb_e2]
  · rw [eb_app]; rfl
/-- what a piece that is no star becomes -/
theorem runs_more (k : Nat) (hk : 0 < k) (al : Bool) : ∀ (its : List It) (p b : Bool), (∀ it ∈ its, it.Ok) → (p = true → b = false) → (al = true → nones (pcsR p its) ≤ if p then 0 else 1) →
    runsOf (pcsR p (moreR k al b its)) = (dk k b (runsOf (pcsR p its)).1 ++ (if al = true ∧ (runsOf (pcsR p its)).2 ≠ [] ∧ eb b (runsOf (pcsR p its)).1 = true then List.replicate k 46 else []), (runsOf (pcsR p its)).2.map (dk k false)) := by
  intro its
  induction its with
  | nil => intro p b _ _ _; simp [moreR_e1, moreR_e2, pcsR_e1, runsOf_e1, runsOf_e2, runsOf_e3, dk_e1, dk_e2]
  | cons it r IH =>
    intro p b hok hp ha
    have hok' : ∀ x ∈ r, x.Ok := fun x hx => hok x (.tail _ hx)
    have hit := hok it (.head _)
    -- a piece that is a text
    have text : ∀ (x y : List Nat) (q : List It), pieceOf it = some x → (∀ z, pcsR p (q ++ it.more k :: z) = (q.map fun _ => some [46]) ++ some y :: pcsR false z) → ((q.map fun _ => some [46]) : List (Option (List Nat))) = List.replicate q.length (some [46]) → List.replicate q.length 46 ++ y = dk k b x → eb b x = it.isLF →
        runsOf (pcsR p (q ++ it.more k :: moreR k al it.isLF r)) = (dk k b (runsOf (pcsR p (it :: r))).1 ++ (if al = true ∧ (runsOf (pcsR p (it :: r))).2 ≠ [] ∧ eb b (runsOf (pcsR p (it :: r))).1 = true then List.replicate k 46 else []), (runsOf (pcsR p (it :: r))).2.map (dk k false)) := by
      intro x y q hx hq hr hy he
      have e : pcsR p (it :: r) = some x :: pcsR false r := pcsR_some hx
      have ih := IH false it.isLF hok' (fun q => nomatch q) fun q => by
        have := ha q; rw [e] at this
        have h2 : nones (some x :: pcsR false r) = nones (pcsR false r) := rfl
        rw [h2] at this
        split at this <;> simp <;> lia
      rw [hq, hr, runs_rep, e]
      show (List.replicate q.length 46 ++ (y ++ (runsOf (pcsR false (moreR k al it.isLF r))).1), (runsOf (pcsR false (moreR k al it.isLF r))).2) = (dk k b (x ++ (runsOf (pcsR false r)).1) ++ (if al = true ∧ (runsOf (pcsR false r)).2 ≠ [] ∧ eb b (x ++ (runsOf (pcsR false r)).1) = true then List.replicate k 46 else []), (runsOf (pcsR false r)).2.map (dk k false))
      rw [ih, dk_app, eb_app, he, ← hy]
      simp only [List.append_assoc]
    show runsOf (pcsR p ((if (b && askDot k al it) = true then List.replicate k .qm else []) ++ it.more k :: moreR k al it.isLF r)) = _
    cases it with
    | star =>
      have hl : It.star.isLF = false := rfl
      have hm : It.star.more k = It.star := rfl
      rw [hl, hm]
      show runsOf (pcsR p ((if (b && al) = true then List.replicate k .qm else []) ++ It.star :: moreR k al false r)) = _
      cases p with
      | true =>
        have hb := hp rfl
        subst hb
        exact IH true false hok' (fun _ => rfl) ha
      | false =>
        have e : pcsR false (It.star :: r) = none :: pcsR true r := rfl
        have ha' : al = true → nones (pcsR true r) ≤ 0 := fun q => by
          have := ha q; rw [e, show nones (none :: pcsR true r) = nones (pcsR true r) + 1 from rfl] at this
          simp at this; lia
        have ih := IH true false hok' (fun _ => rfl) ha'
        have e2 : (if al = true ∧ (runsOf (pcsR true r)).2 ≠ [] ∧ eb false (runsOf (pcsR true r)).1 = true then List.replicate k 46 else []) = ([] : List Nat) := by
          refine if_neg fun q => q.2.1 ?_
          have := ha' q.1
          rw [nones_runs] at this
          exact List.length_eq_zero_iff.mp (by lia)
        rw [e2, List.append_nil] at ih
        rw [e]
        show _ = (dk k b [] ++ (if al = true ∧ (runsOf (pcsR true r)).1 :: (runsOf (pcsR true r)).2 ≠ [] ∧ b = true then List.replicate k 46 else []), ((runsOf (pcsR true r)).1 :: (runsOf (pcsR true r)).2).map (dk k false))
        by_cases hb : (b && al) = true
        · obtain ⟨h1, h2⟩ := Bool.and_eq_true_iff.mp hb
          rw [if_pos hb, if_pos ⟨h2, by simp, h1⟩, rep_qm k false _ hk, runs_rep]
          show (List.replicate k 46 ++ [], (runsOf (pcsR true (moreR k al false r))).1 :: (runsOf (pcsR true (moreR k al false r))).2) = _
          rw [ih]; simp [dk_e1, dk_e2]
        · rw [if_neg hb, if_neg fun q => hb (by rw [q.1, q.2.2]; rfl)]
          show ([], (runsOf (pcsR true (moreR k al false r))).1 :: (runsOf (pcsR true (moreR k al false r))).2) = _
          rw [ih]; simp [dk_e1, dk_e2]
    | qm =>
      cases b with
      | false => exact text [46] [46] [] rfl (fun z => rfl) rfl rfl rfl
      | true =>
        refine text [46] [46] (List.replicate k .qm) rfl (fun z => ?_) (by simp) (by simp [dk_e1, dk_e2]) rfl
        rw [rep_qm k p _ hk]; simp; rfl
    | lit c =>
      obtain ⟨f1, f2, _⟩ := lit_facts k c hit b
      have : (b && askDot k al (It.lit c)) = false := by cases b <;> rfl
      rw [this]
      exact text (escd c) (escd c) [] rfl (fun z => rfl) rfl f1.symm f2
    | br neg ms =>
      have hms := hit.2
      by_cases hn : kept ms = []
      · have hk0 := (keptM_nil k hms).mpr hn
        have hm : (It.br neg ms).more k = It.br neg ms := by show It.br neg (if keptM k ms = [] then ms else keptM k ms) = _; rw [if_pos hk0]
        have ha2 : askDot k al (It.br neg ms) = neg := by show (neg && (keptM k ms).isEmpty) = neg; rw [hk0]; simp
        rw [ha2]
        cases neg with
        | false =>
          rw [Bool.and_false]
          have hpc : pieceOf (.br false ms) = some [40, 63, 33, 41] := by simp [pieceOf_e1, pieceOf_e2, pieceOf_e3, pieceOf_e4, hn]
          refine text [40, 63, 33, 41] [40, 63, 33, 41] [] hpc (fun z => ?_) rfl (by cases b <;> simp [dk_e1, dk_e2]) rfl
          rw [hm]; exact pcsR_some hpc
        | true =>
          rw [Bool.and_true]
          have hpc : pieceOf (.br true ms) = some [46] := by simp [pieceOf_e1, pieceOf_e2, pieceOf_e3, pieceOf_e4, hn]
          have hstep : ∀ p z, pcsR p (It.br true ms :: z) = some [46] :: pcsR false z := fun p z => pcsR_some hpc
          cases b with
          | false =>
            refine text [46] [46] [] hpc (fun z => ?_) rfl rfl rfl
            rw [hm]; exact hstep p z
          | true =>
            refine text [46] [46] (List.replicate k .qm) hpc (fun z => ?_) (by simp) (by simp [dk_e1, dk_e2]) rfl
            rw [hm, rep_qm k p _ hk, hstep]; simp
      · obtain ⟨f1, f2⟩ := dk_piece_br k b (neg := neg) hms hn
        have ha2 : askDot k al (It.br neg ms) = false := by
          show (neg && (keptM k ms).isEmpty) = false
          rw [show (keptM k ms).isEmpty = false from by simpa using fun q => hn ((keptM_nil k hms).mp q)]; simp
        rw [ha2, Bool.and_false]
        have hpc : pieceOf (.br neg ms) = some ((if neg then [91, 94] else [91]) ++ kept ms ++ [93]) := by simp [pieceOf_e1, pieceOf_e2, pieceOf_e3, pieceOf_e4, hn]
        refine text _ (dk k b ((if neg then [91, 94] else [91]) ++ kept ms ++ [93])) [] hpc (fun z => ?_) rfl rfl f2
        show pcsR p ((It.br neg ms).more k :: z) = _
        exact pcsR_some f1
end
section
open PySem PySem.W PyProof.Rows PySem.Calls
set_option maxRecDepth 100000
set_option maxHeartbeats 1000000
theorem pcs_mem : ∀ {its : List It} {p : Bool} {x : List Nat}, some x ∈ pcsR p its → ∃ it ∈ its, pieceOf it = some x
  | [], _, _, h => nomatch h
  | it :: r, p, x, h => by
    cases hp : pieceOf it with
    | none =>
      rw [pcsR_none hp] at h
      have : some x ∈ pcsR true r := by
        split at h
        · exact h
        · rcases List.mem_cons.mp h with h | h
          · cases h
          · exact h
      obtain ⟨i, hi, e⟩ := pcs_mem this
      exact ⟨i, .tail _ hi, e⟩
    | some y =>
      rw [pcsR_some hp] at h
      rcases List.mem_cons.mp h with h | h
      · exact ⟨it, .head _, by rw [hp, h]⟩
      · obtain ⟨i, hi, e⟩ := pcs_mem h
        exact ⟨i, .tail _ hi, e⟩
theorem mtab_chars : ∀ m ∈ mtab, ∀ d ∈ m, d < 256 ∧ d ≠ 0 := by decide
theorem mtab_len : ∀ m ∈ mtab, m.length ≤ 3 := by decide
theorem kept_in {ms : List (List Nat)} (h : ∀ m ∈ ms, m ∈ mtab) : ∀ d ∈ kept ms, d < 256 ∧ d ≠ 0 := by
  intro d hd
  obtain ⟨m, hm, hdm⟩ := List.mem_flatten.mp hd
  exact mtab_chars m (h m (List.mem_filter.mp hm).1) d hdm
theorem piece_good {it : It} (h : it.Ok) {x : List Nat} (hx : pieceOf it = some x) : GoodT x := by
  cases it with
  | star => cases hx
  | qm => cases hx; exact ⟨_, _, rfl, by decide⟩
  | lit c => cases hx; exact (lit_facts 0 c h true).2.2
  | br neg ms =>
    simp only [pieceOf_e1, pieceOf_e2, pieceOf_e3, pieceOf_e4, Option.some.injEq] at hx
    subst hx
    by_cases hk : kept ms = []
    · rw [if_pos hk]; cases neg <;> exact ⟨_, _, rfl, by decide⟩
    · rw [if_neg hk]; cases neg <;> exact ⟨_, _, rfl, by decide⟩
theorem piece_chars {it : It} (h : it.Ok) {x : List Nat} (hx : pieceOf it = some x) : ∀ d ∈ x, d < 256 ∧ d ≠ 0 := by
  cases it with
  | star => cases hx
  | qm => cases hx; decide
  | lit c => cases hx; exact (lit_facts2 c h true).2.1
  | br neg ms =>
    simp only [pieceOf_e1, pieceOf_e2, pieceOf_e3, pieceOf_e4, Option.some.injEq] at hx
    subst hx
    by_cases hk : kept ms = []
    · rw [if_pos hk]; cases neg <;> decide
    · rw [if_neg hk]
      intro d hd
      rcases List.mem_append.mp hd with hd | hd
      · rcases List.mem_append.mp hd with hd | hd
        · cases neg
          · exact (by decide : ∀ d ∈ ([91] : List Nat), d < 256 ∧ d ≠ 0) d hd
          · exact (by decide : ∀ d ∈ ([91, 94] : List Nat), d < 256 ∧ d ≠ 0) d hd
        · exact kept_in h.2 d hd
      · exact (by decide : ∀ d ∈ ([93] : List Nat), d < 256 ∧ d ≠ 0) d hd
theorem piece_wt {it : It} (h : it.Ok) {x : List Nat} (hx : pieceOf it = some x) : x.length ≤ it.text.length + 6 := by
  cases it with
  | star => cases hx
  | qm => cases hx; simp
  | lit c => cases hx; have := (lit_facts2 c h true).2.2; lia
  | br neg ms =>
    simp only [pieceOf_e1, pieceOf_e2, pieceOf_e3, pieceOf_e4, Option.some.injEq] at hx
    subst hx
    have hl := kept_len ms
    by_cases hk : kept ms = []
    · rw [if_pos hk]; cases neg <;> simp
    · rw [if_neg hk]; cases neg <;> simp [text_e1, text_e2, text_e3, text_e4, -List.length_flatten] <;> lia
theorem pieces_good {its : List It} (h : ∀ it ∈ its, it.Ok) : GoodP (pieces its) := fun x hx => by
  rw [pcs_R] at hx
  obtain ⟨it, hi, e⟩ := pcs_mem hx
  exact piece_good (h it hi) e
theorem pieces_chars {its : List It} (h : ∀ it ∈ its, it.Ok) : ∀ x, some x ∈ pieces its → ∀ d ∈ x, d < 256 ∧ d ≠ 0 := fun x hx => by
  rw [pcs_R] at hx
  obtain ⟨it, hi, e⟩ := pcs_mem hx
  exact piece_chars (h it hi) e
-- no two stars in a row
theorem nodd_nil : NoDD [] := fun a b h => by cases a <;> cases h
theorem nodd_some {x : List Nat} {r : List (Option (List Nat))} (h : NoDD r) : NoDD (some x :: r) := fun a b e => by
  cases a with
  | nil => cases e
  | cons y a => injection e with e1 e2; exact h a b e2
theorem nodd_none {r : List (Option (List Nat))} (h : NoDD r) (hr : r.head? ≠ some none) : NoDD (none :: r) := fun a b e => by
  cases a with
  | nil => injection e with e1 e2; rw [e2] at hr; exact hr rfl
  | cons y a => injection e with e1 e2; exact h a b e2
theorem nodd_tail {p : Option (List Nat)} {r : List (Option (List Nat))} (h : NoDD (p :: r)) : NoDD r := fun a b e => h (p :: a) b (by rw [e]; rfl)
theorem nodd_head {r : List (Option (List Nat))} (h : NoDD (none :: r)) : r.head? ≠ some none := by
  cases r with
  | nil => simp
  | cons y r =>
    cases y with
    | none => exact absurd rfl (h [] r)
    | some x => simp
theorem nodd_pcs : ∀ (its : List It) (p : Bool), NoDD (pcsR p its) ∧ (p = true → (pcsR p its).head? ≠ some none)
  | [], p => ⟨nodd_nil, fun _ => by simp [pcsR_e1]⟩
  | it :: r, p => by
    cases hp : pieceOf it with
    | none =>
      rw [pcsR_none hp]
      have ih := nodd_pcs r true
      cases p with
      | true => exact ⟨ih.1, fun _ => ih.2 rfl⟩
      | false => exact ⟨nodd_none ih.1 (ih.2 rfl), fun q => nomatch q⟩
    | some y =>
      rw [pcsR_some hp]
      exact ⟨nodd_some (nodd_pcs r false).1, fun _ => by simp⟩
theorem nodd_pieces (its : List It) : NoDD (pieces its) := by rw [pcs_R]; exact (nodd_pcs its false).1
theorem nodd_sent (f : Bool → List Nat → List Nat) (e : Bool → List Nat → Bool) (al : Bool) : ∀ (ps : List (Option (List Nat))) (b : Bool), NoDD ps → NoDD (sentR f e al b ps) ∧ (ps.head? ≠ some none → (sentR f e al b ps).head? ≠ some none)
  | [], _, _ => ⟨nodd_nil, fun _ => by simp [sentR_e1, sentR_e2, sentR_e3]⟩
  | none :: r, b, h => by
    have ih := nodd_sent f e al r false (nodd_tail h)
    have h1 := nodd_none ih.1 (ih.2 (nodd_head h))
    refine ⟨?_, fun q => absurd rfl q⟩
    show NoDD ((if (b && al) = true then [some [46], none] else [none]) ++ sentR f e al false r)
    split
    · exact nodd_some h1
    · exact h1
  | some x :: r, b, h => ⟨nodd_some (nodd_sent f e al r _ (nodd_tail h)).1, fun _ => by simp [sentR_e1, sentR_e2, sentR_e3]⟩
-- sizes
noncomputable def wt : Option (List Nat) → Nat
  | none => 7
  | some x => x.length
theorem wt_e1 : wt none = 7 := rfl
theorem wt_e2 {x : List Nat} : wt (some x) = x.length := rfl
noncomputable def wsum (ps : List (Option (List Nat))) : Nat := (ps.map wt).sum
theorem body_wt : ∀ ps, (bodyOf ps).length ≤ wsum ps
  | [] => by simp [bodyOf, runsOf_e1, runsOf_e2, runsOf_e3, tailOf_e1, tailOf_e2, tailOf_e3]
  | some x :: r => by
    have ih := body_wt r
    have e : bodyOf (some x :: r) = x ++ bodyOf r := by unfold bodyOf; simp [runsOf_e1, runsOf_e2, runsOf_e3]
    rw [e, List.length_append]
    show _ ≤ x.length + wsum r
    lia
  | none :: r => by
    have ih := body_wt r
    show (([] : List Nat) ++ tailOf ((runsOf r).1 :: (runsOf r).2)).length ≤ 7 + wsum r
    unfold bodyOf at ih
    rw [List.length_append] at ih
    cases ht : (runsOf r).2 with
    | nil => simp [tailOf_e1, tailOf_e2, tailOf_e3]; lia
    | cons s rs => rw [ht] at ih; simp [tailOf_e1, tailOf_e2, tailOf_e3] at ih ⊢; lia
theorem sep_wt : ∀ ps, (sepT ps).length ≤ wsum ps
  | [] => by simp [sepT_e1]
  | some x :: r => by
    have ih := sep_wt r
    show (x ++ sepT r).length ≤ x.length + wsum r
    rw [List.length_append]; lia
  | none :: r => by
    have ih := sep_wt r
    show ([0] ++ sepT r).length ≤ 7 + wsum r
    rw [List.length_append]; simp; lia
theorem pcs_wt : ∀ (its : List It) (p : Bool), (∀ it ∈ its, it.Ok) → wsum (pcsR p its) ≤ (patText its).length + 6 * its.length
  | [], _, _ => by simp [pcsR_e1, wsum, patText]
  | it :: r, p, h => by
    have hr : ∀ x ∈ r, x.Ok := fun x hx => h x (.tail _ hx)
    have e : (patText (it :: r)).length = it.text.length + (patText r).length := by simp [patText]
    have ht := text_pos it
    rw [e, List.length_cons]
    cases hp : pieceOf it with
    | none =>
      have ih := pcs_wt r true hr
      rw [pcsR_none hp]
      split
      · lia
      · show 7 + wsum (pcsR true r) ≤ _; lia
    | some x =>
      have ih := pcs_wt r false hr
      have hw := piece_wt (h it (.head _)) hp
      rw [pcsR_some hp]
      show x.length + wsum (pcsR false r) ≤ _; lia
theorem pieces_wt {its : List It} (h : ∀ it ∈ its, it.Ok) : wsum (pieces its) ≤ (patText its).length + 6 * its.length := by rw [pcs_R]; exact pcs_wt its false h
theorem pieces_len' (its : List It) : (pieces its).length ≤ its.length := by
  have := pieces_len its its.length
  rwa [List.take_length] at this
theorem sent_wt (e : Bool → List Nat → Bool) (al : Bool) : ∀ (ps : List (Option (List Nat))) (b : Bool), wsum (sentR (fq 1 fixE) e al b ps) ≤ 4 * wsum ps ∧ (sentR (fq 1 fixE) e al b ps).length ≤ 2 * ps.length
  | [], _ => by simp [sentR_e1, sentR_e2, sentR_e3, wsum]
  | none :: r, b => by
    have ih := sent_wt e al r false
    show wsum ((if (b && al) = true then [some [46], none] else [none]) ++ sentR (fq 1 fixE) e al false r) ≤ 4 * (7 + wsum r) ∧ ((if (b && al) = true then [some [46], none] else [none]) ++ sentR (fq 1 fixE) e al false r).length ≤ 2 * (r.length + 1)
    split
    · refine ⟨?_, by simp; lia⟩
      show 1 + (7 + wsum (sentR (fq 1 fixE) e al false r)) ≤ _
      lia
    · refine ⟨?_, by simp; lia⟩
      show 7 + wsum (sentR (fq 1 fixE) e al false r) ≤ _
      lia
  | some x :: r, b => by
    have ih := sent_wt e al r (e b x)
    have h1 := fixE_len x
    have h2 := dots_len b (fixE x)
    rw [dots_one] at h2
    replace h2 : (fq 1 fixE b x).length ≤ 2 * (fixE x).length := h2
    show (fq 1 fixE b x).length + wsum (sentR (fq 1 fixE) e al (e b x) r) ≤ 4 * (x.length + wsum r) ∧ (sentR (fq 1 fixE) e al (e b x) r).length + 1 ≤ 2 * (r.length + 1)
    constructor <;> lia
theorem some_wt {ps : List (Option (List Nat))} {x : List Nat} (h : some x ∈ ps) : x.length ≤ wsum ps := by
  induction ps with
  | nil => cases h
  | cons p r ih =>
    show _ ≤ wt p + wsum r
    rcases List.mem_cons.mp h with h | h
    · rw [← h]; show _ ≤ x.length + _; lia
    · have := ih h; lia
-- the told pattern's regular expression
theorem more_joined (k : Nat) (hk : 0 < k) {its : List It} (h : ∀ it ∈ its, it.Ok) : joinedT (pieces (moreR k (nones (pieces its) == 1) false its)) = dk k true (joinedT (pieces its)) := by
  have hj := joined_f (k := k) nice_id (pieces_good h)
  have hr := runs_more k hk (nones (pieces its) == 1) its false false h (fun q => nomatch q) fun q => by
    rw [← pcs_R]; have := (by simpa using q : nones (pieces its) = 1); simp; lia
  rw [← pcs_R, ← pcs_R] at hr
  show _ = dk k true (id (joinedT (pieces its)))
  rw [hj]
  unfold joinedT bodyOf
  rw [hr]
  have e : ((nones (pieces its) == 1) = true ∧ (runsOf (pieces its)).2 ≠ [] ∧ eb false (runsOf (pieces its)).1 = true) ↔ ((runsOf (pieces its)).2.length = 1 ∧ eb false (id (runsOf (pieces its)).1) = true) := by
    rw [nones_runs]
    constructor
    · rintro ⟨a, _, c⟩; exact ⟨by simpa using a, c⟩
    · rintro ⟨a, c⟩; exact ⟨by simpa using a, (fun q => by rw [q] at a; cases a), c⟩
  simp only [e]
  rfl
-- the pieces as they are sent
theorem piece_eol {it : It} (h : it.Ok) {x : List Nat} (hx : pieceOf it = some x) (b : Bool) : (some x == some [92, 10] || some x == some [92, 13]) = ee b x := by
  cases it with
  | star => cases hx
  | qm => cases hx; rfl
  | lit c =>
    cases hx
    exact (by decide +kernel : ∀ c ∈ lits, ∀ b, (some (escd c) == some [92, 10] || some (escd c) == some [92, 13]) = ee b (escd c)) c h b
  | br neg ms =>
    simp only [pieceOf_e1, pieceOf_e2, pieceOf_e3, pieceOf_e4, Option.some.injEq] at hx
    subst hx
    by_cases hk : kept ms = []
    · rw [if_pos hk]; cases neg <;> cases b <;> decide
    · rw [if_neg hk, ee_app]
      show _ = false
      cases neg <;> simp
theorem sentR_snoc (f : Bool → List Nat → List Nat) (e : Bool → List Nat → Bool) (al : Bool) : ∀ (ps : List (Option (List Nat))) (b : Bool) (p : Option (List Nat)),
    sentR f e al b (ps ++ [p]) = sentR f e al b ps ++ sentR f e al (ps.foldl (fun b p => match p with | none => false | some x => e b x) b) [p]
  | [], _, _ => by simp [sentR_e1, sentR_e2, sentR_e3]
  | none :: r, b, p => by
    show (if (b && al) = true then [some [46], none] else [none]) ++ sentR f e al false (r ++ [p]) = _
    rw [sentR_snoc f e al r false p, ← List.append_assoc]; rfl
  | some x :: r, b, p => by
    show some (f b x) :: sentR f e al (e b x) (r ++ [p]) = _
    rw [sentR_snoc f e al r (e b x) p]; rfl
noncomputable def Eols (ps : List (Option (List Nat))) : Prop := ∀ x, some x ∈ ps → ∀ b, (some x == some [92, 10] || some x == some [92, 13]) = ee b x
theorem pieces_eols {its : List It} (h : ∀ it ∈ its, it.Ok) : Eols (pieces its) := fun x hx b => by
  rw [pcs_R] at hx
  obtain ⟨it, hi, e⟩ := pcs_mem hx
  exact piece_eol (h it hi) e b
theorem fresh_fold {ps : List (Option (List Nat))} (h : Eols ps) : ∀ i, i < ps.length → freshAt ps i = (ps.take i).foldl (fun b p => match p with | none => false | some x => eb b (fixE x)) false
  | 0, _ => by simp [freshAt]
  | i + 1, hi => by
    have hi' : i < ps.length := by lia
    rw [List.take_add_one, List.getElem?_eq_getElem hi', List.foldl_append]
    unfold freshAt
    rw [List.getD_eq_getElem?_getD, show i + 1 - 1 = i from rfl, List.getElem?_eq_getElem hi']
    have hm : ps[i] ∈ ps := List.getElem_mem hi'
    revert hm
    generalize ps[i] = p
    intro hm
    cases p with
    | none => rfl
    | some x =>
      show (true && (some x == some [92, 10] || some x == some [92, 13])) = eb _ (fixE x)
      rw [Bool.true_and, eb_fixE]; exact h x hm _
theorem sent_R {ps : List (Option (List Nat))} (h : Eols ps) : sentOf ps = sentR (fq 1 fixE) (fun b x => eb b (fixE x)) (nones ps == 1) false ps := by
  have key : ∀ i, i ≤ ps.length → ((List.range i).map (sentAt ps)).flatten = sentR (fq 1 fixE) (fun b x => eb b (fixE x)) (nones ps == 1) false (ps.take i) := by
    intro i
    induction i with
    | zero => intro _; rfl
    | succ i ih =>
      intro hi
      have hi' : i < ps.length := by lia
      rw [List.range_succ, List.map_append, List.flatten_append, ih (by lia), List.take_add_one, List.getElem?_eq_getElem hi', Option.toList_some, sentR_snoc, ← fresh_fold h i hi']
      congr 1
      simp only [List.map_cons, List.map_nil, List.flatten_cons, List.flatten_nil, List.append_nil]
      unfold sentAt
      rw [List.getD_eq_getElem?_getD, List.getElem?_eq_getElem hi']
      cases hp : ps[i] with
      | none => simp [sentR_e1, sentR_e2, sentR_e3, aloneIn, nones]
      | some x => simp [sentR_e1, sentR_e2, sentR_e3, fq, dots_one]
  have := key ps.length (Nat.le_refl _)
  rw [List.take_length] at this
  exact this
theorem sent_joinedT {its : List It} (h : ∀ it ∈ its, it.Ok) : joinedT (sentOf (pieces its)) = dots true (fixE (joinedT (pieces its))) := by
  rw [sent_R (pieces_eols h), sent_joined nice_fixE (pieces_good h), dots_one]
theorem nodd_sentOf {its : List It} (h : ∀ it ∈ its, it.Ok) : NoDD (sentOf (pieces its)) := by
  rw [sent_R (pieces_eols h)]; exact (nodd_sent _ _ _ _ _ (nodd_pieces its)).1
theorem sentOf_wt {its : List It} (h : ∀ it ∈ its, it.Ok) : wsum (sentOf (pieces its)) ≤ 4 * wsum (pieces its) ∧ (sentOf (pieces its)).length ≤ 2 * (pieces its).length := by
  rw [sent_R (pieces_eols h)]; exact sent_wt _ _ _ _
-- characters of the whole
theorem runs_mem {P : Nat → Prop} : ∀ {ps : List (Option (List Nat))}, (∀ x, some x ∈ ps → ∀ d ∈ x, P d) → (∀ d ∈ (runsOf ps).1, P d) ∧ ∀ t ∈ (runsOf ps).2, ∀ d ∈ t, P d
  | [], _ => ⟨(fun _ q => nomatch q), (fun _ q => nomatch q)⟩
  | some x :: r, h => by
    have ih := runs_mem (ps := r) fun y hy => h y (.tail _ hy)
    exact ⟨fun d hd => (List.mem_append.mp hd).elim (h x (.head _) d) (ih.1 d), ih.2⟩
  | none :: r, h => by
    have ih := runs_mem (ps := r) fun y hy => h y (.tail _ hy)
    exact ⟨(fun _ q => nomatch q), fun t ht => (List.mem_cons.mp ht).elim (fun e => e ▸ ih.1) (ih.2 t)⟩
theorem tail_mem {P : Nat → Prop} (hP : ∀ d ∈ [40, 63, 62, 46, 42, 63, 41], P d) : ∀ {t : List (List Nat)}, (∀ x ∈ t, ∀ d ∈ x, P d) → ∀ d ∈ tailOf t, P d
  | [], _ => fun _ q => nomatch q
  | [x], h => fun d hd => (List.mem_append.mp hd).elim (fun q => hP d ((by decide : ∀ d ∈ ([46, 42] : List Nat), d ∈ ([40, 63, 62, 46, 42, 63, 41] : List Nat)) d q)) (h x (.head _) d)
  | x :: y :: r, h => fun d hd => by
    have ih := tail_mem hP (t := y :: r) fun z hz => h z (.tail _ hz)
    rcases List.mem_append.mp (show d ∈ [40, 63, 62, 46, 42, 63] ++ x ++ [41] ++ tailOf (y :: r) from hd) with q | q
    · rcases List.mem_append.mp q with q | q
      · rcases List.mem_append.mp q with q | q
        · exact hP d ((by decide : ∀ d ∈ ([40, 63, 62, 46, 42, 63] : List Nat), d ∈ ([40, 63, 62, 46, 42, 63, 41] : List Nat)) d q)
        · exact h x (.head _) d q
      · exact hP d ((by decide : ∀ d ∈ ([41] : List Nat), d ∈ ([40, 63, 62, 46, 42, 63, 41] : List Nat)) d q)
    · exact ih d q
theorem joined_chars {its : List It} (h : ∀ it ∈ its, it.Ok) : ∀ d ∈ joinedT (pieces its), d < 256 := by
  have hc := runs_mem (P := fun d => d < 256) fun x hx d hd => (pieces_chars h x hx d hd).1
  intro d hd
  rcases List.mem_append.mp hd with q | q
  · rcases List.mem_append.mp q with q | q
    · exact (by decide : ∀ d ∈ ([40, 63, 115, 58] : List Nat), d < 256) d q
    · rcases List.mem_append.mp q with q | q
      · exact hc.1 d q
      · exact tail_mem (P := fun d => d < 256) (by decide) hc.2 d q
  · exact (by decide : ∀ d ∈ ([41, 92, 90] : List Nat), d < 256) d q
end
section
open PySem PySem.W PyProof.Rows PySem.Calls
set_option maxRecDepth 100000
set_option maxHeartbeats 4000000
theorem rep_one (v : Value) (k : Nat) : (List.replicate k [v]).flatten = List.replicate k v := by
  induction k with
  | zero => rfl
  | succ k ih => rw [List.replicate_succ, List.flatten_cons, ih, List.replicate_succ]; rfl
section
variable {prog : Program} {w : World} {A : Around} {E : Value → Shared → Prop} {s : Shared} {env : Env} {h₀ : Heap} {L D : Addr} {m : Str → Option Value} {led rest : List (Addr × Obj)} {vs us : List Value} {n n2 : Nat}
/-- `[v] * k` -/
theorem mul_one {a : Addr} {v : Value} {x : Int} {k : Nat} {u : Tok} {Q : Value → Shared → Prop} (F : Fr h₀ L s.heap m) (N : News h₀ L s.heap led) (hl : (a, listOf [v].toArray n) ∈ led) (hx : x = (k : Nat)) (hk : k ≤ 200)
    (h : ∀ B h', Fr h₀ L h' m → News h₀ L h' ((B, listOf (List.replicate k v).toArray 0) :: led) → (∀ p ∈ led, p.1 < B) → Q (.ref B) { s with heap := h' }) : wpAny (model prog w) A (binaryOp .Mult (.ref a) (.int x u)) Q E s := by
  subst hx
  refine KMa.mul F N (vs := [v]) ⟨_, (N _ hl).1, rfl, n, rfl⟩ (by lia) (by lia) (by simp; lia) ?_ h
  rw [Int.toNat_natCast]
  exact rep_one v k
theorem iadd_at {b : Addr} {pre : List (Addr × Obj)} {Q : Value → Shared → Prop} (F : Fr h₀ L s.heap m) (N : News h₀ L s.heap ((b, listOf us.toArray n2) :: (pre ++ (D, listOf vs.toArray n) :: rest))) (hb : ∀ p ∈ pre ++ (D, listOf vs.toArray n) :: rest, p.1 < b) (hpre : Apart D pre) (hap : Apart D rest) (hz : vs.length ≤ 100000) (hz2 : us.length ≤ 100000) (hu : us ≠ [])
    (h : ∀ h', Fr h₀ L h' m → News h₀ L h' ((D, listOf (vs ++ us).toArray (n + 1)) :: rest) → Q (.ref D) { s with heap := h' }) : wpAny (model prog w) A (inplaceOp .Add (.ref D) (.ref b)) Q E s := by
  refine iadd_head (n := n) (n2 := n2) (rest := pre ++ rest) F (news_sub N fun p hp => ?_) (Nat.ne_of_gt (hb (D, listOf vs.toArray n) (List.mem_append_right _ (.head _)))) (fun p hp => ?_) hz hz2 hu fun h' F' N' => h h' F' (news_sub N' fun p hp => by
      rcases List.mem_cons.mp hp with rfl | hp
      · exact .tail _ (.head _)
      · exact .tail _ (.tail _ (List.mem_append_right _ hp)))
  · rcases List.mem_cons.mp hp with rfl | hp
    · exact .head _
    · rcases List.mem_cons.mp hp with rfl | hp
      · exact .tail _ (List.mem_append_right _ (.head _))
      · rcases List.mem_append.mp hp with hp | hp
        · exact .tail _ (List.mem_append_left _ hp)
        · exact .tail _ (List.mem_append_right _ (.tail _ hp))
  · rcases List.mem_append.mp hp with hp | hp
    · exact hpre p hp
    · exact hap p hp
theorem app_second {T : Addr} {oT : Obj} {v : Value} {Q : Value → Shared → Prop} (F : Fr h₀ L s.heap m) (N : News h₀ L s.heap ((T, oT) :: (D, listOf vs.toArray n) :: rest)) (hT : T ≠ D) (hap : Apart D rest) (hz : vs.length ≤ 100000)
    (h : ∀ h', Fr h₀ L h' m → News h₀ L h' ((T, oT) :: (D, listOf (vs ++ [v]).toArray (n + 1)) :: rest) → Q .none { s with heap := h' }) : wpAny (model prog w) A (call (.builtin "list.append") [.ref D, v]) Q E s := by
  refine app_head (n := n) (rest := (T, oT) :: rest) F (turn_in N) (fun p hp => ?_) hz fun h' F' N' => h h' F' (turn_in N')
  rcases List.mem_cons.mp hp with rfl | hp
  · exact hT
  · exact hap p hp
/-- is the item that told line feed? -/
theorem eq_item {it : It} {a T E' : Addr} {n₁ : List (Addr × Obj)} {t tx : Tok} {k k' : Nat} {b : Bool} {Q : Value → Shared → Prop} (N : News h₀ L s.heap led) (hv : DatIn n₁ (.ref a) it.dat) (hs : ∀ p ∈ n₁, p ∈ led) (ok : it.Ok)
    (hT : (T, tupOf [.int 4 t, .ref E'] k) ∈ led) (hE : (E', listOf [Value.str (S [10]) tx].toArray k') ∈ led) (hu : A.units + 64 < cLine) (hb : it.isLF = b) (h : Q (.bool b) s) : wpAny (model prog w) A (compareOp .Eq (.ref a) (.ref T)) Q E s := by
  have okS : ∀ c : Nat, c < 55296 → kqdOk 8 (.str (S [c])) = true := fun c hc => by simp [kqdOk, PyData.strOk, S]; lia
  have h2 : kqdOk 9 (It.lit 10).dat = true := by simp [dat_e1, dat_e2, dat_e3, dat_e4, kqdOk, PyData.strOk, S]
  have h1 : kqdOk 9 it.dat = true := by
    cases it with
    | star => rfl
    | qm => rfl
    | lit c =>
      have : c < 256 ∧ c ≠ 0 := (lit_facts2 c ok true).2.1 c (by unfold escd; split <;> simp)
      have q := okS c (by lia)
      show (kqdOk 8 (.int 4) && (kqdOk 8 (.list [.str (S [c])]) && true)) = true
      have q' : kqdOk 7 (.str (S [c])) = true := q
      simp only [kqdOk, List.all_cons, List.all_nil, Bool.and_true, Bool.true_and]
      exact q'
    | br neg ms =>
      show (kqdOk 8 (.int (brKind neg)) && (kqdOk 8 (mems ms) && true)) = true
      simp only [mems, kqdOk, Bool.and_true, Bool.true_and, List.all_map, List.all_eq_true]
      intro x hx
      have hc := mtab_chars x (ok.2 x hx)
      show PyData.strOk (S x) = true
      simp only [PyData.strOk, S, Array.all_eq_true_iff_forall_mem] at *
      first
        | (intro c hcm; have := hc c (by simpa using hcm); simp; lia)
        | simp [S]
  obtain ⟨as, ra⟩ := kqd_in N 9 (hv.mono hs) h1
  have d2 : DatIn led (.ref T) (It.lit 10).dat := .tuple hT (.cons (.int _ _) (.cons (.list hE (.cons (.str _ _) .nil)) .nil))
  obtain ⟨bs, rb⟩ := kqd_in N 9 d2 h2
  have la := kqd_lay 9 _ h1
  have lb := kqd_lay 9 _ h2
  have e : PyData.eqv (kqdP it.dat) (kqdP (It.lit 10).dat) = b := by
    have q := kqd_eqv 9 _ _ 9 h1 h2
    have q2 : it.dat = (It.lit 10).dat ↔ it.isLF = true := by
      cases it with
      | star => simp [dat_e1, dat_e2, dat_e3, dat_e4, isLF_e1, isLF_e2, isLF_e3, isLF_e4]
      | qm => simp [dat_e1, dat_e2, dat_e3, dat_e4, isLF_e1, isLF_e2, isLF_e3, isLF_e4]
      | lit c => simp [dat_e1, dat_e2, dat_e3, dat_e4, isLF_e1, isLF_e2, isLF_e3, isLF_e4, S]
      | br neg ms => cases neg <;> simp [dat_e1, dat_e2, dat_e3, dat_e4, isLF_e1, isLF_e2, isLF_e3, isLF_e4, brKind_e1, brKind_e2]
    rw [← hb]
    rw [q2] at q
    exact Bool.eq_iff_iff.mpr q
  refine eq_dataH ra rb ?_ ?_ hu (by rw [e]; exact h)
  · unfold SeqAt.shaped; rw [la.1, Bool.true_and]; exact decide_eq_true (Nat.le_trans la.2 (by decide))
  · unfold SeqAt.shaped; rw [lb.1, Bool.true_and]; exact decide_eq_true (Nat.le_trans lb.2 (by decide))
end
noncomputable def Goes0 (h₀ : Heap) (L : Addr) (s : Shared) (Post : (Str → Option Value) → List (Addr × Obj) → Prop) (Q : Flow → Shared → Prop) : Prop :=
  ∀ m led h tk, Post m led → Fr h₀ L h m → News h₀ L h led → Q .next { s with heap := h, toks := tk }
theorem cut0 {M : Model} {A : Around} {E : Value → Shared → Prop} {s : Shared} {Q : Flow → Shared → Prop} {tree : Sem Flow} (h₀ : Heap) (L : Addr) (Post : (Str → Option Value) → List (Addr × Obj) → Prop)
    (h1 : ∀ Q' : Flow → Shared → Prop, Goes0 h₀ L s Post Q' → wpAny M A tree Q' E s)
    (h2 : Goes0 h₀ L s Post Q) : wpAny M A tree Q E s := h1 Q h2
noncomputable def Spec4 (w : World) (f : Addr) (vs : List Value) (Pre : List (Addr × Obj) → Prop) (Out : List (Addr × Obj) → Value → Prop) : Prop :=
  ∀ (dp un : Nat) (gd : Option (List Code)) (cn : Str) (cs : Scope) (a : Addr) (ccd : Value) (cl : List (Str × Addr)) (outer : List Env) (A₀ : Around) (base h₀ : Heap) (L : Addr) (m : Str → Option Value)
    (p : Program) (loose : List Str) (mean : ExcName → Option Value) (mg mb : Str → Option Value) (news : List (Addr × Obj)) (s : Shared) (Q E : Value → Shared → Prop),
    Below A₀ base outer h₀ → Fr h₀ L s.heap m → (Mine.hp.heap_1 w.params).In h₀ → News h₀ L s.heap news → Top p loose mean mg mb h₀ → cs.kind = .function →
    Pre news → dp + 10 < recursionLimit → un + 200 < cLine →
    (∀ r tl h' tk', Fr h₀ L h' m → News h₀ L h' (news ++ tl) → (∀ q ∈ news, ∀ p ∈ tl, p.1 ≠ q.1) → Out (news ++ tl) r → Q r { s with heap := h', toks := tk' }) →
    wpAny (model PR w) (ktrTop dp un gd cn cs L a ccd cl outer) (call (.ref f) vs) Q E s
-- plain parts
theorem moreR_snoc (k : Nat) (al : Bool) : ∀ (l : List It) (b : Bool) (it : It), moreR k al b (l ++ [it]) = moreR k al b l ++ ((if (match l.getLast? with | some x => x.isLF | none => b) && askDot k al it then List.replicate k .qm else []) ++ [it.more k])
  | [], b, it => by simp [moreR_e1, moreR_e2]
  | x :: r, b, it => by
    show (if (b && askDot k al x) = true then List.replicate k It.qm else []) ++ x.more k :: moreR k al x.isLF (r ++ [it]) = _
    rw [moreR_snoc k al r x.isLF it]
    have e : (match (x :: r).getLast? with | some x => x.isLF | none => b) = (match r.getLast? with | some y => y.isLF | none => x.isLF) := by
      cases r with
      | nil => rfl
      | cons y r => rw [List.getLast?_cons_cons]; cases h : (y :: r).getLast? with
        | none => simp at h
        | some z => rfl
    rw [e]
    show _ = ((if (b && askDot k al x) = true then List.replicate k It.qm else []) ++ x.more k :: moreR k al x.isLF r) ++ _
    simp only [List.append_assoc, List.cons_append]
theorem take_last {α : Type} {l : List α} {i : Nat} (h : i < l.length) : (l.take (i + 1)).getLast? = some l[i] := by
  rw [List.take_add_one, List.getElem?_eq_getElem h, Option.toList_some, List.getLast?_concat]
noncomputable def prevLF (its : List It) (i : Nat) : Bool := decide (0 < i) && (its.getD (i - 1) .star).isLF
theorem moreR_take (k : Nat) (al : Bool) {its : List It} {i : Nat} (h : i < its.length) : moreR k al false (its.take (i + 1)) = moreR k al false (its.take i) ++ ((if prevLF its i && askDot k al its[i] then List.replicate k .qm else []) ++ [its[i].more k]) := by
  rw [List.take_add_one, List.getElem?_eq_getElem h, Option.toList_some, moreR_snoc]
  cases i with
  | zero => simp [prevLF]
  | succ i =>
    have hi : i < its.length := by lia
    rw [take_last hi]
    unfold prevLF
    rw [show i + 1 - 1 = i from rfl, List.getD_eq_getElem?_getD, List.getElem?_eq_getElem hi]
    simp
theorem addPiece_last (ps : List (Option (List Nat))) (p : Option (List Nat)) : (addPiece ps p).getLast? = some p := by
  unfold addPiece
  split
  · next h => rw [h.2, h.1]
  · simp
theorem nones_app (a b : List (Option (List Nat))) : nones (a ++ b) = nones a + nones b := by simp [nones]
theorem piece_none {it : It} : pieceOf it = none ↔ it.isStar = true := by cases it <;> simp [pieceOf_e1, pieceOf_e2, pieceOf_e3, pieceOf_e4, isStar_e1, isStar_e2, isStar_e3, isStar_e4]
noncomputable def startAt (its : List It) (i : Nat) : Bool := (its.getD i .qm).isStar && (decide (i = 0) || !(its.getD (i - 1) .qm).isStar)
theorem nones_step {its : List It} {i : Nat} (h : i < its.length) : nones (pieces (its.take (i + 1))) = nones (pieces (its.take i)) + (if startAt its i then 1 else 0) := by
  rw [pieces_take its i h]
  have e1 : its.getD i .qm = its[i] := by rw [List.getD_eq_getElem?_getD, List.getElem?_eq_getElem h]; rfl
  have hl : (pieces (its.take i)).getLast? = some none ↔ (¬ i = 0 ∧ (its.getD (i - 1) .qm).isStar = true) := by
    cases i with
    | zero => simp [pieces]
    | succ i =>
      have hi : i < its.length := by lia
      rw [pieces_take its i hi, addPiece_last, show i + 1 - 1 = i from rfl, List.getD_eq_getElem?_getD, List.getElem?_eq_getElem hi]
      simp [piece_none]
  unfold addPiece startAt
  rw [e1]
  by_cases hs : its[i].isStar = true
  · rw [piece_none.mpr hs, hs]
    by_cases hq : (pieces (its.take i)).getLast? = some none
    · obtain ⟨h1, h2⟩ := hl.mp hq
      rw [if_pos ⟨rfl, hq⟩, h2]; simp [h1]
    · rw [if_neg fun q => hq q.2, nones_app]
      have : (true && (decide (i = 0) || !(its.getD (i - 1) It.qm).isStar)) = true := by
        by_cases h0 : i = 0
        · simp [h0]
        · have := fun q => hq (hl.mpr ⟨h0, q⟩)
          simp at this ⊢; right; exact this
      rw [if_pos this]; rfl
  · have hp : pieceOf its[i] ≠ none := fun q => hs (piece_none.mp q)
    rw [if_neg fun q => hp q.1, nones_app]
    have : its[i].isStar = false := by simpa using hs
    rw [this]
    cases hx : pieceOf its[i] with
    | none => exact absurd hx hp
    | some x => simp [nones]
theorem more_dat (k : Nat) {it : It} (ok : it.Ok) : (it.more k).dat = .tuple [.int it.kind, mems (if keptM k it.mem = [] then it.mem else keptM k it.mem)] := by
  cases it with
  | star => rfl
  | qm => rfl
  | lit c =>
    have : keptM k [[c]] = [[c]] := by simp [keptM, keptStep, lfEnd]
    show _ = Dat.tuple [.int 4, mems (if keptM k [[c]] = [] then [[c]] else keptM k [[c]])]
    rw [this, if_neg (by simp)]; rfl
  | br neg ms =>
    show (It.br neg (if keptM k ms = [] then ms else keptM k ms)).dat = _
    rfl
theorem mem_good {it : It} (ok : it.Ok) : ∀ x ∈ it.mem, ∃ c r, x = c :: r := by
  intro x hx
  cases it with
  | star => cases hx
  | qm => cases hx
  | lit c => rw [List.mem_singleton.mp hx]; exact ⟨c, [], rfl⟩
  | br neg ms =>
    have := mem_pos (ok.2 x hx)
    cases x with
    | nil => simp at this
    | cons c r => exact ⟨c, r, rfl⟩
theorem mem_len {it : It} (ok : it.Ok) (hsz : it.text.length ≤ 1000) : it.mem.length ≤ 1000 ∧ ∀ x ∈ it.mem, x.length ≤ 1000 := by
  cases it with
  | star => exact ⟨by simp [It.mem], fun x h => nomatch h⟩
  | qm => exact ⟨by simp [It.mem], fun x h => nomatch h⟩
  | lit c => exact ⟨by simp [It.mem], fun x h => by rw [List.mem_singleton.mp h]; simp⟩
  | br neg ms => exact ⟨(br_len ok hsz).1, fun x h => Nat.le_trans (mtab_len x (ok.2 x h)) (by decide)⟩
theorem keptM_take (k : Nat) {ms : List (List Nat)} {i : Nat} (h : i < ms.length) : keptM k (ms.take (i + 1)) = keptStep k (keptM k (ms.take i)) ms[i] := by
  unfold keptM
  rw [List.take_add_one, List.getElem?_eq_getElem h, Option.toList_some, List.foldl_append]; rfl
theorem keptStep_len (k : Nat) (acc : List (List Nat)) (m : List Nat) : (keptStep k acc m).length ≤ acc.length + k + 1 := by
  unfold keptStep
  split
  · lia
  · split <;> simp <;> lia
theorem keptM_len (k : Nat) (ms : List (List Nat)) : (keptM k ms).length ≤ (k + 1) * ms.length := by
  have : ∀ (ms acc : List (List Nat)), (ms.foldl (keptStep k) acc).length ≤ acc.length + (k + 1) * ms.length := by
    intro ms
    induction ms with
    | nil => intro acc; simp
    | cons m r ih =>
      intro acc
      rw [List.foldl_cons]
      have h1 := ih (keptStep k acc m)
      have h2 := keptStep_len k acc m
      rw [List.length_cons, Nat.mul_add]
      lia
  simpa [keptM] using this ms []
theorem moreR_len (k : Nat) (al : Bool) : ∀ (its : List It) (b : Bool), (moreR k al b its).length ≤ (k + 1) * its.length
  | [], _ => by simp [moreR_e1, moreR_e2]
  | it :: r, b => by
    have ih := moreR_len k al r it.isLF
    show ((if (b && askDot k al it) = true then List.replicate k It.qm else []) ++ it.more k :: moreR k al it.isLF r).length ≤ _
    rw [List.length_append, List.length_cons, List.length_cons, Nat.mul_add]
    split <;> simp <;> lia
theorem rep_ne {v : Value} {k : Nat} (h : 0 < k) : List.replicate k v ≠ [] := by
  cases k with
  | zero => exact absurd h (Nat.lt_irrefl _)
  | succ k => simp
theorem rep_le {v : Value} {k : Nat} (h : k ≤ 3) : (List.replicate k v).length ≤ 100000 := by rw [List.length_replicate]; lia
noncomputable def RepOk (ys : List Value) (k : Nat) : Prop := ∀ v : Value, (ys ++ List.replicate k v).length ≤ 100000
theorem RepOk.use {ys : List Value} {k : Nat} {v : Value} (h : RepOk ys k) : (ys ++ List.replicate k v).length ≤ 100000 := h v
theorem ap_one {D a : Addr} {o : Obj} {P : Prop} (h : D < a ∧ P) : Apart D [(a, o)] := fun p hp => by rw [List.mem_singleton.mp hp]; exact Nat.ne_of_gt h.1
theorem keptM_good (k : Nat) {ms : List (List Nat)} (h : ∀ m ∈ ms, (∃ c r, m = c :: r) ∧ m.length ≤ 1000) : ∀ m ∈ keptM k ms, (∃ c r, m = c :: r) ∧ m.length ≤ 1000 := by
  have : ∀ (ms acc : List (List Nat)), (∀ m ∈ ms, (∃ c r, m = c :: r) ∧ m.length ≤ 1000) → (∀ m ∈ acc, (∃ c r, m = c :: r) ∧ m.length ≤ 1000) → ∀ m ∈ ms.foldl (keptStep k) acc, (∃ c r, m = c :: r) ∧ m.length ≤ 1000 := by
    intro ms
    induction ms with
    | nil => intro acc _ ha; exact ha
    | cons m r ih =>
      intro acc h ha
      rw [List.foldl_cons]
      refine ih _ (fun x hx => h x (.tail _ hx)) ?_
      unfold keptStep
      split
      · exact ha
      · intro x hx
        rcases List.mem_append.mp hx with hx | hx
        · split at hx
          · rcases List.mem_append.mp hx with hx | hx
            · exact ha x hx
            · rw [(List.mem_replicate.mp hx).2]; exact ⟨⟨_, _, rfl⟩, by decide⟩
          · exact ha x hx
        · rw [List.mem_singleton.mp hx]; exact h m (.head _)
  exact this ms [] h fun _ q => nomatch q
theorem tx_rep (k : Nat) (t : Tok) : TxAre (List.replicate k (.str (S [46]) t)) (List.replicate k [46]) := by
  induction k with
  | zero => exact .nil
  | succ k ih => exact .cons ih
theorem tx_snoc {ys : List Value} {A : List (List Nat)} {b : List Nat} (h : TxAre ys (A ++ [b])) : ∃ zs t, ys = zs ++ [.str (S b) t] := by
  obtain ⟨v1, v2, rfl, h1, h2⟩ := h.split
  obtain ⟨t, vs', rfl, h3⟩ := h2.cons_inv
  cases h3
  exact ⟨v1, t, rfl⟩
inductive KeptC (k c : Nat) (x : List Nat) (ys : List Value) (tgt : List (List Nat)) (z : Nat) : Prop
  | a (h1 : [z] ≠ [10]) (h2 : ∀ t, TxAre (ys ++ [.str (S x) t]) tgt) : KeptC k c x ys tgt z
  | b (h1 : z = 10) (h2 : [c] ≠ [46]) (h3 : ∀ t, TxAre (ys ++ [.str (S x) t]) tgt) : KeptC k c x ys tgt z
  | c (h1 : z = 10) (h2 : c = 46) (h3 : ∀ t t2, TxAre ((ys ++ List.replicate k (.str (S [46]) t2)) ++ [.str (S x) t]) tgt) : KeptC k c x ys tgt z
inductive KeptB (k c : Nat) (x : List Nat) (ys : List Value) (tgt : List (List Nat)) : Prop
  | a (h1 : ys = []) (h2 : ∀ t, TxAre (ys ++ [.str (S x) t]) tgt) : KeptB k c x ys tgt
  | b (zs : List Value) (y : List Nat) (z : Nat) (tz : Tok) (h1 : ys = zs ++ [.str (S (y ++ [z])) tz]) (h2 : zs.length < 16777216) (h3 : y.length ≤ 100000) (h4 : KeptC k c x ys tgt z) : KeptB k c x ys tgt
inductive KeptA (k : Nat) (x : List Nat) (ys : List Value) (tgt : List (List Nat)) : Prop
  | a (h1 : x = [98, 45, 97]) (h2 : TxAre ys tgt) : KeptA k x ys tgt
  | b (h1 : x ≠ [98, 45, 97]) (c : Nat) (r : List Nat) (h2 : x = c :: r) (h3 : At (c :: r) 0 c) (h4 : KeptB k c x ys tgt) : KeptA k x ys tgt
theorem kept_cases {k : Nat} {ms : List (List Nat)} {j : Nat} {x : List Nat} {ys : List Value} (hk : k ≤ 3) (hx : ms[j]? = some x) (hg : ∀ m ∈ ms, (∃ c r, m = c :: r) ∧ m.length ≤ 1000) (hml : ms.length ≤ 1000) (hK : TxAre ys (keptM k (ms.take j))) :
    ys.length ≤ 100000 ∧ RepOk ys k ∧ KeptA k x ys (keptM k (ms.take (j + 1))) := by
  obtain ⟨hj, e⟩ := List.getElem?_eq_some_iff.mp hx
  have hstep := keptM_take k hj
  rw [e] at hstep
  have hlen : ys.length ≤ 4000 := by
    rw [hK.len]
    have h1 := keptM_len k (ms.take j)
    have h2 : (ms.take j).length ≤ ms.length := List.length_take_le' j ms
    have h3 : (k + 1) * (ms.take j).length ≤ 4 * 1000 := Nat.mul_le_mul (by lia) (by lia)
    lia
  refine ⟨by lia, fun v => by rw [List.length_append, List.length_replicate]; lia, ?_⟩
  have hg' : ∀ m ∈ ms.take j, (∃ c r, m = c :: r) ∧ m.length ≤ 1000 := fun m hm => hg m (List.mem_of_mem_take hm)
  have hgood := keptM_good k hg'
  generalize keptM k (ms.take j) = acc at hK hstep hgood
  by_cases hb : x = [98, 45, 97]
  · exact .a hb (by rw [hstep]; unfold keptStep; rw [if_pos hb]; exact hK)
  · obtain ⟨⟨c, r, rfl⟩, hxl⟩ := hg x (List.mem_of_getElem? hx)
    have hat : At (c :: r) 0 c := ⟨by decide, by decide, rfl⟩
    refine .b hb c r rfl hat ?_
    have plain : (lfEnd acc && (c :: r).head? == some 46) = false → ∀ t, TxAre (ys ++ [.str (S (c :: r)) t]) (keptM k (ms.take (j + 1))) := fun q t => by
      rw [hstep]; unfold keptStep
      rw [if_neg hb]
      rw [if_neg (by intro h; rw [h] at q; exact absurd q (by decide))]
      exact hK.snoc
    rcases List.eq_nil_or_concat acc with rfl | ⟨A, b, rfl⟩
    · have : ys = [] := by cases hK; rfl
      exact .a this (plain rfl)
    · rw [List.concat_eq_append] at hK hstep hgood plain
      obtain ⟨zs, tz, rfl⟩ := tx_snoc hK
      obtain ⟨⟨c', r', hb'⟩, hbl⟩ := hgood b (List.mem_append_right _ (.head _))
      rcases List.eq_nil_or_concat b with rfl | ⟨y, z, hbz⟩
      · cases hb'
      rw [List.concat_eq_append] at hbz
      subst hbz
      refine .b zs y z tz rfl (by rw [List.length_append] at hlen; lia) (by rw [List.length_append] at hbl; lia) ?_
      have hlf : lfEnd (A ++ [y ++ [z]]) = (z == 10) := by rw [lfEnd_snoc]; simp
      by_cases hz : z = 10
      · subst hz
        by_cases hc : c = 46
        · subst hc
          refine .c rfl rfl (fun t t2 => ?_)
          rw [hstep]; unfold keptStep
          rw [if_neg hb, hlf, if_pos (by rfl)]
          exact (hK.app (tx_rep k t2)).snoc
        · exact .b rfl (by simpa using hc) (plain (by rw [hlf]; simp [hc]))
      · exact .a (by simpa using hz) (plain (by rw [hlf]; simp [hz]))
end
section
theorem LocW19.hereW19 : True := trivial
open LocW19
open PySem PySem.W PyProof.Rows PySem.Calls
set_option maxRecDepth 100000
set_option maxHeartbeats 8000000
example : True := by
  k_with "k_mem" =>
    (fail_if_success (fail_if_success (have := hereW19)))
    (assumption)
  trivial
example : True := by
  k_with "exec For Tuple Call cons nil" =>
    (fail_if_success (fail_if_success (have := hereW19)))
    ((refine halt ?_))
  trivial
example : True := by
  k_with "exec For Tuple Call" =>
    (fail_if_success (fail_if_success (have := hereW19)))
    ((refine halt ?_))
  trivial
example : True := by
  k_with "exec For Name Name cons nil" =>
    (fail_if_success (fail_if_success (have := hereW19)))
    ((refine halt ?_))
  trivial
example : True := by
  k_with "exec If BoolOp cons nil" =>
    (fail_if_success (fail_if_success (have := hereW19)))
    ((refine halt ?_))
  trivial
example : True := by
  k_with "eval ListComp" =>
    (fail_if_success (fail_if_success (have := hereW19)))
    ((refine halt ?_))
  trivial
example : True := by
  k_with "call type:range" =>
    (fail_if_success (fail_if_success (have := hereW19)))
    ((refine halt ?_))
  trivial
noncomputable def EqJ (i j : Int) (b : Bool) : Prop := (i == j) = b
theorem eqj_B {prog : Program} {w : World} {A : Around} {E : Value → Shared → Prop} {s : Shared} {i j : Int} {t u : Tok} {b : Bool} {Q : Value → Shared → Prop} (e : EqJ i j b) (h : Q (.bool b) s) : wpAny (model prog w) A (compareOp .Eq (.int i t) (.int j u)) Q E s := eq_int (by rw [show (i == j) = b from e]; exact h)
noncomputable def NeJ (i j : Int) (b : Bool) : Prop := (i != j) = b
theorem nej_B {prog : Program} {w : World} {A : Around} {E : Value → Shared → Prop} {s : Shared} {i j : Int} {t u : Tok} {b : Bool} {Q : Value → Shared → Prop} (e : NeJ i j b) (h : Q (.bool b) s) : wpAny (model prog w) A (compareOp .NotEq (.int i t) (.int j u)) Q E s := ne_int (by rw [show (i != j) = b from e]; exact h)
example : True := by
  k_with "compareOp NotEq int int" =>
    (fail_if_success (fail_if_success (have := hereW19)))
    ((refine' Mine.nej_B ?meT9140 ?_; (case meT9140 => with_reducible assumption)))
  trivial
example : True := by
  k_with "compareOp Eq int int" =>
    (fail_if_success (fail_if_success (have := hereW19)))
    ((refine' Mine.eqj_B ?meT9141 ?_; (case meT9141 => with_reducible assumption)))
  trivial
example : True := by
  k_with "eval Name" =>
    (fail_if_success (fail_if_success (have := hereW19)))
    ((k_here; k_dflt (first
        | (refine' nameX_L ?F9142 ?v9142 ?_ ?a9142 ?b9142; (case F9142 => k_asm); (case a9142 => rfl); (case b9142 => rfl); (case v9142 => exact Eq.refl (some _)); k_whole)
        | (refine' nameX_C ?N9142 ?c9142 ?m9142 ?d9142 ?_ ?a9142 ?b9142; (case a9142 => rfl); (case b9142 => rfl); (case N9142 => k_asm); (case c9142 => rfl); (case m9142 => k_mem); (case d9142 => assumption); k_whole)
        | (refine' nameX_B ?F9142 ?X9142 ?T9142 ?e9142 ?v9142 ?n9142 ?_ ?a9142 ?b9142; (case F9142 => k_asm); (case X9142 => k_asm); (case T9142 => k_asm); (case a9142 => rfl); (case b9142 => rfl); (case e9142 => k_is); (case v9142 => boot_fast); (case n9142 => decide); k_whole)
        | (refine' nameX_K ?F9142 ?X9142 ?T9142 ?e9142 ?_ ?a9142 ?b9142; (case F9142 => k_asm); (case X9142 => k_asm); (case T9142 => k_asm); (case a9142 => rfl); (case b9142 => rfl); (case e9142 => k_is); k_whole))))
  trivial
example : True := by
  k_with "eval Name" =>
    (fail_if_success (fail_if_success (have := hereW19)))
    ((k_here; (with_reducible show wpAny _ _ (eval (Expr.Name _ _) (compEnvC _ _ _ _)) _ _ _); k_dflt (first
        | refine LCgL.ld_own (by k_asm) (by k_mem) (by assumption) (by assumption) ?_
        | (refine' lcf_cell ?N9143 ?c9143 ?m9143 ?d9143 ?_ ?a9143 ?b9143; (case a9143 => rfl); (case b9143 => rfl); (case N9143 => k_asm); (case c9143 => rfl); (case m9143 => (repeat (first | exact List.Mem.head _ | apply List.mem_append_right | apply List.mem_cons_of_mem))); (case d9143 => assumption); k_whole))))
  trivial
theorem kind_star (it : It) : EqJ it.kind 0 it.isStar := by
  cases it with
  | br neg ms => cases neg <;> rfl
  | _ => rfl
theorem item_fact {its : List It} {vs : List Value} {news : List (Addr × Obj)} {i : Nat} (hall : DatAll news vs (its.map It.dat)) (hi : i < its.length) (hl : its.length ≤ 100) : ∃ a n t r, LAt vs ((i : Nat) : Int) (.ref a) ∧ (a, tupOf [.int its[i].kind t, r] n) ∈ news ∧ DatIn news r (mems its[i].mem) := by
  obtain ⟨v, hv, hd⟩ := hall.get (k := i) (by simpa using hi)
  rw [List.getElem_map] at hd
  obtain ⟨a, n, t, r, rfl, hm, hr⟩ := it_dat hd
  exact ⟨a, n, t, r, ⟨by lia, by lia, by rw [Int.toNat_natCast]; exact hv⟩, hm, hr⟩
theorem lat_pred {vs : List Value} {i : Nat} {v : Value} (h : LAt vs ((i : Nat) : Int) v) : LAt vs (((i + 1 : Nat) : Int) - 1) v := by
  rw [show (((i + 1 : Nat) : Int) - 1) = ((i : Nat) : Int) by lia]; exact h
inductive StartB (its : List It) (vs : List Value) (news : List (Addr × Obj)) (i : Nat) (b : Bool) : Prop
  | a (h1 : b = false) (h2 : startAt its i = false) : StartB its vs news i b
  | b (h1 : b = true) (h2 : EqJ (i : Nat) 0 true) (h3 : startAt its i = true) : StartB its vs news i b
  | c (a' n' : Nat) (t' : Tok) (r' : Value) (k' : Int) (h1 : b = true) (h2 : EqJ (i : Nat) 0 false) (h3 : LAt vs ((i : Nat) - 1) (.ref a')) (h4 : (a', tupOf [.int k' t', r'] n') ∈ news) (h5 : (NeJ k' 0 false ∧ startAt its i = false) ∨ (NeJ k' 0 true ∧ startAt its i = true)) : StartB its vs news i b
inductive StartC (its : List It) (vs : List Value) (news : List (Addr × Obj)) (i : Nat) (ki : Int) : Prop
  | mk (a n : Nat) (t : Tok) (r : Value) (b : Bool) (h1 : LAt vs ((i : Nat) : Int) (.ref a)) (h2 : (a, tupOf [.int ki t, r] n) ∈ news) (h3 : EqJ ki 0 b) (h4 : StartB its vs news i b) : StartC its vs news i ki
theorem start_cases {its : List It} {vs : List Value} {news : List (Addr × Obj)} {i : Nat} (hall : DatAll news vs (its.map It.dat)) (hi : i < its.length) (hl : its.length ≤ 100) :
    StartC its vs news i its[i].kind := by
  obtain ⟨a, n, t, r, ha, hm, _⟩ := item_fact hall hi hl
  have e1 : its.getD i .qm = its[i] := by rw [List.getD_eq_getElem?_getD, List.getElem?_eq_getElem hi]; rfl
  refine ⟨a, n, t, r, _, ha, hm, kind_star _, ?_⟩
  cases hs : its[i].isStar with
  | false => exact .a rfl (by unfold startAt; rw [e1, hs]; rfl)
  | true =>
    cases i with
    | zero => exact .b rfl rfl (by unfold startAt; rw [e1, hs]; rfl)
    | succ i =>
      have hi' : i < its.length := by lia
      obtain ⟨a', n', t', r', ha', hm', _⟩ := item_fact hall hi' hl
      have e2 : its.getD (i + 1 - 1) .qm = its[i] := by rw [show i + 1 - 1 = i from rfl, List.getD_eq_getElem?_getD, List.getElem?_eq_getElem hi']; rfl
      refine .c a' n' t' r' _ rfl ?_ (lat_pred ha') hm' ?_
      · show (((i + 1 : Nat) : Int) == 0) = false
        rw [beq_eq_false_iff_ne]; lia
      · have hk := kind_star its[i]
        unfold EqJ at hk
        cases hs' : its[i].isStar with
        | true => rw [hs'] at hk; exact .inl ⟨by unfold NeJ; simpa using hk, by unfold startAt; rw [e1, e2, hs, hs']; simp⟩
        | false => rw [hs'] at hk; exact .inr ⟨by unfold NeJ; simpa using hk, by unfold startAt; rw [e1, e2, hs, hs']; simp⟩
theorem st_skip {its : List It} {i : Nat} {ys : List Value} (h : i < its.length) (hs : startAt its i = false) (hK : ys.length = nones (pieces (its.take i))) : ys.length = nones (pieces (its.take (i + 1))) := by
  rw [nones_step h, hs, hK]; rfl
theorem st_add {its : List It} {i : Nat} {ys : List Value} {v : Value} (h : i < its.length) (hs : startAt its i = true) (hK : ys.length = nones (pieces (its.take i))) : (ys ++ [v]).length = nones (pieces (its.take (i + 1))) := by
  rw [nones_step h, hs, List.length_append, hK]; rfl
theorem st_all {its : List It} {ys : List Value} (hK : ys.length = nones (pieces (its.take its.length))) (hl : its.length ≤ 100) : EqJ (ys.length : Nat) 1 (nones (pieces its) == 1) ∧ ys.length ≤ 100000 := by
  rw [List.take_length] at hK
  have h1 := List.length_filter_le (·.isNone) (pieces its)
  have h2 := pieces_len' its
  refine ⟨?_, by rw [hK]; unfold nones; lia⟩
  unfold EqJ
  rw [hK, Bool.eq_iff_iff]; simp only [beq_iff_eq]; lia
inductive MJ (its : List It) (k : Nat) (al : Bool) (wl : Addr) (t : Tok) (base news : List (Addr × Obj)) (i : Nat) (m : Str → Option Value) (led : List (Addr × Obj)) : Prop
  | mk (zs n2 objs : _) (h1 : led = (wl, listOf zs.toArray n2) :: (objs ++ base)) (h2 : DatAll (objs ++ news) zs ((moreR k al false (its.take i)).map It.dat)) (h3 : Apart wl (objs ++ base)) (h4 : (∀ p ∈ objs, ∀ q ∈ news, p.1 ≠ q.1)) (h5 : Has m [("whole", .ref wl), ("alone", .bool al), ("more", .int (k : Nat) t)]) : MJ its k al wl t base news i m led
inductive KJ (k : Nat) (x0 : It) (kl ml wl : Addr) (i : Nat) (ti t' t : Tok) (al : Bool) (R0 : List (Addr × Obj)) (j : Nat) (m : Str → Option Value) (led : List (Addr × Obj)) : Prop
  | mk (ys n3 : _) (h1 : led = (kl, listOf ys.toArray n3) :: R0) (h2 : TxAre ys (keptM k (x0.mem.take j))) (h3 : Has m [("kept", .ref kl), ("members", .ref ml), ("kind", .int x0.kind t'), ("place", .int (i : Nat) ti), ("whole", .ref wl), ("alone", .bool al), ("more", .int (k : Nat) t)]) : KJ k x0 kl ml wl i ti t' t al R0 j m led
theorem ap_kl {kl a b c d : Addr} {oa ob oc od : Obj} {r : List (Addr × Obj)} (h : a < kl ∧ b < kl ∧ c < kl ∧ d < kl ∧ AllLt kl r) : Apart kl ((a, oa) :: (b, ob) :: (c, oc) :: (d, od) :: r) := fun p hp => by
  rcases List.mem_cons.mp hp with rfl | hp
  · exact Nat.ne_of_lt h.1
  · rcases List.mem_cons.mp hp with rfl | hp
    · exact Nat.ne_of_lt h.2.1
    · rcases List.mem_cons.mp hp with rfl | hp
      · exact Nat.ne_of_lt h.2.2.1
      · rcases List.mem_cons.mp hp with rfl | hp
        · exact Nat.ne_of_lt h.2.2.2.1
        · exact Nat.ne_of_lt (allLt_mem h.2.2.2.2 p hp)
example : True := by
  k_with "truthy ref" =>
    (fail_if_success (fail_if_success (have := hereW19)))
    ((k_here; refine' Mine.truthy_nil ?mtnN9144 ?mtnl9144 ?_; (case mtnN9144 => k_asm); (case mtnl9144 => k_dflt k_mem); intro _))
  trivial
example : True := by
  k_with "truthy ref" =>
    (fail_if_success (fail_if_success (have := hereW19)))
    ((k_here; refine' Mine.truthy_snoc ?mtnN9145 ?mtnl9145 ?mtnz9145 ?_; (case mtnN9145 => k_asm); (case mtnl9145 => k_dflt k_mem); (case mtnz9145 => assumption); intro _))
  trivial
example : True := by
  k_with "subscriptTail" =>
    (fail_if_success (fail_if_success (have := hereW19)))
    (((with_reducible show wpAny _ _ (subscriptTail _ _ (Value.ref _) (Value.int (-1) _)) _ _ _); refine' Mine.item_last ?mllN9146 ?mlll9146 ?_ ?mlls9146; (case mllN9146 => k_asm); (case mlll9146 => k_dflt k_mem); (case mlls9146 => with_reducible exact Mine.sub_unop)))
  trivial
example : True := by
  k_with "subscriptTail Name UnaryOp ref int" =>
    (fail_if_success (fail_if_success (have := hereW19)))
    (((with_reducible show wpAny _ _ (subscriptTail _ _ (Value.ref _) (Value.int (-1) _)) _ _ _); refine' Mine.item_last ?mllN9147 ?mlll9147 ?_ ?mlls9147; (case mllN9147 => k_asm); (case mlll9147 => k_dflt k_mem); (case mlls9147 => with_reducible exact Mine.sub_unop)))
  trivial
example : True := by
  k_with "binaryOp Mult ref int" =>
    (fail_if_success (fail_if_success (have := hereW19)))
    ((k_here; refine' Mine.mul_one ?m19148 ?m29148 ?m39148 ?m49148 ?m59148 ?_; (case m19148 => k_asm); (case m29148 => k_asm); (case m39148 => exact List.Mem.head _); (case m49148 => exact rfl); (case m59148 => exact Nat.le_trans (by assumption) (by decide)); intro _ _ _ _ _))
  trivial
example : True := by
  k_with "inplaceOp Add ref ref" =>
    (fail_if_success (fail_if_success (have := hereW19)))
    (((with_reducible show wpAny _ _ (inplaceOp Operator.Add (Value.ref _) (Value.ref _)) _ _ _); refine' Mine.iadd_at (pre := [_]) ?m19149 ?m29149 ?m39149 ?m49149 ?m59149 ?m69149 ?m79149 ?m89149 ?_; (case m19149 => with_reducible assumption); (case m29149 => assumption); (case m39149 => assumption); (case m49149 => exact Mine.ap_one (by assumption)); (case m59149 => with_reducible assumption); (case m69149 => with_reducible assumption); (case m79149 => exact Mine.rep_le (by assumption)); (case m89149 => exact Mine.rep_ne (by assumption)); intro _ _ _))
  trivial
example : True := by
  k_with "call builtin:list.append" =>
    (fail_if_success (fail_if_success (have := hereW19)))
    ((k_here; refine' Mine.app_head ?m19150 ?m29150 ?m39150 ?m49150 ?_; (case m19150 => k_asm); (case m29150 => k_asm); (case m39150 => with_reducible assumption); (case m49150 => first | with_reducible assumption | with_reducible exact Mine.RepOk.use (by assumption)); intro _ _ _))
  trivial
noncomputable abbrev kv (k : Nat) (x0 : It) (kl ml wl : Addr) (i : Nat) (ti t' t : Tok) (al : Bool) : List (Str × Value) := [("kept", .ref kl), ("members", .ref ml), ("kind", .int x0.kind t'), ("place", .int (i : Nat) ti), ("whole", .ref wl), ("alone", .bool al), ("more", .int (k : Nat) t)]
inductive TestEnd (h₀ : Heap) (L : Addr) (s : Shared) (ps : List (Str × Value)) (led : List (Addr × Obj)) (c b : Bool) (s₂ : Shared) : Prop
  | mk (h1 : b = c) (h tk m : _) (h2 : s₂ = { s with heap := h, toks := tk }) (h3 : Fr h₀ L h m) (h4 : Has m ps) (h5 : News h₀ L h led) : TestEnd h₀ L s ps led c b s₂
noncomputable def GtJ (i j : Int) (b : Bool) : Prop := decide (j < i) = b
theorem gtj_B {prog : Program} {w : World} {A : Around} {E : Value → Shared → Prop} {s : Shared} {i j : Int} {t u : Tok} {b : Bool} {Q : Value → Shared → Prop} (e : GtJ i j b) (h : Q (.bool b) s) : wpAny (model prog w) A (compareOp .Gt (.int i t) (.int j u)) Q E s := gt_int (by rw [show decide (j < i) = b from e]; exact h)
example : True := by
  k_with "compareOp Gt int int" =>
    (fail_if_success (fail_if_success (have := hereW19)))
    ((refine' Mine.gtj_B ?meT9151 ?_; (case meT9151 => with_reducible assumption)))
  trivial
theorem more_cases {its : List It} {vs : List Value} {news : List (Addr × Obj)} {i k : Nat} {al : Bool} {x0 : It} (hall : DatAll news vs (its.map It.dat)) (hi : i < its.length) (hl : its.length ≤ 100) (ok : ∀ it ∈ its, it.Ok) :
    (GtJ (i : Nat) 0 false ∧ false = (prevLF its i && askDot k al x0)) ∨ ∃ (a'' : Addr) (prev : It), GtJ (i : Nat) 0 true ∧ LAt vs ((i : Nat) - 1) (.ref a'') ∧ DatIn news (.ref a'') prev.dat ∧ prev.Ok ∧ ((prev.isLF = false ∧ false = (prevLF its i && askDot k al x0)) ∨ (prev.isLF = true ∧ askDot k al x0 = (prevLF its i && askDot k al x0))) := by
  cases i with
  | zero => exact .inl ⟨rfl, by simp [prevLF]⟩
  | succ i =>
    have hi' : i < its.length := by lia
    obtain ⟨v, hv, hd⟩ := hall.get (k := i) (by simpa using hi')
    rw [List.getElem_map] at hd
    obtain ⟨a, n, t, r, rfl, hm, hr⟩ := it_dat hd
    refine .inr ⟨a, its[i], by unfold GtJ; rw [decide_eq_true_eq]; lia, lat_pred ⟨by lia, by lia, by rw [Int.toNat_natCast]; exact hv⟩, hd, ok _ (List.getElem_mem hi'), ?_⟩
    have e : prevLF its (i + 1) = its[i].isLF := by
      unfold prevLF
      rw [show i + 1 - 1 = i from rfl, List.getD_eq_getElem?_getD, List.getElem?_eq_getElem hi']; simp
    rw [e]
    cases its[i].isLF with
    | false => exact .inl ⟨rfl, rfl⟩
    | true => exact .inr ⟨rfl, by simp⟩
theorem ask_cases (k : Nat) (al : Bool) (x0 : It) : (EqJ x0.kind 1 true ∧ true = askDot k al x0) ∨ (EqJ x0.kind 1 false ∧ EqJ x0.kind 0 true ∧ EqJ x0.kind 6 false ∧ al = askDot k al x0) ∨ (EqJ x0.kind 1 false ∧ EqJ x0.kind 0 false ∧ EqJ x0.kind 6 true ∧ (keptM k x0.mem).isEmpty = askDot k al x0) ∨ (EqJ x0.kind 1 false ∧ EqJ x0.kind 0 false ∧ EqJ x0.kind 6 false ∧ false = askDot k al x0) := by
  cases x0 with
  | star => exact .inr (.inl ⟨rfl, rfl, rfl, rfl⟩)
  | qm => exact .inl ⟨rfl, rfl⟩
  | lit c => exact .inr (.inr (.inr ⟨rfl, rfl, rfl, rfl⟩))
  | br neg ms =>
    cases neg with
    | true => exact .inr (.inr (.inl ⟨rfl, rfl, rfl, by simp [askDot_e3, It.mem]⟩))
    | false => exact .inr (.inr (.inr ⟨rfl, rfl, rfl, rfl⟩))
theorem tx_empty {ys : List Value} {ts : List (List Nat)} (h : TxAre ys ts) : (ys = [] ∧ ts.isEmpty = true) ∨ (∃ zs z, ys = zs ++ [z] ∧ ts.isEmpty = false) := by
  cases h with
  | nil => exact .inl ⟨rfl, rfl⟩
  | @cons x t vs ts h =>
    rcases List.eq_nil_or_concat (Value.str (S x) t :: vs) with q | ⟨zs, z, q⟩
    · cases q
    · exact .inr ⟨zs, z, by rw [q, List.concat_eq_append], rfl⟩
theorem un_ok7 {un : Nat} (h : un + 200 < cLine) : un + 3 + 64 < cLine := Nat.lt_of_le_of_lt (by lia) h
theorem sub4 {news R1 : List (Addr × Obj)} {a b c d : Addr × Obj} (h : ∀ p ∈ news, p ∈ R1) : ∀ p ∈ news, p ∈ a :: b :: c :: d :: R1 := fun p hp => .tail _ (.tail _ (.tail _ (.tail _ (h p hp))))
example : True := by
  k_with "compareOp Eq ref ref" =>
    (fail_if_success (fail_if_success (have := hereW19)))
    ((k_here; (with_reducible show wpAny _ _ (compareOp CmpOp.Eq (Value.ref _) (Value.ref _)) _ _ _); k_dflt (refine' Mine.eq_item (k := 0) ?m19152 ?m29152 ?m39152 ?m49152 ?m59152 ?m69152 ?m79152 ?m89152 ?_; (case m19152 => k_asm); (case m29152 => with_reducible assumption); (case m39152 => exact Mine.sub4 (by with_reducible assumption)); (case m49152 => with_reducible assumption); (case m59152 => exact List.Mem.head _); (case m69152 => exact List.Mem.tail _ (List.Mem.head _)); (case m79152 => exact Mine.un_ok7 (by with_reducible assumption)); (case m89152 => with_reducible assumption); k_whole)))
  trivial
theorem test_end {h₀ : Heap} {L : Addr} {s : Shared} {ps : List (Str × Value)} {led led' : List (Addr × Obj)} {c b : Bool} {h : Heap} {tk : Nat} {m : Str → Option Value} (e : b = c) (F : Fr h₀ L h m) (N : News h₀ L h led') (H : Has m ps) (hs : ∀ p ∈ led, p ∈ led') : TestEnd h₀ L s ps led c b { s with heap := h, toks := tk } :=
  ⟨e, h, tk, m, rfl, F, H, news_sub N hs⟩
theorem sub2 {R1 : List (Addr × Obj)} {a b : Addr × Obj} : ∀ p ∈ R1, p ∈ a :: b :: R1 := fun p hp => .tail _ (.tail _ hp)
theorem ys_lt_k {k : Nat} {ms : List (List Nat)} {ys : List Value} (hk : k ≤ 3) (hml : ms.length ≤ 1000) (hK : TxAre ys (keptM k ms)) : ys.length ≤ 100000 := by
  rw [hK.len]
  have h1 := keptM_len k ms
  have h3 : (k + 1) * ms.length ≤ 4 * 1000 := Nat.mul_le_mul (by lia) hml
  lia
theorem ys_lt_of {zs : List Value} {z : Value} (h : (zs ++ [z]).length ≤ 100000) : zs.length < 16777216 := by rw [List.length_append] at h; lia
noncomputable def Abv (wl kl : Addr) (R1 new : List (Addr × Obj)) : Prop := ∀ p ∈ new, wl < p.1 ∧ kl < p.1 ∧ ∀ q ∈ R1, q.1 < p.1
inductive IPost (its : List It) (k : Nat) (x0 : It) (kl ml wl : Addr) (i : Nat) (ti t' t : Tok) (al : Bool) (ys : List Value) (n3 : Nat) (R1 RB : List (Addr × Obj)) (c : Bool) (m : Str → Option Value) (led : List (Addr × Obj)) : Prop
  | mk (zs n2 new : _) (h1 : led = (wl, listOf zs.toArray n2) :: (kl, listOf ys.toArray n3) :: (new ++ R1)) (h2 : DatAll (new ++ RB) zs ((moreR k al false (its.take i) ++ (if c then List.replicate k It.qm else [])).map It.dat)) (h3 : Abv wl kl R1 new) (h4 : Has m (kv k x0 kl ml wl i ti t' t al)) : IPost its k x0 kl ml wl i ti t' t al ys n3 R1 RB c m led
theorem iadd_more {prog : Program} {w : World} {A : Around} {E : Value → Shared → Prop} {s : Shared} {h₀ : Heap} {L B L1 T1 E1 D : Addr} {o1 o2 o3 : Obj} {m : Str → Option Value} {rest : List (Addr × Obj)} {vs us : List Value} {n n2 : Nat} {P P' : Prop} {Q : Value → Shared → Prop} (F : Fr h₀ L s.heap m)
    (N : News h₀ L s.heap ((B, listOf us.toArray n2) :: (L1, o1) :: (T1, o2) :: (E1, o3) :: (D, listOf vs.toArray n) :: rest)) (hB : ∀ p ∈ (L1, o1) :: (T1, o2) :: (E1, o3) :: (D, listOf vs.toArray n) :: rest, p.1 < B) (hT : E1 < T1 ∧ D < T1 ∧ P) (hE : D < E1 ∧ P')
    (hap : Apart D rest) (hz : vs.length ≤ 100000) (hz2 : us.length ≤ 100000) (hu : us ≠ [])
    (h : ∀ h', Fr h₀ L h' m → News h₀ L h' ((D, listOf (vs ++ us).toArray (n + 1)) :: (T1, o2) :: (E1, o3) :: rest) → Q (.ref D) { s with heap := h' }) : wpAny (model prog w) A (inplaceOp .Add (.ref D) (.ref B)) Q E s := by
  refine iadd_head (n := n) (n2 := n2) (rest := (T1, o2) :: (E1, o3) :: rest) F (news_sub N fun p hp => ?_) (Nat.ne_of_gt (hB _ (.tail _ (.tail _ (.tail _ (.head _)))))) (fun p hp => ?_) hz hz2 hu fun h' F' N' => h h' F' (news_sub N' fun p hp => .tail _ hp)
  · rcases List.mem_cons.mp hp with rfl | hp
    · exact .head _
    · rcases List.mem_cons.mp hp with rfl | hp
      · exact .tail _ (.tail _ (.tail _ (.tail _ (.head _))))
      · rcases List.mem_cons.mp hp with rfl | hp
        · exact .tail _ (.tail _ (.head _))
        · rcases List.mem_cons.mp hp with rfl | hp
          · exact .tail _ (.tail _ (.tail _ (.head _)))
          · exact .tail _ (.tail _ (.tail _ (.tail _ (.tail _ hp))))
  · rcases List.mem_cons.mp hp with rfl | hp
    · exact Nat.ne_of_gt hT.2.1
    · rcases List.mem_cons.mp hp with rfl | hp
      · exact Nat.ne_of_gt hE.1
      · exact hap p hp
example : True := by
  k_with "inplaceOp Add ref ref" =>
    (fail_if_success (fail_if_success (have := hereW19)))
    (((with_reducible show wpAny _ _ (inplaceOp Operator.Add (Value.ref _) (Value.ref _)) _ _ _); refine' Mine.iadd_more ?m19153 ?m29153 ?m39153 ?m49153 ?m59153 ?m69153 ?m79153 ?m89153 ?m99153 ?_; (case m19153 => with_reducible assumption); (case m29153 => with_reducible assumption); (case m39153 => with_reducible assumption); (case m49153 => with_reducible assumption); (case m59153 => with_reducible assumption); (case m69153 => with_reducible assumption); (case m79153 => with_reducible assumption); (case m89153 => exact Mine.rep_le (by assumption)); (case m99153 => exact Mine.rep_ne (by assumption)); intro _ _ _))
  trivial
example : True := by
  k_with "call builtin:list.append" =>
    (fail_if_success (fail_if_success (have := hereW19)))
    ((k_here; refine' Mine.app_second ?m19154 ?m29154 ?m39154 ?m49154 ?m59154 ?_; (case m19154 => k_asm); (case m29154 => k_asm); (case m39154 => ((rename _ < _ ∧ _ < _ ∧ AllLt _ _ => q); exact Nat.ne_of_gt q.1)); (case m49154 => with_reducible assumption); (case m59154 => with_reducible assumption); intro _ _ _))
  trivial
theorem dat_rep {led : List (Addr × Obj)} {T : Addr} (h : DatIn led (.ref T) It.qm.dat) : ∀ k : Nat, DatAll led (List.replicate k (Value.ref T)) ((List.replicate k It.qm).map It.dat)
  | 0 => .nil
  | k + 1 => .cons h (dat_rep h k)
theorem ip_false {its : List It} {k : Nat} {x0 : It} {kl ml wl : Addr} {i : Nat} {ti t' t : Tok} {al : Bool} {ys zs : List Value} {n2 n3 : Nat} {R1 RB : List (Addr × Obj)} {m : Str → Option Value} (hD : DatAll RB zs ((moreR k al false (its.take i)).map It.dat)) (H : Has m (kv k x0 kl ml wl i ti t' t al)) :
    IPost its k x0 kl ml wl i ti t' t al ys n3 R1 RB false m ((wl, listOf zs.toArray n2) :: (kl, listOf ys.toArray n3) :: R1) :=
  ⟨zs, n2, [], rfl, by simpa using hD, (fun _ q => nomatch q), H⟩
theorem ip_true {its : List It} {k : Nat} {x0 : It} {kl ml wl T E : Addr} {i : Nat} {ti t' t tt : Tok} {al : Bool} {ys zs : List Value} {n2 n3 : Nat} {R1 RB : List (Addr × Obj)} {m : Str → Option Value} (hD : DatAll RB zs ((moreR k al false (its.take i)).map It.dat)) (H : Has m (kv k x0 kl ml wl i ti t' t al))
    (hT : E < T ∧ wl < T ∧ kl < T ∧ AllLt T R1) (hE : wl < E ∧ kl < E ∧ AllLt E R1) :
    IPost its k x0 kl ml wl i ti t' t al ys n3 R1 RB true m ((wl, listOf (zs ++ List.replicate k (Value.ref T)).toArray n2) :: (kl, listOf ys.toArray n3) :: ([(T, tupOf [.int 1 tt, .ref E] 0), (E, listOf (([] : List Value).toArray) 0)] ++ R1)) := by
  refine ⟨_, n2, _, rfl, ?_, ?_, H⟩
  · rw [if_pos rfl, List.map_append]
    exact (hD.mono fun p hp => List.mem_append_right _ hp).append (dat_rep (.tuple (.head _) (.cons (.int _ _) (.cons (.list (.tail _ (.head _)) .nil) .nil))) k)
  · intro p hp
    rcases List.mem_cons.mp hp with rfl | hp
    · exact ⟨hT.2.1, hT.2.2.1, allLt_mem hT.2.2.2⟩
    · rw [List.mem_singleton.mp hp]; exact ⟨hE.1, hE.2.1, allLt_mem hE.2.2⟩
theorem ip_news {h₀ h : Heap} {L wl kl T E : Addr} {x y oT oE : Obj} {R1 : List (Addr × Obj)} (N : News h₀ L h ((wl, x) :: (T, oT) :: (E, oE) :: (kl, y) :: R1)) : News h₀ L h ((wl, x) :: (kl, y) :: ([(T, oT), (E, oE)] ++ R1)) := news_sub N fun p hp => by
  rcases List.mem_cons.mp hp with rfl | hp
  · exact .head _
  · rcases List.mem_cons.mp hp with rfl | hp
    · exact .tail _ (.tail _ (.tail _ (.head _)))
    · rcases List.mem_cons.mp hp with rfl | hp
      · exact .tail _ (.head _)
      · rcases List.mem_cons.mp hp with rfl | hp
        · exact .tail _ (.tail _ (.head _))
        · exact .tail _ (.tail _ (.tail _ (.tail _ hp)))
theorem ip_len {its : List It} {k i : Nat} {al c : Bool} {zs : List Value} {led : List (Addr × Obj)} (hk : k ≤ 3) (hl : its.length ≤ 100) (hD : DatAll led zs ((moreR k al false (its.take i) ++ (if c then List.replicate k It.qm else [])).map It.dat)) : zs.length ≤ 100000 := by
  rw [hD.length, List.length_map, List.length_append]
  have h1 := moreR_len k al (its.take i) false
  have h2 : (its.take i).length ≤ its.length := List.length_take_le' i its
  have h3 : (k + 1) * (its.take i).length ≤ 4 * 100 := Nat.mul_le_mul (by lia) (by lia)
  split <;> simp <;> lia
theorem mj_len {its : List It} {k i : Nat} {al : Bool} {zs : List Value} {led : List (Addr × Obj)} (hk : k ≤ 3) (hl : its.length ≤ 100) (hD : DatAll led zs ((moreR k al false (its.take i)).map It.dat)) : zs.length ≤ 100000 :=
  ip_len (c := false) hk hl (by simpa using hD)
theorem ip_ap {wl kl : Addr} {y : Obj} {R1 new : List (Addr × Obj)} (hA : Abv wl kl R1 new) (hwk : wl < kl) (hw : Apart wl R1) : Apart wl ((kl, y) :: (new ++ R1)) := fun p hp => by
  rcases List.mem_cons.mp hp with rfl | hp
  · exact Nat.ne_of_gt hwk
  · rcases List.mem_append.mp hp with hp | hp
    · exact Nat.ne_of_gt (hA p hp).1
    · exact hw p hp
theorem mj_fin {its : List It} {k i : Nat} {al c : Bool} {x0 : It} {wl kl T2 T e itr : Addr} {t tk2 : Tok} {r2 : Value} {oT oe oi x : Obj} {g h' : Heap} {L : Addr} {s : Shared} {tk' : Nat} {m' : Str → Option Value} {zs ys : List Value} {n3 nz : Nat} {objs base news new : List (Addr × Obj)}
    (hoff : ∀ p ∈ (wl, x) :: (objs ++ base), p.1 ≠ T ∧ p.1 ≠ e ∧ p.1 ≠ itr) (hei : e ≠ itr) (F : Fr g L h' m') (Hm : Has m' [("whole", .ref wl), ("alone", .bool al), ("more", .int (k : Nat) t)])
    (N : News g L h' ((T2, tupOf [.int x0.kind tk2, r2] 0) :: (wl, listOf (zs ++ [Value.ref T2]).toArray nz) :: (kl, listOf ys.toArray n3) :: (new ++ ((T, oT) :: (e, oe) :: (itr, oi) :: (objs ++ base)))))
    (h2 : wl < T2 ∧ kl < T2 ∧ AllLt T2 (new ++ ((T, oT) :: (e, oe) :: (itr, oi) :: (objs ++ base)))) (hA : Abv wl kl ((T, oT) :: (e, oe) :: (itr, oi) :: (objs ++ base)) new)
    (hkl : wl < kl ∧ T < kl ∧ e < kl ∧ itr < kl ∧ AllLt kl (objs ++ base)) (hb : ∀ q ∈ news, q ∈ base)
    (hD : DatAll (new ++ (objs ++ news)) zs ((moreR k al false (its.take i) ++ (if c then List.replicate k It.qm else [])).map It.dat)) (hmore : moreR k al false (its.take (i + 1)) = moreR k al false (its.take i) ++ ((if c then List.replicate k It.qm else []) ++ [x0.more k]))
    (d : DatIn ((T2, tupOf [.int x0.kind tk2, r2] 0) :: (kl, listOf ys.toArray n3) :: news) (.ref T2) (x0.more k).dat) (apw : Apart wl (objs ++ base)) (hob : ∀ p ∈ objs, ∀ q ∈ news, p.1 ≠ q.1) :
    TurnNx g L s (MJ its k al wl t base news (i + 1)) [(e, oe), (itr, oi)] { s with heap := h', toks := tk' } := by
  have h2m := allLt_mem h2.2.2
  have hklm := allLt_mem hkl.2.2.2.2
  have up : ∀ p ∈ (T2, tupOf [.int x0.kind tk2, r2] 0) :: (kl, listOf ys.toArray n3) :: new, wl < p.1 ∧ e < p.1 ∧ itr < p.1 ∧ ∀ q ∈ objs ++ base, q.1 < p.1 := fun p hp => by
    rcases List.mem_cons.mp hp with rfl | hp
    · exact ⟨h2.1, h2m (e, oe) (List.mem_append_right _ (.tail _ (.head _))), h2m (itr, oi) (List.mem_append_right _ (.tail _ (.tail _ (.head _)))), fun q hq => h2m q (List.mem_append_right _ (.tail _ (.tail _ (.tail _ hq))))⟩
    · rcases List.mem_cons.mp hp with rfl | hp
      · exact ⟨hkl.1, hkl.2.2.1, hkl.2.2.2.1, hklm⟩
      · have a := hA p hp
        exact ⟨a.1, a.2.2 (e, oe) (.tail _ (.head _)), a.2.2 (itr, oi) (.tail _ (.tail _ (.head _))), fun q hq => a.2.2 q (.tail _ (.tail _ (.tail _ hq)))⟩
  refine ⟨h', tk', m', (wl, listOf (zs ++ [Value.ref T2]).toArray nz) :: (((T2, tupOf [.int x0.kind tk2, r2] 0) :: (kl, listOf ys.toArray n3) :: new ++ objs) ++ base), rfl, F, fun p hp => ?_, fun q hq p hp => ?_, _, nz, (T2, tupOf [.int x0.kind tk2, r2] 0) :: (kl, listOf ys.toArray n3) :: new ++ objs, rfl, ?_, fun p hp => ?_, fun p hp q hq => ?_, Hm⟩
  · rcases List.mem_cons.mp hp with rfl | hp
    · exact N _ (.tail _ (.tail _ (.tail _ (List.mem_append_right _ (.tail _ (.head _))))))
    · rcases List.mem_cons.mp hp with rfl | hp
      · exact N _ (.tail _ (.tail _ (.tail _ (List.mem_append_right _ (.tail _ (.tail _ (.head _)))))))
      · rcases List.mem_cons.mp hp with rfl | hp
        · exact N _ (.tail _ (.head _))
        · rw [List.append_assoc] at hp
          rcases List.mem_cons.mp hp with rfl | hp
          · exact N _ (.head _)
          · rcases List.mem_cons.mp hp with rfl | hp
            · exact N _ (.tail _ (.tail _ (.head _)))
            · rcases List.mem_append.mp hp with hp | hp
              · exact N _ (.tail _ (.tail _ (.tail _ (List.mem_append_left _ hp))))
              · exact N _ (.tail _ (.tail _ (.tail _ (List.mem_append_right _ (.tail _ (.tail _ (.tail _ hp)))))))
  · have key : p.1 ≠ e ∧ p.1 ≠ itr := by
      rcases List.mem_cons.mp hp with rfl | hp
      · exact (hoff (wl, x) (.head _)).2
      · rw [List.append_assoc] at hp
        rcases List.mem_append.mp hp with hp | hp
        · have a := up p hp
          exact ⟨Nat.ne_of_gt a.2.1, Nat.ne_of_gt a.2.2.1⟩
        · exact (hoff p (.tail _ hp)).2
    rcases List.mem_cons.mp hq with rfl | hq
    · exact key.1
    · rw [List.mem_singleton.mp hq]; exact key.2
  · rw [hmore, ← List.append_assoc, List.map_append]
    refine DatAll.append (hD.mono fun p hp => ?_) (DatAll.one (d.mono fun p hp => ?_))
    · rw [List.append_assoc]
      exact List.mem_append.mpr ((List.mem_append.mp hp).imp (fun h => .tail _ (.tail _ h)) id)
    · rw [List.append_assoc]
      rcases List.mem_cons.mp hp with rfl | hp
      · exact .head _
      · rcases List.mem_cons.mp hp with rfl | hp
        · exact .tail _ (.head _)
        · exact List.mem_append_right _ (List.mem_append_right _ hp)
  · rw [List.append_assoc] at hp
    rcases List.mem_append.mp hp with hp | hp
    · exact Nat.ne_of_gt (up p hp).1
    · exact apw p hp
  · rcases List.mem_append.mp hp with hp | hp
    · exact Nat.ne_of_gt ((up p hp).2.2.2 q (List.mem_append_right _ (hb q hq)))
    · exact hob p hp q hq
theorem more_d {k : Nat} {x0 : It} {T2 kl ml : Addr} {tk2 : Tok} {ys vms : List Value} {n3 km : Nat} {news : List (Addr × Obj)} (okx : x0.Ok) (hK : TxAre ys (keptM k x0.mem)) (hml : (ml, listOf vms.toArray km) ∈ news) (hmall : DatAll news vms (x0.mem.map fun t => Dat.str (S t))) :
    (ys = [] → DatIn ((T2, tupOf [.int x0.kind tk2, .ref ml] 0) :: (kl, listOf ys.toArray n3) :: news) (.ref T2) (x0.more k).dat) ∧ (∀ zs z, ys = zs ++ [z] → DatIn ((T2, tupOf [.int x0.kind tk2, .ref kl] 0) :: (kl, listOf ys.toArray n3) :: news) (.ref T2) (x0.more k).dat) := by
  rw [more_dat k okx]
  constructor
  · rintro rfl
    have : keptM k x0.mem = [] := List.length_eq_zero_iff.mp hK.len.symm
    rw [if_pos this]
    exact .tuple (.head _) (.cons (.int _ _) (.cons (.list (.tail _ (.tail _ hml)) (hmall.mono fun p hp => .tail _ (.tail _ hp))) .nil))
  · rintro zs z rfl
    have : keptM k x0.mem ≠ [] := fun q => by have := hK.len; rw [q] at this; simp at this
    rw [if_neg this]
    exact .tuple (.head _) (.cons (.int _ _) (.cons (.list (.tail _ (.head _)) (tx_dat hK)) .nil))
theorem mj_done {h₀ h : Heap} {L wl : Addr} {x : Obj} {objs base news : List (Addr × Obj)} (N : News h₀ L h ((wl, x) :: (objs ++ base))) (hb : ∀ q ∈ news, q ∈ base) : News h₀ L h (news ++ (wl, x) :: objs) := fun p hp => by
  rcases List.mem_append.mp hp with hp | hp
  · exact N p (.tail _ (List.mem_append_right _ (hb p hp)))
  · rcases List.mem_cons.mp hp with rfl | hp
    · exact N _ (.head _)
    · exact N p (.tail _ (List.mem_append_left _ hp))
theorem mj_out {its : List It} {k : Nat} {al : Bool} {vs zs : List Value} {wl : Addr} {n2 : Nat} {objs news : List (Addr × Obj)} (hvl : vs.length = its.length) (hale : al = (nones (pieces its) == 1)) (hD : DatAll (objs ++ news) zs ((moreR k al false (its.take vs.length)).map It.dat)) : DatIn (news ++ (wl, listOf zs.toArray n2) :: objs) (.ref wl) (itemsDat (moreR k (nones (pieces its) == 1) false its)) := by
  rw [hvl, List.take_length, hale] at hD
  exact .list (List.mem_append_right _ (.head _)) (hD.mono fun p hp => (List.mem_append.mp hp).elim (fun h => List.mem_append_right _ (.tail _ h)) fun h => List.mem_append_left _ h)
theorem morew (w : World) (its : List It) (k : Nat) (hk0 : 0 < k) (hk3 : k ≤ 3) (l : Addr) (t : Tok) (ok : ∀ it ∈ its, it.Ok) (hl : its.length ≤ 100) (hsz : ∀ it ∈ its, it.text.length ≤ 1000) :
    Spec4 w 144 [.ref l, .int (k : Nat) t] (fun news => DatIn news (.ref l) (itemsDat its)) (fun led v => DatIn led v (itemsDat (moreR k (nones (pieces its) == 1) false its))) := by
  unfold Spec4 PR
  k_fill
  intro dp un gd cn cs a ccd cl outer A₀ base h₀ L m p loose mean mg mb news s Q E B F X N T hk hpre hd hu hret
  cases hpre with
  | @list l vs nn ds hmem hall =>
  have hvl : vs.length = its.length := by have := hall.length; rwa [List.length_map] at this
  refine wpAny_call ?_
  k_dflt (refine' code_defC ?k1 ?k2 ?k3 ?k4 ?k5 ?kA ?kF ?kK ?k6 ?k7 ?k8 ?k9 ?kB ?kD ?_ ?c2 ?c3 ?c4; (case kA => exact rfl); (case kF => exact rfl); (case kK => assumption); (case k1 => k_asm); (case k2 => k_asm); (case k3 => k_asm); (case k4 => k_asm); (case k5 => k_asm); (case k6 => k_is); (case k7 => k_is); (case k8 => ktr_room); (case k9 => exact BindsTo.of_eq rfl); (case kB => exact rfl); (case kD => decide +kernel); (case c2 => exact rfl); (case c3 => exact rfl); (case c4 => exact rfl); k_whole; intro g' L' h' tk' cells' FG' F' N' Y' B' X' T' l1; obtain ⟨o1, hE, d1⟩ := CellsAre.one Y'; subst hE; clear Y'; replace d1 : o1.data = .cell (some (.ref l)) := d1; (try simp only [List.cons_append, List.nil_append] at N'); (try dsimp only); (try k_lift B'); (try k_fold))
  refine letA ?_
  intro A1
  refine letV ?_
  intro e1
  (rename Fr _ _ _ _ => F0)
  replace F0 := fr_gen [("more", .int (k : Nat) t)] F0 (Has.cons rfl Has.nil)
  obtain ⟨m0, F0⟩ := F0
  dsimp only [kB_e1, kB_e2] at F0
  have hvz : vs.length ≤ 100000 := by rw [hvl]; omega
  have hn : ((vs.length : Nat) : Int) = ((its.length : Nat) : Int) := by rw [hvl]
  have hnz : its.length ≤ 100000 := by omega
  k_steps
  show wpAny _ _ _ _ _ _
  try k_fold
  refine comp_RTN (cl := [("items", L' + 1)]) (n := its.length) (fun i ys => ys.length = nones (pieces (its.take i))) F0 N' hnz ?hit rfl (fun E' i t ys I oI C oC D m₂ h tk hi hK hC hx F' N' => ?leaf) (fun D ys h tk hK F' N' hap => ?done) rfl rfl (by decide) rfl (by decide) rfl (fun _ => rfl)
  case hit =>
    k_steps
    (rename Fr _ _ _ _ => F5)
    (rename News _ _ _ _ => N5)
    show wpAny _ _ _ _ _ _
    try k_fold
    refine rng_call (n := its.length) hn F5 N5 fun r h' tk t u v F' N' hlt => ?_
    k_steps
    exact rng_is F' N'
  case leaf =>
    obtain ⟨ai, ni, ti, ri, b, hat, hmi, hb, hcs⟩ := start_cases hall hi hl
    clear hall ok hsz hvz hret F FG' 
    generalize its[i].kind = ki at hmi hb
    rcases hcs with ⟨rfl, hs⟩ | ⟨rfl, hi0, hs⟩ | ⟨a', n', t', r', k', rfl, hi0, hat', hm', hcs⟩
    · k_steps
      exact cend (by assumption) (by assumption) (st_skip hi hs hK)
    · k_steps
      exact cend (by assumption) (by assumption) (st_add hi hs hK)
    · rcases hcs with ⟨hk', hs⟩ | ⟨hk', hs⟩
      · k_steps
        exact cend (by assumption) (by assumption) (st_skip hi hs hK)
      · k_steps
        exact cend (by assumption) (by assumption) (st_add hi hs hK)
  case done =>
    obtain ⟨hal, hyl⟩ := st_all hK hl
    obtain ⟨al, hale⟩ : ∃ z, z = (nones (pieces its) == 1) := ⟨_, rfl⟩
    rw [← hale] at hal
    k_steps
    rename_i t1 tk2 hh1 wl hh2 lw hh3 F1 N1
    have apw0 : Apart wl ((L' + 1, o1) :: news) := ap_cons (Nat.ne_of_gt lw.2.1) (apart_l lw.2.2)
    have hbn : ∀ q ∈ news, q ∈ (L' + 1, o1) :: news := fun q hq => .tail _ hq
    have N2 : News g' L' hh3 ((wl, listOf (([] : List Value).toArray) 0) :: ([] ++ ((L' + 1, o1) :: news))) := news_sub N1 fun p hp => by
      rcases List.mem_cons.mp hp with rfl | hp
      · exact .head _
      · exact .tail _ (.tail _ hp)
    show wpAny _ _ _ _ _ _
    try k_fold
    refine for_enum (h₀ := g') (l := l) (vs := vs) (nn := nn) rfl (MJ its k al wl t ((L' + 1, o1) :: news) news) (fun i m led h => by obtain ⟨_, _, _, rfl, _⟩ := h; exact .tail _ (List.mem_append_right _ (hbn _ hmem))) (fun _ => rfl) ?_ ?_ ?_
    · clear N1
      k_steps
      exact enum_is (by assumption) (by assumption) (by assumption) ⟨[], 0, [], rfl, .nil, apw0, (fun _ q => nomatch q), Has.cons rfl (Has.cons rfl (Has.cons rfl Has.nil))⟩
    · rintro E' i v ti n m₁ led h tk T oT e oe itr oi hvi ⟨zs, n2, objs, rfl, hD, apw, hob, H⟩ F₂ hTc hTd N₂ hTe hTi hei hoff
      refine letT ?_
      intro R9
      k_fold
      replace F₂ : Fr g' L' h _ := fr_at F₂ H
      dsimp only [kB_e1, kB_e2] at F₂
      replace N₂ : News g' L' h _ := enum_in N₂
      have hap3 := enum_ap (oT := oT) (oe := oe) (oi := oi) hoff apw
      clear F1 N1 N2 H
      have hi : i < its.length := by rw [← hvl]; exact (List.getElem?_eq_some_iff.mp hvi).1
      obtain ⟨a', n', t', r, hat, hmi, hr⟩ := item_fact hall hi hl
      have hva : v = .ref a' := by have := hat.2.2; rw [Int.toNat_natCast, hvi] at this; exact Option.some.inj this
      subst hva
      cases hr with
      | @list ml vms km dms hml hmall =>
      have hTx := mem_tx hmall
      have hmore := moreR_take k al hi
      have okx := ok _ (List.getElem_mem hi)
      have hszx := hsz _ (List.getElem_mem hi)
      generalize its[i] = x0 at hmi hmall hTx hmore okx hszx
      refine asgO3 (o' := tupOf [.int x0.kind t', .ref ml] n') (n' := n') rfl F₂ N₂ (.tail _ (.head _)) hTc hTd (.tail _ (.tail _ (.tail _ (.tail _ (List.mem_append_right _ (hbn _ hmi)))))) rfl rfl (fun h' tk' F3 N3 => ?_) (by rfl) (by rfl) (by rfl) (by rfl)
      clear F₂ N₂
      k_steps
      rename_i kl hh4 F4 N4 lk hh5 F5 N5
      clear F4 N4
      have hg : ∀ m ∈ x0.mem, (∃ c r, m = c :: r) ∧ m.length ≤ 1000 := fun m hm => ⟨mem_good okx m hm, (mem_len okx hszx).2 m hm⟩
      have hgl := (mem_len okx hszx).1
      obtain ⟨R0, hR0⟩ : ∃ R0, R0 = (wl, listOf zs.toArray n2) :: (T, oT) :: (e, oe) :: (itr, oi) :: (objs ++ (L' + 1, o1) :: news) := ⟨_, rfl⟩
      rw [← hR0] at N5
      have hmlR : (ml, listOf vms.toArray km) ∈ R0 := by rw [hR0]; exact .tail _ (.tail _ (.tail _ (.tail _ (List.mem_append_right _ (hbn _ hml)))))
      have hapk : Apart kl R0 := by rw [hR0]; exact ap_kl lk
      have N6 : News g' L' hh5 ((kl, listOf (([] : List Value).toArray) 0) :: R0) := N5
      show wpAny _ _ _ _ _ _
      try k_fold
      refine for_list (h₀ := g') (l := ml) (vs := vms) (nn := km) rfl (KJ k x0 kl ml wl i ti t' t al R0) (fun i m led h => by obtain ⟨_, _, rfl, _⟩ := h; exact .tail _ hmlR) (fun _ => rfl) ?_ ?_ ?_
      · clear N5
        k_steps
        exact ⟨rfl, _, _, _, _, rfl, F5, N6, [], 0, rfl, .nil, Has.cons rfl (Has.cons rfl (Has.cons rfl (Has.cons rfl (Has.cons rfl (Has.cons rfl (Has.cons rfl Has.nil))))))⟩
      · rintro E'' j v m₂ led h tk I2 o2 hvj ⟨ys, n3, rfl, hK, H⟩ F₂ N₂ hne2
        refine letT ?_
        intro R9
        k_fold
        replace F₂ : Fr g' L' h _ := fr_at F₂ H
        dsimp only [kB_e1, kB_e2] at F₂
        replace N₂ : News g' L' h _ := turn_in N₂
        have hapI := turn_ap (o := o2) hne2 hapk
        obtain ⟨x, tx, hxj, rfl⟩ := hTx.get hvj
        obtain ⟨hyl, hyr, hcs⟩ := kept_cases hk3 hxj hg hgl hK
        clear F5 N5 N6 H hall hmall hD hmore hret F N FG' hszx okx hsz ok hK hg
        rcases hcs with ⟨hb, hK'⟩ | ⟨hb, c, r, rfl, hat0, hcs⟩
        · k_steps
          exact turn_fin hne2 (by assumption) (by assumption) ⟨_, _, rfl, hK', Has.cons rfl (Has.cons rfl (Has.cons rfl (Has.cons rfl (Has.cons rfl (Has.cons rfl (Has.cons rfl Has.nil))))))⟩
        · rcases hcs with ⟨rfl, hK'⟩ | ⟨zs', y, z, tz, rfl, hzl, hyy, hcs⟩
          · k_steps
            show wpAny _ _ _ _ _ _
            try k_fold
            refine wpAny_If ?_
            k_steps
            exact turn_fin hne2 (by assumption) (by assumption) ⟨_, _, rfl, hK' _, Has.cons rfl (Has.cons rfl (Has.cons rfl (Has.cons rfl (Has.cons rfl (Has.cons rfl (Has.cons rfl Has.nil))))))⟩
          · rcases hcs with ⟨hz, hK'⟩ | ⟨rfl, hc, hK'⟩ | ⟨rfl, rfl, hK'⟩
            · k_steps
              show wpAny _ _ _ _ _ _
              try k_fold
              refine wpAny_If ?_
              k_steps
              exact turn_fin hne2 (by assumption) (by assumption) ⟨_, _, rfl, hK' _, Has.cons rfl (Has.cons rfl (Has.cons rfl (Has.cons rfl (Has.cons rfl (Has.cons rfl (Has.cons rfl Has.nil))))))⟩
            · k_steps
              show wpAny _ _ _ _ _ _
              try k_fold
              refine wpAny_If ?_
              k_steps
              exact turn_fin hne2 (by assumption) (by assumption) ⟨_, _, rfl, hK' _, Has.cons rfl (Has.cons rfl (Has.cons rfl (Has.cons rfl (Has.cons rfl (Has.cons rfl (Has.cons rfl Has.nil))))))⟩
            · k_steps
              show wpAny _ _ _ _ _ _
              try k_fold
              refine wpAny_If ?_
              k_steps
              exact turn_fin hne2 (by assumption) (by assumption) ⟨_, _, rfl, hK' _ _, Has.cons rfl (Has.cons rfl (Has.cons rfl (Has.cons rfl (Has.cons rfl (Has.cons rfl (Has.cons rfl Has.nil))))))⟩
      · rintro m₂ led h tk ⟨ys, n3, rfl, hK, H⟩ F₂ N₂
        replace F₂ : Fr g' L' h _ := fr_at F₂ H
        dsimp only [kB_e1, kB_e2] at F₂
        replace N₂ : News g' L' h _ := N₂
        clear F5 N5 N6 H
        rw [hTx.len, List.take_length] at hK
        have hyz : ys.length ≤ 100000 := ys_lt_k hk3 hgl hK
        subst hR0
        replace N₂ : News g' L' h ((wl, listOf zs.toArray n2) :: (kl, listOf ys.toArray n3) :: (T, oT) :: (e, oe) :: (itr, oi) :: (objs ++ (L' + 1, o1) :: news)) := turn_in N₂
        obtain ⟨R1, hR1⟩ : ∃ R1, R1 = (T, oT) :: (e, oe) :: (itr, oi) :: (objs ++ (L' + 1, o1) :: news) := ⟨_, rfl⟩
        rw [← hR1] at N₂
        have hcell : (L' + 1, o1) ∈ R1 := by rw [hR1]; exact .tail _ (.tail _ (.tail _ (List.mem_append_right _ (.head _))))
        have hlR : (l, listOf vs.toArray nn) ∈ R1 := by rw [hR1]; exact .tail _ (.tail _ (.tail _ (List.mem_append_right _ (hbn _ hmem))))
        have hnR : ∀ p ∈ news, p ∈ R1 := fun p hp => by rw [hR1]; exact .tail _ (.tail _ (.tail _ (List.mem_append_right _ (hbn _ hp))))
        k_steps
        show wpAny _ _ _ _ _ _
        try k_fold
        have hzs : zs.length ≤ 100000 := mj_len hk3 hl hD
        have hapw2 : Apart wl R1 := by rw [hR1]; exact hap3
        have hapw3 : Apart wl ((kl, listOf ys.toArray n3) :: R1) := ap_cons (Nat.ne_of_lt lk.1) hapw2
        refine cut0 g' L' (IPost its k x0 kl ml wl i ti t' t al ys n3 R1 (objs ++ news) (prevLF its i && askDot k al x0)) (fun Q' hgo => ?ifp) ?after
        case after =>
          rintro m₃ led₃ h₃ tk₃ ⟨zs', n2', new, rfl, hD', hA, H₃⟩ F₃ N₃
          clear F₂ N₂
          replace F₃ : Fr g' L' h₃ _ := fr_at F₃ H₃
          dsimp only [kB_e1, kB_e2, kv] at F₃
          have hzs' := ip_len hk3 hl hD'
          have hapw4 := ip_ap (y := listOf ys.toArray n3) hA lk.1 hapw2
          clear hall hret F N FG' ok hsz hapw2 hapw3 hD hcell hlR hnR
          subst hR1
          rcases tx_empty hK with ⟨rfl, he⟩ | ⟨zs2, z2, rfl, he⟩
          · k_steps
            exact mj_fin hoff hei (by assumption) (Has.cons rfl (Has.cons rfl (Has.cons rfl Has.nil))) (by assumption) (by assumption) hA lk hbn hD' hmore ((more_d okx hK hml hmall).1 rfl) apw hob
          · have hz2 : zs2.length < 16777216 := ys_lt_of hyz
            k_steps
            exact mj_fin hoff hei (by assumption) (Has.cons rfl (Has.cons rfl (Has.cons rfl Has.nil))) (by assumption) (by assumption) hA lk hbn hD' hmore ((more_d okx hK hml hmall).2 _ _ rfl) apw hob
        refine wpAny_If (wpAny_mono (Q := TestEnd g' L' s (kv k x0 kl ml wl i ti t' t al) ((wl, listOf zs.toArray n2) :: (kl, listOf ys.toArray n3) :: R1) (prevLF its i && askDot k al x0)) ?test (fun b s₂ hb => ?rest) fun _ _ e => e)
        case test =>
          have hmc := more_cases (k := k) (al := al) (x0 := x0) hall hi hl ok
          have hac := ask_cases k al x0
          clear hall hmall hD hmore hret F N FG' hszx okx hsz ok hg hR1
          rcases hmc with ⟨hg0, hc⟩ | ⟨a'', prev, hg0, hlat, hpd, hpo, ⟨hplf, hc⟩ | ⟨hplf, hc⟩⟩
          · k_steps
            exact test_end hc (by assumption) (by assumption) (Has.cons rfl (Has.cons rfl (Has.cons rfl (Has.cons rfl (Has.cons rfl (Has.cons rfl (Has.cons rfl Has.nil))))))) (fun _ q => q)
          · k_steps
            exact test_end hc (by assumption) (by assumption) (Has.cons rfl (Has.cons rfl (Has.cons rfl (Has.cons rfl (Has.cons rfl (Has.cons rfl (Has.cons rfl Has.nil))))))) sub2
          · rcases hac with ⟨hk1, ha⟩ | ⟨hk1, hk2, hk3', ha⟩ | ⟨hk1, hk2, hk3', ha⟩ | ⟨hk1, hk2, hk3', ha⟩
            · k_steps
              exact test_end (ha.trans hc) (by assumption) (by assumption) (Has.cons rfl (Has.cons rfl (Has.cons rfl (Has.cons rfl (Has.cons rfl (Has.cons rfl (Has.cons rfl Has.nil))))))) sub2
            · cases al
              · k_steps
                exact test_end (ha.trans hc) (by assumption) (by assumption) (Has.cons rfl (Has.cons rfl (Has.cons rfl (Has.cons rfl (Has.cons rfl (Has.cons rfl (Has.cons rfl Has.nil))))))) sub2
              · k_steps
                exact test_end (ha.trans hc) (by assumption) (by assumption) (Has.cons rfl (Has.cons rfl (Has.cons rfl (Has.cons rfl (Has.cons rfl (Has.cons rfl (Has.cons rfl Has.nil))))))) sub2
            · rcases tx_empty hK with ⟨rfl, he⟩ | ⟨zs', z, rfl, he⟩
              · k_steps
                exact test_end (he.symm.trans (ha.trans hc)) (by assumption) (by assumption) (Has.cons rfl (Has.cons rfl (Has.cons rfl (Has.cons rfl (Has.cons rfl (Has.cons rfl (Has.cons rfl Has.nil))))))) sub2
              · have hzl : zs'.length < 16777216 := ys_lt_of hyz
                k_steps
                exact test_end (he.symm.trans (ha.trans hc)) (by assumption) (by assumption) (Has.cons rfl (Has.cons rfl (Has.cons rfl (Has.cons rfl (Has.cons rfl (Has.cons rfl (Has.cons rfl Has.nil))))))) sub2
            · k_steps
              exact test_end (ha.trans hc) (by assumption) (by assumption) (Has.cons rfl (Has.cons rfl (Has.cons rfl (Has.cons rfl (Has.cons rfl (Has.cons rfl (Has.cons rfl Has.nil))))))) sub2
        case rest =>
          clear F₂ N₂
          obtain ⟨hbc, h6, tk6, m6, rfl, F6, H6, N6⟩ := hb
          replace F6 : Fr g' L' h6 _ := fr_at F6 H6
          dsimp only [kB_e1, kB_e2, kv] at F6
          rw [← hbc] at hgo
          cases b with
          | false =>
            k_steps
            exact hgo _ _ _ _ (ip_false hD (Has.cons rfl (Has.cons rfl (Has.cons rfl (Has.cons rfl (Has.cons rfl (Has.cons rfl (Has.cons rfl Has.nil)))))))) (by assumption) (by assumption)
          | true =>
            k_steps
            exact hgo _ _ _ _ (ip_true hD (Has.cons rfl (Has.cons rfl (Has.cons rfl (Has.cons rfl (Has.cons rfl (Has.cons rfl (Has.cons rfl Has.nil))))))) (by assumption) (by assumption)) (by assumption) (ip_news (by assumption))
    · rintro m₁ led h tk ⟨zs, n2, objs, rfl, hD, apw, hob, H⟩ F₂ N₂
      replace F₂ : Fr g' L' h _ := fr_at F₂ H
      dsimp only [kB_e1, kB_e2] at F₂
      replace N₂ : News g' L' h _ := N₂
      clear F1 N1 N2
      k_steps
      exact hret (.ref wl) ((wl, listOf zs.toArray n2) :: objs) _ _ (by assumption) (mj_done (by assumption) hbn) (nj_own hbn apw hob) (mj_out hvl hale hD)
end
section
open PySem PySem.W PyProof.Rows PySem.Calls PySem.Builtin PySem.Builtin.Str
set_option maxRecDepth 100000
set_option maxHeartbeats 4000000
section
variable {w : World} {f : Addr} {vs : List Value} {Pre : List (Addr × Obj) → Prop} {Out : List (Addr × Obj) → Value → Prop}
    {dp un : Nat} {gd : Option (List Code)} {cn : Str} {cs : Scope} {a : Addr} {ccd : Value} {cl : List (Str × Addr)} {outer : List Env} {A₀ : Around} {base h₀ : Heap} {L : Addr} {m : Str → Option Value}
    {p : Program} {loose : List Str} {mean : ExcName → Option Value} {mg mb : Str → Option Value} {news : List (Addr × Obj)} {s : Shared} {Q E : Value → Shared → Prop}
theorem Spec2.use (C : Spec2 w f vs Pre Out) (B : Below A₀ base outer h₀) (F : Fr h₀ L s.heap m) (X : (Mine.hp.heap_1 w.params).In h₀) (N : News h₀ L s.heap news) (T : Top p loose mean mg mb h₀) (hk : cs.kind = .function)
    (hpre : Pre news) (hd : dp + 10 < recursionLimit) (hu : un + 60 < cLine)
    (ret : ∀ r tl h' tk', Fr h₀ L h' m → News h₀ L h' (news ++ tl) → (∀ q ∈ news, ∀ p ∈ tl, q.1 < p.1) → Out (news ++ tl) r → Q r { s with heap := h', toks := tk' }) :
    wpAny (model PR w) (ktrTop dp un gd cn cs L a ccd cl outer) (call (.ref f) vs) Q E s :=
  C _ _ _ _ _ _ _ _ _ _ _ _ _ _ _ _ _ _ _ _ _ _ _ B F X N T hk hpre hd hu ret
theorem Spec3.use (C : Spec3 w f vs Pre Out) (B : Below A₀ base outer h₀) (F : Fr h₀ L s.heap m) (X : (Mine.hp.heap_1 w.params).In h₀) (N : News h₀ L s.heap news) (T : Top p loose mean mg mb h₀) (hk : cs.kind = .function)
    (hpre : Pre news) (hd : dp + 10 < recursionLimit) (hu : un + 60 < cLine)
    (ret : ∀ r tl h' tk', Fr h₀ L h' m → News h₀ L h' (news ++ tl) → (∀ q ∈ news, ∀ p ∈ tl, p.1 ≠ q.1) → Out (news ++ tl) r → Q r { s with heap := h', toks := tk' }) :
    wpAny (model PR w) (ktrTop dp un gd cn cs L a ccd cl outer) (call (.ref f) vs) Q E s :=
  C _ _ _ _ _ _ _ _ _ _ _ _ _ _ _ _ _ _ _ _ _ _ _ B F X N T hk hpre hd hu ret
theorem Spec4.use (C : Spec4 w f vs Pre Out) (B : Below A₀ base outer h₀) (F : Fr h₀ L s.heap m) (X : (Mine.hp.heap_1 w.params).In h₀) (N : News h₀ L s.heap news) (T : Top p loose mean mg mb h₀) (hk : cs.kind = .function)
    (hpre : Pre news) (hd : dp + 10 < recursionLimit) (hu : un + 200 < cLine)
    (ret : ∀ r tl h' tk', Fr h₀ L h' m → News h₀ L h' (news ++ tl) → (∀ q ∈ news, ∀ p ∈ tl, p.1 ≠ q.1) → Out (news ++ tl) r → Q r { s with heap := h', toks := tk' }) :
    wpAny (model PR w) (ktrTop dp un gd cn cs L a ccd cl outer) (call (.ref f) vs) Q E s :=
  C _ _ _ _ _ _ _ _ _ _ _ _ _ _ _ _ _ _ _ _ _ _ _ B F X N T hk hpre hd hu ret
theorem SpecH.use {rest : List (Addr × Obj)} {ts : Array Value} (C : SpecH w f vs Pre Out) (B : Below A₀ base outer h₀) (F : Fr h₀ L s.heap m) (X : (Mine.hp.heap_1 w.params).In h₀) (N : News h₀ L s.heap ((57, tabObj ts) :: rest)) (T : Top p loose mean mg mb h₀) (hk : cs.kind = .function) (G : AllBare s.gens)
    (hap : ∀ p ∈ rest, p.1 ≠ 57) (htr : TriplesR ts.toList) (hpre : Pre rest) (hd : dp + 30 < recursionLimit) (hu : un + 200 < cLine)
    (ret : ∀ r ts' tl h' tk' gs', AllBare gs' → Fr h₀ L h' m → News h₀ L h' (((57, tabObj ts') :: rest) ++ tl) → TriplesR ts'.toList → (∀ p ∈ tl, p.1 ≠ 57) → (∀ q ∈ rest, ∀ p ∈ tl, q.1 < p.1) → Out (rest ++ tl) r → 0 < tk' → Q r { s with heap := h', toks := tk', gens := gs' }) :
    wpAny (model PR w) (ktrTop dp un gd cn cs L a ccd cl outer) (call (.ref f) vs) Q E s :=
  C _ _ _ _ _ _ _ _ _ _ _ _ _ _ _ _ _ _ _ _ _ _ _ _ B F X N T hk G hap htr hpre hd hu ret
end
section
variable {prog : Program} {w : World} {A : Around} {E : Value → Shared → Prop} {s : Shared} {env : Env} {h₀ : Heap} {L D : Addr} {m : Str → Option Value} {led rest : List (Addr × Obj)} {vs : List Value} {n : Nat}
-- ints
theorem ints_some : ∀ {ws : List Value}, (∀ v ∈ ws, ∃ (k : Int) (t : Tok), v = .int k t) → ∃ zs, IntsAre ws zs
  | [], _ => ⟨[], .nil⟩
  | v :: ws, h => by
    obtain ⟨k, t, rfl⟩ := h v (.head _)
    obtain ⟨zs, hz⟩ := ints_some fun u hu => h u (.tail _ hu)
    exact ⟨k :: zs, .cons k t hz⟩
theorem ints_each {ws : List Value} {zs : List Int} (q : IntsAre ws zs) : ∀ v ∈ ws, ∃ (k : Int) (t : Tok), v = .int k t := by
  induction q with
  | nil => intro v h; cases h
  | cons k t r ih =>
    intro v h
    rcases List.mem_cons.mp h with rfl | h
    · exact ⟨k, t, rfl⟩
    · exact ih v h
theorem pick_ints {xs : List Int} {a b c : Option Int} (h : IntsAre vs xs) : ∃ zs, IntsAre (slicePick vs.toArray a b c).toList zs := by
  refine ints_some fun v hv => ?_
  unfold slicePick at hv
  obtain ⟨i, _, hi⟩ := List.mem_filterMap.mp hv
  exact ints_each h v (List.mem_of_getElem? (by simpa using hi))
theorem sum_pick {l : Addr} {xs : List Int} {a b c : Option Int} {Q : Value → Shared → Prop} (hh : A.handled = none) (F : Fr h₀ L s.heap m) (N : News h₀ L s.heap led) (hl : (l, listOf (slicePick vs.toArray a b c) n) ∈ led) (hI : IntsAre vs xs)
    (h : ∀ h' tk t' z, Fr h₀ L h' m → News h₀ L h' led → Q (.int z t') { s with heap := h', toks := tk }) : wpAny (model prog w) A (call (.builtin "sum") [.ref l]) Q E s := by
  obtain ⟨zs, hz⟩ := pick_ints (a := a) (b := b) (c := c) hI
  exact sumK hh F N ⟨_, (N _ hl).1, rfl, n, rfl⟩ hz fun h' tk t' F' N' => h h' tk t' _ F' N'
theorem sum_led {l : Addr} {xs : List Int} {Q : Value → Shared → Prop} (hh : A.handled = none) (F : Fr h₀ L s.heap m) (N : News h₀ L s.heap led) (hl : (l, listOf vs.toArray n) ∈ led) (hI : IntsAre vs xs)
    (h : ∀ h' tk t' z, Fr h₀ L h' m → News h₀ L h' led → Q (.int z t') { s with heap := h', toks := tk }) : wpAny (model prog w) A (call (.builtin "sum") [.ref l]) Q E s :=
  sumK hh F N ⟨_, (N _ hl).1, rfl, n, rfl⟩ hI fun h' tk t' F' N' => h h' tk t' _ F' N'
theorem mod_nat {a b : Int} {t u : Tok} {Q : Value → Shared → Prop} (hb : 0 < b) (h : ∀ (k : Nat) t' tk, (k : Int) < b → Q (.int (k : Nat) t') { s with toks := tk }) : wpAny (model prog w) A (binaryOp .Mod (.int a t) (.int b u)) Q E s := by
  have h1 : 0 ≤ a.fmod b := Int.fmod_nonneg_of_pos a hb
  have h2 : a.fmod b < b := Int.fmod_lt_of_pos a hb
  have e : a.fmod b = ((a.fmod b).toNat : Int) := (Int.toNat_of_nonneg h1).symm
  exact mod_by (c := ((a.fmod b).toNat : Int)) e (by lia) fun t' tk => h _ t' tk (by rw [← e]; exact h2)
-- lists of pieces
noncomputable def pdat : Option (List Nat) → Dat
  | none => .none
  | some x => .str (S x)
theorem pcs_dat {news : List (Addr × Obj)} {ys : List Value} {ps : List (Option (List Nat))} (h : PcsAre .none ys ps) : DatAll news ys (ps.map pdat) := by
  induction h with
  | nil => exact .nil
  | @cons v p vs ps h r ih =>
    cases p with
    | none => cases (h : _ = Value.none); exact .cons .none ih
    | some x => obtain ⟨t, rfl⟩ := h; exact .cons (.str _ _) ih
theorem str_ok {x : List Nat} (h : ∀ d ∈ x, d < 256 ∧ d ≠ 0) : PyData.strOk (S x) = true := by
  simp only [PyData.strOk, S]
  simp
  intro d hd
  have := h d hd
  lia
theorem ne_pcs {a b : Addr} {xs ys : List Value} {na nb : Nat} {ps : List (Option (List Nat))} {Q : Value → Shared → Prop} (N : News h₀ L s.heap led) (ha : (a, listOf xs.toArray na) ∈ led) (hb : (b, listOf ys.toArray nb) ∈ led) (hx : PcsAre .none xs ps) (hy : PcsAre .none ys ps)
    (hc : ∀ x, some x ∈ ps → ∀ d ∈ x, d < 256 ∧ d ≠ 0) (hu : A.units + 64 < cLine) (h : Q (.bool false) s) : wpAny (model prog w) A (compareOp .NotEq (.ref a) (.ref b)) Q E s := by
  have ok : ∀ d ∈ ps.map pdat, kqdOk 8 d = true := fun d hd => by
    obtain ⟨p, hp, rfl⟩ := List.mem_map.mp hd
    cases p with
    | none => rfl
    | some x => exact str_ok (hc x hp)
  refine kqd_ne N ha rfl rfl (pcs_dat (news := led) hx) (fun _ q => q) hb rfl rfl (pcs_dat (news := led) hy) (fun _ q => q) ok ok hu ?_
  simpa using h
-- texts
theorem ne_same {x : List Nat} {t u : Tok} {Q : Value → Shared → Prop} (h : Q (.bool false) s) : wpAny (model prog w) A (compareOp .NotEq (.str (S x) t) (.str (S x) u)) Q E s := by
  refine PyProof.Rows.ne_str ?_
  simpa using h
theorem eq_same_b {b : Array UInt8} {t u : Tok} {Q : Value → Shared → Prop} (h : Q (.bool true) s) : wpAny (model prog w) A (compareOp .Eq (.bytes b t) (.bytes b u)) Q E s := by
  refine eq_bytes ?_
  simpa using h
end
theorem rp1_skip (X : List Nat) : ∀ (n a : Nat), a + n ≤ X.length → (∀ k, a ≤ k → k < a + n → ¬ (X[k]? = some 13 ∧ X[k + 1]? = some 10)) → rp1 (X.drop a) = (X.drop a).take n ++ rp1 (X.drop (a + n))
  | 0, a, _, _ => by simp
  | n + 1, a, hl, h => by
    have ha : a < X.length := by lia
    have ih := rp1_skip X n (a + 1) (by lia) fun k h1 h2 => h k (by lia) (by lia)
    rw [List.drop_eq_getElem_cons ha, show a + (n + 1) = a + 1 + n by lia, List.take_succ_cons, List.cons_append, ← ih]
    have hn := h a (Nat.le_refl _) (by lia)
    rw [List.getElem?_eq_getElem ha] at hn
    rcases Nat.lt_or_ge (a + 1) X.length with h1 | h1
    · rw [List.getElem?_eq_getElem h1] at hn
      rw [List.drop_eq_getElem_cons h1, rp1_e3, if_neg (by simpa using hn)]
    · rw [List.drop_of_length_le h1]; simp [rp1_e1, rp1_e2, rp1_e3]
theorem at_crlf (X : List Nat) (k : Nat) : StrLaws.At (S X) (S [13, 10]) (S X).length k ↔ (X[k]? = some 13 ∧ X[k + 1]? = some 10) := by
  unfold StrLaws.At
  rw [StrLaws.subAt_eq]
  have e : (S [13, 10]).cps.toList = [13, 10] := rfl
  rw [e, S_toList, S_len]
  show (k + 2 ≤ X.length ∧ ((X.drop k).take 2 == [13, 10]) = true) ↔ _
  constructor
  · rintro ⟨h1, h2⟩
    have h2 := eq_of_beq h2
    have a0 := congrArg (·[0]?) h2
    have a1 := congrArg (·[1]?) h2
    simp at a0 a1
    exact ⟨a0, a1⟩
  · rintro ⟨h1, h2⟩
    have hk : k + 1 < X.length := (List.getElem?_eq_some_iff.mp h2).1
    refine ⟨by lia, ?_⟩
    rw [List.drop_eq_getElem_cons (by lia), List.drop_eq_getElem_cons hk]
    have b0 := (List.getElem?_eq_some_iff.mp h1).2
    have b1 := (List.getElem?_eq_some_iff.mp h2).2
    simp [b0, b1]
theorem rp1_hit {X : List Nat} {c : Nat} (h : X[c]? = some 13 ∧ X[c + 1]? = some 10) : rp1 (X.drop c) = 10 :: rp1 (X.drop (c + 2)) := by
  have hk : c + 1 < X.length := (List.getElem?_eq_some_iff.mp h.2).1
  have b0 := (List.getElem?_eq_some_iff.mp h.1).2
  have b1 := (List.getElem?_eq_some_iff.mp h.2).2
  rw [List.drop_eq_getElem_cons (by lia), List.drop_eq_getElem_cons hk, b0, b1, rp1_e3, if_pos ⟨rfl, rfl⟩]
theorem rp1_parts (X : List Nat) : ∀ (cuts : List Nat) (a f : Nat), StrLaws.ChainG (S X) (S [13, 10]) (S X).length a cuts f → (∀ k, f ≤ k → ¬ StrLaws.At (S X) (S [13, 10]) (S X).length k) → a ≤ X.length →
    Str.join (S [10]) (StrLaws.partsFrom (S X) 2 a cuts) = S (rp1 (X.drop a))
  | [], a, f, h, hn, ha => by
    have e : f = a := h
    subst e
    have := rp1_skip X (X.length - f) f (by lia) fun k h1 h2 => fun q => hn k h1 ((at_crlf X k).mpr q)
    rw [this, show f + (X.length - f) = X.length by lia, List.drop_length]
    show strSub (S X) f (S X).length = _
    apply Str.ext'
    apply Array.toList_inj.mp
    rw [StrLaws.strSub_toList, S_toList, S_len]
    simp [S, rp1_e1, rp1_e2, rp1_e3]
  | c :: r, a, f, h, hn, ha => by
    obtain ⟨h1, h2, h3, h4⟩ := h
    have hc := (at_crlf X c).mp h2
    have hk : c + 1 < X.length := (List.getElem?_eq_some_iff.mp hc.2).1
    have ih := rp1_parts X r (c + 2) f h4 hn (by lia)
    obtain ⟨p, q, e⟩ := StrLaws.partsFrom_ne (S X) 2 (c + 2) r
    have sk := rp1_skip X (c - a) a (by lia) fun k h5 h6 => fun q => h3 k h5 (by lia) ((at_crlf X k).mpr q)
    rw [show a + (c - a) = c by lia] at sk
    rw [sk, rp1_hit hc]
    show Str.join (S [10]) (strSub (S X) a c :: StrLaws.partsFrom (S X) 2 (c + 2) r) = _
    rw [e] at ih ⊢
    show strSub (S X) a c ++ S [10] ++ Str.join (S [10]) (p :: q) = _
    rw [ih]
    have e2 : strSub (S X) a c = S ((X.drop a).take (c - a)) := by
      apply Str.ext'
      apply Array.toList_inj.mp
      rw [StrLaws.strSub_toList, S_toList]; simp [S]
    rw [e2, S_app, S_app, List.append_assoc]; rfl
theorem repl_crlf (X : List Nat) : Txt.replace (S X) (S [13, 10]) (S [10]) = S (rp1 X) := by
  obtain ⟨f, hG, hn⟩ := StrLaws.occ_tight (S X) (S [13, 10]) (by decide)
  have key := rp1_parts X _ 0 f hG hn (Nat.zero_le _)
  unfold Txt.replace
  split
  · next hc =>
    have : occurrences (S X) (S [13, 10]) 0 (S X).length ((S X).length + 1) = [] := by
      rw [show ((S [13, 10]).length == 0) = false from rfl, Bool.false_and, Bool.or_false] at hc
      exact List.isEmpty_iff.mp hc
    rw [this] at key
    rw [List.drop_zero] at key
    rw [← key]
    show S X = strSub (S X) 0 (S X).length
    exact (StrLaws.sub_whole (S X)).symm
  · rw [StrLaws.glued_eq_join, StrLaws.partsBetween_eq]
    rw [List.drop_zero] at key
    exact key
theorem rp2_free {p : List Nat} (h : 13 ∉ p) : rp2 p = p := by
  unfold rp2
  conv => rhs; rw [← List.map_id p]
  apply List.map_congr_left
  intro c hc
  have : c ≠ 13 := fun q => h (q ▸ hc)
  simp [this]
theorem rp2_join : ∀ parts : List (List Nat), (∀ p ∈ parts, 13 ∉ p) → rp2 (joinT [13] parts) = joinT [10] parts
  | [], _ => rfl
  | [p], h => rp2_free (h p (.head _))
  | p :: q :: r, h => by
    have ih := rp2_join (q :: r) fun a ha => h a (.tail _ ha)
    have h1 : rp2 p = p := rp2_free (h p (.head _))
    show rp2 (p ++ [13] ++ joinT [13] (q :: r)) = p ++ [10] ++ joinT [10] (q :: r)
    rw [← ih]
    unfold rp2 at *
    rw [List.map_append, List.map_append, h1]; rfl
theorem repl_cr (X : List Nat) : Txt.replace (S X) (S [13]) (S [10]) = S (rp2 X) := by
  have e0 := StrLaws.replace_one (S X) (S [10]) 13
  rw [show (S [13] : Str) = ⟨#[13]⟩ from rfl, e0]
  have e2 := StrLaws.join_split (S X) (S [13])
  have e3 : Txt.split (S X) (S [13]) = ((Txt.split (S X) (S [13])).map fun p => p.cps.toList).map S := by
    rw [List.map_map]
    conv => lhs; rw [← List.map_id (Txt.split (S X) (S [13]))]
    apply List.map_congr_left
    intro p _
    exact str_S p
  rw [show (⟨#[13]⟩ : Str) = S [13] from rfl]
  rw [e3, joinT_S] at e2
  rw [e3, joinT_S]
  have e4 := S_inj e2
  rw [← rp2_join, e4]
  intro p hp
  obtain ⟨q, hq, rfl⟩ := List.mem_map.mp hp
  exact StrLaws.split_free (S X) 13 q hq
section
variable {prog : Program} {w : World} {A : Around} {E : Value → Shared → Prop} {s : Shared} {env : Env} {h₀ : Heap} {L D : Addr} {m : Str → Option Value} {led rest : List (Addr × Obj)} {vs : List Value} {n : Nat}
theorem repl_any {x y z : List Nat} {t u v : Tok} {Q : Value → Shared → Prop} (hu : 0 < u) (hv : 0 < v) (huv : u ≠ v) (hyz : y ≠ z) (hx : x.length ≤ 100000) (hz : z.length ≤ 1) (h0 : 0 < s.toks)
    (h : ∀ t' k, 0 < k → Q (.str (Txt.replace (S x) (S y) (S z)) t') { s with toks := k }) : wpAny (model prog w) A (call (.builtin "str.replace") [.str (S x) t, .str (S y) u, .str (S z) v]) Q E s := by
  have hyz' : (S y == S z) = false := beq_eq_false_iff_ne.mpr fun q => hyz (S_inj q)
  have hb : (S x).length + ((S x).length + 1) * (S z).length ≤ 16777216 := by
    rw [S_len, S_len]
    have : (x.length + 1) * z.length ≤ (x.length + 1) * 1 := Nat.mul_le_mul_left _ hz
    lia
  have hl : tooLong ((S x).length + (occurrences (S x) (S y) 0 (S x).length ((S x).length + 1)).length * (S z).length) = false := by
    have h1 := StrLaws.occ_length_le (S x) (S y) 0 (S x).length ((S x).length + 1)
    have h2 : (occurrences (S x) (S y) 0 (S x).length ((S x).length + 1)).length * (S z).length ≤ ((S x).length + 1) * (S z).length := Nat.mul_le_mul_right _ h1
    unfold tooLong sizeLine
    exact decide_eq_false (by lia)
  refine call_gives PySem.F.slot_str_replace (typeIs_str _ _ _) PySem.F.entry_str_replace (PySem.F.args_str_replace_3 _ _ _)
    (gives_str_replace (S x) (S y) (S z) t u v fun _ => ⟨by simp [Nat.ne_of_gt hu, Nat.ne_of_gt hv], by simp [huv], hyz', hl⟩) ?_
  have hq' := h
  unfold Txt.replace at hq'
  cases hc : ((occurrences (S x) (S y) 0 (S x).length ((S x).length + 1)).isEmpty || ((S y).length == 0 && (S z).length == 0))
  · rw [hc] at hq'
    simp only [Bool.false_eq_true, if_false] at hq' ⊢
    exact ⟨fits_replaced (S y) hb, hq' _ _ (Nat.succ_pos _)⟩
  · rw [hc] at hq'
    simp only [if_true] at hq' ⊢
    exact hq' t s.toks h0
theorem repl1 {x : List Nat} {t u v : Tok} {Q : Value → Shared → Prop} (hu : 0 < u) (hv : 0 < v) (huv : u ≠ v) (hx : x.length ≤ 100000) (h0 : 0 < s.toks)
    (h : ∀ t' k, 0 < k → Q (.str (S (rp1 x)) t') { s with toks := k }) : wpAny (model prog w) A (call (.builtin "str.replace") [.str (S x) t, .str (S [13, 10]) u, .str (S [10]) v]) Q E s :=
  repl_any hu hv huv (by decide) hx (by decide) h0 fun t' k hk => by rw [repl_crlf]; exact h t' k hk
theorem repl2 {x : List Nat} {t u v : Tok} {Q : Value → Shared → Prop} (hu : 0 < u) (hv : 0 < v) (huv : u ≠ v) (hx : x.length ≤ 100000) (h0 : 0 < s.toks)
    (h : ∀ t' k, 0 < k → Q (.str (S (rp2 x)) t') { s with toks := k }) : wpAny (model prog w) A (call (.builtin "str.replace") [.str (S x) t, .str (S [13]) u, .str (S [10]) v]) Q E s :=
  repl_any hu hv huv (by decide) hx (by decide) h0 fun t' k hk => by rw [repl_cr]; exact h t' k hk
theorem split_rows {x : List Nat} {t u : Tok} {Q : Value → Shared → Prop} (F : Fr h₀ L s.heap m) (N : News h₀ L s.heap led) (hsz : (rp2 (rp1 x)).length ≤ 100000)
    (h : ∀ D vs n h' k, TxAre vs (rowsOf x) → Fr h₀ L h' m → News h₀ L h' ((D, listOf vs.toArray n) :: led) → (∀ p ∈ led, p.1 < D) → Q (.ref D) { s with heap := h', toks := k }) :
    wpAny (model prog w) A (call (.builtin "str.split") [.str (S (rp2 (rp1 x))) t, .str (S [10]) u]) Q E s :=
  split_S F N hsz (rowsOf x) (rowsOf_ne x) (rp_rows x) (fun t ht => (rows_free x t ht).1) h
theorem join_rows {l : Addr} {ts : List (List Nat)} {t : Tok} {Q : Value → Shared → Prop} (N : News h₀ L s.heap led) (hl : (l, listOf vs.toArray n) ∈ led) (hd : TxAre vs ts) (hsz : ts.flatten.length ≤ 100000) (hsz2 : ts.length ≤ 100000)
    (h : ∀ t' k, Q (.str (S (joinT [13, 10] ts)) t') { s with toks := k }) : wpAny (model prog w) A (call (.builtin "str.join") [.str (S [13, 10]) t, .ref l]) Q E s :=
  join_S N hl (tx_dat (news := led) hd) (by simp only [List.length_cons, List.length_nil]; lia) h
/-- `'.' * k` -/
theorem mul_dot {x : Int} {k : Nat} {t u : Tok} {Q : Value → Shared → Prop} (hx : x = (k : Nat)) (h0 : 0 < k) (hk : k ≤ 3) (h : ∀ t' tk, Q (.str (S (List.replicate k 46)) t') { s with toks := tk }) : wpAny (model prog w) A (binaryOp .Mult (.str (S [46]) t) (.int x u)) Q E s := by
  subst hx
  refine SB.mul (mulOk_of 16 1048576 (by rw [S_len]; simp) (by lia) (by lia) (by decide) (by decide)) fun t' tk => ?_
  have e : Txt.mul (S [46]) ((k : Nat) : Int) = S (List.replicate k 46) := by
    rcases k with _ | _ | _ | _ | k
    · lia
    · rfl
    · rfl
    · rfl
    · lia
  rw [e]; exact h t' tk
end
theorem datIn_keep {news news' : List (Addr × Obj)} (hs : ∀ p ∈ news, ∀ vs n, p.2.data = .seq vs n → p ∈ news') {v : Value} {d : Dat} (h : DatIn news v d) : DatIn news' v d :=
  DatIn.rec (motive_1 := fun v d _ => DatIn news' v d) (motive_2 := fun vs ds _ => DatAll news' vs ds) .none (fun b => .bool b) (fun i t => .int i t) (fun x t => .str x t) (fun b t => .bytes b t)
    (fun h _ ih => .tuple (hs _ h _ _ rfl) ih) (fun h _ ih => .list (hs _ h _ _ rfl) ih) .nil (fun _ _ i1 i2 => .cons i1 i2) h
-- a loop over a range upwards
section
variable {prog : Program} {w : World} {A : Around} {E : Value → Shared → Prop} {s : Shared} {env : Env} {h₀ : Heap} {L : Addr} {m : Str → Option Value} {led : List (Addr × Obj)}
inductive URead (h₀ : Heap) (L : Addr) (s : Shared) (n : Nat) (J : (Str → Option Value) → List (Addr × Obj) → Prop) (v : Value) (s₁ : Shared) : Prop
  | mk (r t u v' h tk m led : _) (h1 : v = .ref r) (h2 : s₁ = { s with heap := h, toks := tk }) (h3 : Fr h₀ L h m) (h4 : News h₀ L h led) (h5 : IsRange h r 0 (n : Int) 1 t u v') (h6 : J m led) : URead h₀ L s n J v s₁
theorem uread {r : Addr} {n : Nat} {t u v : Tok} {h : Heap} {tk : Nat} {J : (Str → Option Value) → List (Addr × Obj) → Prop} (F : Fr h₀ L h m) (N : News h₀ L h ((r, rngObj 0 (n : Int) 1 t u v) :: led)) (hJ : J m led) : URead h₀ L s n J (.ref r) { s with heap := h, toks := tk } :=
  ⟨r, t, u, v, h, tk, m, led, rfl, rfl, F, fun p hp => N p (.tail _ hp), (N _ (.head _)).1, hJ⟩
inductive ForU (h₀ : Heap) (L : Addr) (s : Shared) (I : Addr) (n : Nat) (J : Nat → (Str → Option Value) → List (Addr × Obj) → Prop) (k : Nat) (s' : Shared) : Prop
  | mk (i : Nat) (h' tk' m' led' : _) (h1 : k = n + 1 - i) (h2 : i ≤ n) (h3 : s' = { s with heap := h', toks := tk' }) (h4 : IsRangeIter h' I (0 + (i : Int)) ((n : Int) - (i : Int)) 1) (h5 : Fr h₀ L h' m') (h6 : News h₀ L h' led') (h7 : ∀ p ∈ led', p.1 ≠ I) (h8 : J i m' led') : ForU h₀ L s I n J k s'
theorem for_up {target iter : PySem.Expr} {body : List Stmt} {pos : Pos} {Q : Flow → Shared → Prop} {n : Nat} (hn : n ≤ 100000) (hh : A.handled = none)
    (J : Nat → (Str → Option Value) → List (Addr × Obj) → Prop)
    (hs : ∀ x, foldedSetIterable iter env x = pure x)
    (ev : wpAny (model prog w) A (eval iter env) (URead h₀ env.locals s n (J 0)) E s)
    (turn : ∀ E' i t m led h tk I o, i < n → J i m led → Fr h₀ env.locals h m → News h₀ env.locals h ((I, o) :: led) → (∀ p ∈ led, p.1 ≠ I) →
      wpAny (model prog w) A (assign target env (.int (i : Nat) t)) (fun _ s₂ => wpAny (model prog w) A (execs body env) (TurnEnd h₀ env.locals s Q (J (i + 1)) [(I, o)]) E' s₂) E' { s with heap := h, toks := tk })
    (done : ∀ m led h tk, J n m led → Fr h₀ env.locals h m → News h₀ env.locals h led → Q .next { s with heap := h, toks := tk }) :
    wpAny (model prog w) A (exec (.For target iter body [] pos) env) Q E s := by
  refine wpAny_For (wpAny_mono ev (fun v s₁ h₁ => ?_) fun _ _ e => e) hs
  obtain ⟨r, t, u, v', h, tk, m, led, rfl, rfl, F, N, hr, hJ⟩ := h₁
  refine wpAny_pyIter_range hr (small_up hn) ?_
  rw [rsize_up]
  have hnew : h₀.get? h.objs.size = none := by
    cases q : h₀.get? h.objs.size with
    | none => rfl
    | some o' => exact absurd (Heap.lt_size (F.keep _ _ q)) (Nat.lt_irrefl _)
  have hIL : h.objs.size ≠ env.locals := Nat.ne_of_gt F.ns.lt
  generalize hI : h.objs.size = I at *
  refine codeAny_forLoop_any (fun k s' => ForU h₀ env.locals s I n J k s')
    ?_ (n + 1) ⟨0, h.push _, tk, m, led, rfl, Nat.zero_le _, rfl, by rw [← hI]; simpa using Heap.get?_push_size _ rfl, F.push _, fun p hp => ⟨Heap.get?_push_of_some _ (N p hp).1, (N p hp).2⟩, fun p hp e => ?_, hJ⟩
  · rintro k s' ⟨i, h', tk', m', led', rfl, hi, rfl, hit, F', N', hne, hJ'⟩
    rcases Nat.lt_or_ge i n with hlt | hge
    · refine wpAny_pyNext_range_item hit (by lia) fun h₂ hit₂ hsb => ?_
      have key : ∀ b, b ≠ I → h₂.get? b = h'.get? b := fun b hb => hsb.2 b hb
      have F₂ : Fr h₀ env.locals h₂ m' := by
        obtain ⟨oL, es, ep, hL, r⟩ := F'.ns
        exact ⟨⟨oL, es, ep, (key _ (Ne.symm hIL)).trans hL, r⟩, fun b o e => (key b (fun q => by rw [q, hnew] at e; cases e)).trans (F'.keep b o e), F'.above⟩
      refine letOwned_range hit₂ ?_
      have N₂ : News h₀ env.locals h₂ ((I, itObj (0 + (i : Int) + 1) ((n : Int) - (i : Int) - 1) 1) :: led') := by
        intro p hp
        rcases List.mem_cons.mp hp with rfl | hp
        · exact ⟨hit₂, hIL, hnew⟩
        · exact ⟨(key _ (hne p hp)).trans (N' p hp).1, (N' p hp).2⟩
      rw [Int.zero_add]
      refine wpAny_mono (turn (notedBy (model prog w) A env fun e s' => _) i _ m' led' h₂ _ I (itObj (0 + (i : Int) + 1) ((n : Int) - (i : Int) - 1) 1) hlt hJ' F₂ N₂ hne) (fun _ s₂ h₂ => wpAny_mono h₂ (fun f s₃ h₃ => ?_) fun _ _ e => e) fun _ _ e => e
      have fin : TurnNx h₀ env.locals s (J (i + 1)) [(I, itObj (0 + (i : Int) + 1) ((n : Int) - (i : Int) - 1) 1)] s₃ →
          ∃ k', k' < n + 1 - i ∧ ForU h₀ env.locals s I n J k' s₃ := by
        rintro ⟨h₄, tk₄, m₄, led₄, rfl, F₄, N₄, ne₄, J₄⟩
        refine ⟨n + 1 - (i + 1), by lia, i + 1, h₄, tk₄, m₄, led₄, rfl, hlt, rfl, ?_, F₄, fun p hp => N₄ p (.tail _ hp), fun p hp => ne₄ _ (.head _) p hp, J₄⟩
        have := (N₄ (I, itObj (0 + (i : Int) + 1) ((n : Int) - (i : Int) - 1) 1) (.head _)).1
        show h₄.get? I = _
        rw [this]
        rw [show 0 + (i : Int) + 1 = 0 + ((i + 1 : Nat) : Int) by lia, show (n : Int) - (i : Int) - 1 = (n : Int) - ((i + 1 : Nat) : Int) by lia]
      cases f with
      | ret v => exact h₃
      | brk => exact h₃
      | next => exact fin h₃
      | cont => exact fin h₃
    · have hin : i = n := Nat.le_antisymm hi hge
      subst hin
      refine wpAny_pyNext_range_end hh hit (by lia) fun h₂ hk => wpAny_execs_nil ?_
      have key : ∀ b, b ≠ I → ∀ o, h'.get? b = some o → h₂.get? b = some o := fun b hb o e => hk b o hb e
      obtain ⟨oL, es, ep, hL, r⟩ := F'.ns
      exact done m' led' h₂ tk' hJ' ⟨⟨oL, es, ep, key _ (Ne.symm hIL) _ hL, r⟩, fun b o e => key b (fun q => by rw [q, hnew] at e; cases e) o (F'.keep b o e), F'.above⟩
        fun p hp => ⟨key _ (hne p hp) _ (N' p hp).1, (N' p hp).2⟩
  · have := Heap.lt_size (N p hp).1
    rw [e, hI] at this
    exact Nat.lt_irrefl _ this
end
-- sizes of the law's items
theorem item_text (n : Nat) : (itemOf n).text.length ≤ 15 := by
  have hb : ∀ (neg : Bool) (q : Nat), (It.br neg (memsOf q)).text.length ≤ 15 := fun neg q => by
    have h1 : (memsOf q).length ≤ 4 := by unfold memsOf; rw [List.length_map, List.length_range]; have := Nat.mod_lt q (by decide : 0 < 4); lia
    have h2 : ∀ x ∈ memsOf q, x.length ≤ 3 := fun x hx => mtab_len x ((mems_ok q).2 x hx)
    have h3 : ∀ (l : List (List Nat)), (∀ x ∈ l, x.length ≤ 3) → l.flatten.length ≤ 3 * l.length := by
      intro l
      induction l with
      | nil => intro _; simp
      | cons x r ih =>
        intro h
        have a := h x (.head _)
        have b := ih fun y hy => h y (.tail _ hy)
        rw [List.flatten_cons, List.length_append, List.length_cons]; lia
    have h4 := h3 _ h2
    rw [br_text]
    have h5 : (nb neg).length ≤ 1 := by cases neg <;> simp [nb_e1, nb_e2]
    simp only [List.length_append, List.length_cons, List.length_nil]
    lia
  rcases kind_cases n with ⟨_, e⟩ | ⟨_, e⟩ | ⟨_, e⟩ | ⟨_, e⟩ | ⟨_, e⟩ | ⟨_, e⟩ | ⟨_, e⟩ <;> rw [e] <;> first | exact hb _ _ | exact Nat.le_of_ble_eq_true rfl
theorem pat_len : ∀ {its : List It} {b : Nat}, (∀ it ∈ its, it.text.length ≤ b) → (patText its).length ≤ b * its.length
  | [], _, _ => by simp [patText]
  | it :: r, b, h => by
    have a := h it (.head _)
    have c := pat_len (its := r) fun x hx => h x (.tail _ hx)
    have e : (patText (it :: r)).length = it.text.length + (patText r).length := by simp [patText]
    rw [e, List.length_cons, Nat.mul_add]; lia
theorem more_text {k : Nat} (hk : k ≤ 3) {it : It} (ok : it.Ok) (h : it.text.length ≤ 15) (hm : it.mem.length ≤ 4) : (it.more k).text.length ≤ 51 := by
  cases it with
  | br neg ms =>
    show (It.br neg (if keptM k ms = [] then ms else keptM k ms)).text.length ≤ 51
    split
    · lia
    · have h1 := keptM_len k ms
      have h2 : (k + 1) * ms.length ≤ 4 * 4 := Nat.mul_le_mul (by lia) hm
      have h3 : ∀ (l : List (List Nat)), (∀ x ∈ l, x.length ≤ 3) → l.flatten.length ≤ 3 * l.length := by
        intro l
        induction l with
        | nil => intro _; simp
        | cons x r ih =>
          intro h
          have a := h x (.head _)
          have b := ih fun y hy => h y (.tail _ hy)
          rw [List.flatten_cons, List.length_append, List.length_cons]; lia
      have h4 := h3 _ fun x hx => mtab_len x (keptM_mem k ok.2 x hx).1
      rw [br_text]
      have h5 : (nb neg).length ≤ 1 := by cases neg <;> simp [nb_e1, nb_e2]
      simp only [List.length_append, List.length_cons, List.length_nil]
      lia
  | _ => exact Nat.le_trans h (by decide)
theorem moreR_text {k : Nat} (hk : k ≤ 3) (al : Bool) : ∀ (its : List It) (b : Bool), (∀ it ∈ its, it.Ok ∧ it.text.length ≤ 15 ∧ it.mem.length ≤ 4) → ∀ it ∈ moreR k al b its, it.text.length ≤ 51
  | [], _, _, it, h => nomatch h
  | i :: r, b, hok, it, h => by
    rw [moreR_e2] at h
    rcases List.mem_append.mp h with h | h
    · split at h
      · rw [(List.mem_replicate.mp h).2]; decide
      · cases h
    · rcases List.mem_cons.mp h with rfl | h
      · have := hok _ (.head _)
        exact more_text hk this.1 this.2.1 this.2.2
      · exact moreR_text hk al r _ (fun x hx => hok x (.tail _ hx)) it h
theorem item_mem (n : Nat) : (itemOf n).mem.length ≤ 4 := by
  have h1 : ∀ q, (memsOf q).length ≤ 4 := fun q => by unfold memsOf; rw [List.length_map, List.length_range]; have := Nat.mod_lt q (by decide : 0 < 4); lia
  rcases kind_cases n with ⟨_, e⟩ | ⟨_, e⟩ | ⟨_, e⟩ | ⟨_, e⟩ | ⟨_, e⟩ | ⟨_, e⟩ | ⟨_, e⟩ <;> rw [e] <;> first | exact h1 _ | exact Nat.le_of_ble_eq_true rfl
end
section
theorem LocL1.hereL1 : True := trivial
open LocL1
open PySem PySem.W PyProof.Rows PySem.Calls
set_option maxRecDepth 100000
set_option maxHeartbeats 8000000
example : True := by
  k_with "execs cons" =>
    (fail_if_success (fail_if_success (have := hereL1)))
    ((k_here; refine Mine.consL ?_; intro _))
  trivial
example : True := by
  k_with "k_mem" =>
    (fail_if_success (fail_if_success (have := hereL1)))
    (assumption)
  trivial
example : True := by
  k_with "eval ListComp" =>
    (fail_if_success (fail_if_success (have := hereL1)))
    ((refine halt ?_))
  trivial
example : True := by
  k_with "call ref" =>
    (fail_if_success (fail_if_success (have := hereL1)))
    ((refine halt ?_))
  trivial
example : True := by
  k_with "call type:range" =>
    (fail_if_success (fail_if_success (have := hereL1)))
    ((refine halt ?_))
  trivial
example : True := by
  k_with "exec For Name Call cons nil" =>
    (fail_if_success (fail_if_success (have := hereL1)))
    ((refine halt ?_))
  trivial
example : True := by
  k_with "eval Name" =>
    (fail_if_success (fail_if_success (have := hereL1)))
    ((k_here; k_dflt (first
        | (refine' nameX_L ?F9161 ?v9161 ?_ ?a9161 ?b9161; (case F9161 => k_asm); (case a9161 => rfl); (case b9161 => rfl); (case v9161 => exact Eq.refl (some _)); k_whole)
        | (refine' nameX_C ?N9161 ?c9161 ?m9161 ?d9161 ?_ ?a9161 ?b9161; (case a9161 => rfl); (case b9161 => rfl); (case N9161 => k_asm); (case c9161 => rfl); (case m9161 => k_mem); (case d9161 => assumption); k_whole)
        | (refine' nameX_K ?F9161 ?X9161 ?T9161 ?e9161 ?_ ?a9161 ?b9161; (case F9161 => k_asm); (case X9161 => k_asm); (case T9161 => k_asm); (case a9161 => rfl); (case b9161 => rfl); (case e9161 => k_is); k_whole)
        | (refine' nameX_B ?F9161 ?X9161 ?T9161 ?e9161 ?v9161 ?n9161 ?_ ?a9161 ?b9161; (case F9161 => k_asm); (case X9161 => k_asm); (case T9161 => k_asm); (case a9161 => rfl); (case b9161 => rfl); (case e9161 => k_is); (case v9161 => boot_fast); (case n9161 => decide); k_whole))))
  trivial
example : True := by
  k_with "eval Name" =>
    (fail_if_success (fail_if_success (have := hereL1)))
    ((k_here; (with_reducible show wpAny _ _ (eval (Expr.Name _ _) (compEnvC _ _ _ _)) _ _ _); k_dflt (first
        | refine LCgL.ld_own (by k_asm) (by k_mem) (by assumption) (by assumption) ?_
        | (refine' lcf_cell ?N9162 ?c9162 ?m9162 ?d9162 ?_ ?a9162 ?b9162; (case a9162 => rfl); (case b9162 => rfl); (case N9162 => k_asm); (case c9162 => rfl); (case m9162 => (repeat (first | assumption | exact List.Mem.head _ | apply List.mem_append_right | apply List.mem_cons_of_mem))); (case d9162 => assumption); k_whole))))
  trivial
example : True := by
  k_with "call builtin:sum" =>
    (fail_if_success (fail_if_success (have := hereL1)))
    ((k_here; refine' Mine.sum_pick ?mh9163 ?m19163 ?m29163 ?m39163 ?m49163 ?_; (case mh9163 => exact rfl); (case m19163 => k_asm); (case m29163 => k_asm); (case m39163 => exact List.Mem.head _); (case m49163 => with_reducible assumption); intro _ _ _ _ _ _))
  trivial
example : True := by
  k_with "call builtin:sum" =>
    (fail_if_success (fail_if_success (have := hereL1)))
    ((k_here; refine' Mine.sum_led ?mh9164 ?m19164 ?m29164 ?m39164 ?m49164 ?_; (case mh9164 => exact rfl); (case m19164 => k_asm); (case m29164 => k_asm); (case m39164 => k_dflt k_mem); (case m49164 => with_reducible assumption); intro _ _ _ _ _ _))
  trivial
example : True := by
  k_with "binaryOp Mod int int" =>
    (fail_if_success (fail_if_success (have := hereL1)))
    ((refine' Mine.mod_nat ?m19165 ?_; (case m19165 => decide); intro _ _ _ _))
  trivial
example : True := by
  k_with "truthy ref" =>
    (fail_if_success (fail_if_success (have := hereL1)))
    ((k_here; refine' Mine.truthy_nil ?mtnN9166 ?mtnl9166 ?_; (case mtnN9166 => k_asm); (case mtnl9166 => k_dflt k_mem); intro _))
  trivial
example : True := by
  k_with "truthy ref" =>
    (fail_if_success (fail_if_success (have := hereL1)))
    ((k_here; refine' Mine.truthy_snoc ?mtnN9167 ?mtnl9167 ?mtnz9167 ?_; (case mtnN9167 => k_asm); (case mtnl9167 => k_dflt k_mem); (case mtnz9167 => assumption); intro _))
  trivial
example : True := by
  k_with "k_updF" =>
    (fail_if_success (fail_if_success (have := hereL1)))
    (first
        | exact UpdF.head (by assumption)
        | (refine' UpdF.tail ?ua9168 ?ub9168; (case ua9168 => first | assumption | (refine neN ?_; (try dsimp only); omega)); (case ub9168 => k_updF)))
  trivial
inductive NumP (L0 : Addr) (o1 o2 : Obj) (m : Str → Option Value) (led : List (Addr × Obj)) : Prop
  | mk (l ys n2 : _) (ns : List Nat) (h1 : led = (l, listOf ys.toArray n2) :: (L0 + 1 + 1, o1) :: (L0 + 1, o2) :: (57, tabObj #[]) :: []) (h2 : IntsAre ys (ns.map fun n => ((n : Nat) : Int))) (h3 : ns.length ≤ 8) (h4 : Apart l [(L0 + 1 + 1, o1), (L0 + 1, o2), (57, tabObj #[])]) (h5 : Has m [("numbers", .ref l)]) : NumP L0 o1 o2 m led
theorem ints_snoc {ys : List Value} {ns : List Nat} {k : Nat} {t : Tok} (h : IntsAre ys (ns.map fun n => ((n : Nat) : Int))) : IntsAre (ys ++ [.int (k : Nat) t]) ((ns ++ [k]).map fun n => ((n : Nat) : Int)) := by
  rw [List.map_append]
  generalize (ns.map fun n => ((n : Nat) : Int)) = zs at h
  induction h with
  | nil => exact .cons _ _ .nil
  | cons n u _ ih => exact .cons n u ih
theorem num_ap {D l L0 : Addr} {o1 o2 : Obj} (h : D < l ∧ L0 + 1 + 1 < l ∧ L0 + 1 < l ∧ 57 < l) : Apart l [(L0 + 1 + 1, o1), (L0 + 1, o2), (57, tabObj #[])] := fun p hp => by
  rcases List.mem_cons.mp hp with rfl | hp
  · exact Nat.ne_of_lt h.2.1
  · rcases List.mem_cons.mp hp with rfl | hp
    · exact Nat.ne_of_lt h.2.2.1
    · rw [List.mem_singleton.mp hp]; exact Nat.ne_of_lt h.2.2.2
theorem num_news {h₀ h : Heap} {L a b : Addr} {x y : Obj} {r : List (Addr × Obj)} (N : News h₀ L h ((a, x) :: (b, y) :: r)) : News h₀ L h ((a, x) :: r) := news_sub N fun p hp => by
  rcases List.mem_cons.mp hp with rfl | hp
  · exact .head _
  · exact .tail _ (.tail _ hp)
structure ItsOk (its : List It) : Prop where
  ok : ∀ it ∈ its, it.Ok
  len : its.length ≤ 8
  text : ∀ it ∈ its, it.text.length ≤ 15
  mem : ∀ it ∈ its, it.mem.length ≤ 4
theorem its_facts {its : List It} {ns : List Nat} (h : its = ns.map itemOf) (h8 : ns.length ≤ 8) : ItsOk its := by
  subst h
  refine ⟨fun it hi => ?_, by rwa [List.length_map], fun it hi => ?_, fun it hi => ?_⟩
  all_goals obtain ⟨n, _, rfl⟩ := List.mem_map.mp hi
  · exact item_ok n
  · exact item_text n
  · exact item_mem n
theorem ne57b {L0 : Nat} (h : 57 < L0) : (57 ≠ L0 + 1 + 1) ∧ (L0 + 1 ≠ L0 + 1 + 1) ∧ (L0 + 1 + 1 ≠ 57) ∧ (L0 + 1 ≠ 57) := by lia
theorem after_items {h₀ h : Heap} {L l L0 : Addr} {x o1 o2 : Obj} {tl : List (Addr × Obj)} {v : Value} {d : Dat} (d1 : o1.data = .cell none) (N : News h₀ L h ([(l, x), (L0 + 1 + 1, o1), (L0 + 1, o2), (57, tabObj #[])] ++ tl)) (hap : ∀ q ∈ [(l, x), (L0 + 1 + 1, o1), (L0 + 1, o2), (57, tabObj #[])], ∀ p ∈ tl, p.1 ≠ q.1)
    (hl : Apart l [(L0 + 1 + 1, o1), (L0 + 1, o2), (57, tabObj #[])]) (hd : DatIn ([(l, x), (L0 + 1 + 1, o1), (L0 + 1, o2), (57, tabObj #[])] ++ tl) v d) :
    DatIn ((l, x) :: (L0 + 1, o2) :: tl) v d ∧ News h₀ L h ((L0 + 1 + 1, o1) :: (57, tabObj #[]) :: (l, x) :: (L0 + 1, o2) :: tl) ∧ (57 < L0 → Apart (L0 + 1 + 1) ((57, tabObj #[]) :: (l, x) :: (L0 + 1, o2) :: tl) ∧ ∀ p ∈ (L0 + 1 + 1, o1) :: (l, x) :: (L0 + 1, o2) :: tl, p.1 ≠ 57) := by
  refine ⟨datIn_keep (fun p hp vs n e => ?_) hd, fun p hp => ?_, fun h57 => ⟨fun p hp => ?_, fun p hp => ?_⟩⟩
  · rcases List.mem_append.mp hp with hp | hp
    · simp only [List.mem_cons, List.not_mem_nil, or_false] at hp
      rcases hp with rfl | rfl | rfl | rfl
      · exact .head _
      · rw [d1] at e; cases e
      · exact .tail _ (.head _)
      · cases e
    · exact .tail _ (.tail _ hp)
  · rcases List.mem_cons.mp hp with rfl | hp
    · exact N _ (.tail _ (.head _))
    · rcases List.mem_cons.mp hp with rfl | hp
      · exact N _ (.tail _ (.tail _ (.tail _ (.head _))))
      · rcases List.mem_cons.mp hp with rfl | hp
        · exact N _ (.head _)
        · rcases List.mem_cons.mp hp with rfl | hp
          · exact N _ (.tail _ (.tail _ (.head _)))
          · exact N _ (List.mem_append_right _ hp)
  · rcases List.mem_cons.mp hp with rfl | hp
    · exact (ne57b h57).1
    · rcases List.mem_cons.mp hp with rfl | hp
      · exact (hl _ (.head _)).symm
      · rcases List.mem_cons.mp hp with rfl | hp
        · exact (ne57b h57).2.1
        · exact hap _ (.tail _ (.head _)) p hp
  · rcases List.mem_cons.mp hp with rfl | hp
    · exact (ne57b h57).2.2.1
    · rcases List.mem_cons.mp hp with rfl | hp
      · exact (hl _ (.tail _ (.tail _ (.head _)))).symm
      · rcases List.mem_cons.mp hp with rfl | hp
        · exact (ne57b h57).2.2.2
        · exact hap _ (.tail _ (.tail _ (.tail _ (.head _)))) p hp
theorem k_fact {k : Nat} (h : (k : Int) < 3) : ∃ K : Nat, 0 < K ∧ K ≤ 3 ∧ (1 + (k : Int)) = (K : Int) := ⟨1 + k, by lia, by lia, by lia⟩
theorem ap_first {c : Addr} {o o' : Obj} {r : List (Addr × Obj)} (h : ∀ p ∈ (c, o) :: r, p.1 ≠ 57) : ∀ p ∈ (c, o') :: r, p.1 ≠ 57 := fun p hp => by
  rcases List.mem_cons.mp hp with rfl | hp
  · exact h (c, o) (.head _)
  · exact h p (.tail _ hp)
theorem pat_small {its : List It} (h : ItsOk its) : (patText its).length ≤ 1000 ∧ its.length ≤ 100 ∧ (patText its).length + 6 * its.length ≤ 200 := by
  have h1 := pat_len h.text
  have h2 := h.len
  lia
theorem mem_tab {l : Addr} {vs : List Value} {n : Nat} {ts : Array Value} {R : List (Addr × Obj)} (h : (l, listOf vs.toArray n) ∈ (57, tabObj ts) :: R) : (l, listOf vs.toArray n) ∈ R := by
  rcases List.mem_cons.mp h with q | q
  · cases congrArg (fun p => p.2.cls) q
  · exact q
theorem grow {l : Addr} {vs : List Value} {n : Nat} {ts : Array Value} {R tl : List (Addr × Obj)} (hap : ∀ p ∈ R, p.1 ≠ 57) (ho : ∀ q ∈ (57, tabObj ts) :: R, ∀ p ∈ tl, q.1 < p.1) (h : (l, listOf vs.toArray n) ∈ ((57, tabObj ts) :: R) ++ tl) :
    (l, listOf vs.toArray n) ∈ R ++ tl ∧ (∀ p ∈ R ++ tl, p.1 ≠ 57) ∧ ∀ p ∈ R, p ∈ R ++ tl :=
  ⟨mem_tab h, fun p hp => (List.mem_append.mp hp).elim (hap p) fun q => Nat.ne_of_gt (ho _ (.head _) p q), fun p hp => List.mem_append_left _ hp⟩
theorem grow0 {ts : Array Value} {R tl : List (Addr × Obj)} (hap : ∀ p ∈ R, p.1 ≠ 57) (ho : ∀ q ∈ (57, tabObj ts) :: R, ∀ p ∈ tl, q.1 < p.1) :
    (∀ p ∈ R ++ tl, p.1 ≠ 57) ∧ ∀ p ∈ R, p ∈ R ++ tl :=
  ⟨fun p hp => (List.mem_append.mp hp).elim (hap p) fun q => Nat.ne_of_gt (ho _ (.head _) p q), fun p hp => List.mem_append_left _ hp⟩
theorem body_small {its : List It} (h : ItsOk its) : (bodyOf (pieces its)).length ≤ 90000 ∧ (sepT (pieces its)).length ≤ 90000 ∧ (pieces its).length ≤ 40000 ∧ (joinedT (pieces its)).length ≤ 300 ∧ wsum (pieces its) ≤ 200 := by
  have h0 := pieces_wt h.ok
  have h1 := body_wt (pieces its)
  have h2 := sep_wt (pieces its)
  have h3 := pieces_len' its
  have h4 := pat_small h
  have h5 : (joinedT (pieces its)).length = (bodyOf (pieces its)).length + 7 := by unfold joinedT; simp
  lia
theorem growG {R tl : List (Addr × Obj)} (hap : ∀ p ∈ R, p.1 ≠ 57) (ht : ∀ p ∈ tl, p.1 ≠ 57) : (∀ p ∈ R ++ tl, p.1 ≠ 57) ∧ ∀ p ∈ R, p ∈ R ++ tl :=
  ⟨fun p hp => (List.mem_append.mp hp).elim (hap p) (ht p), fun p hp => List.mem_append_left _ hp⟩
theorem rp1_len : ∀ x : List Nat, (rp1 x).length ≤ x.length
  | [] => Nat.le_refl _
  | [c] => Nat.le_refl _
  | c :: d :: r => by
    rw [rp1_e3]
    split
    · have := rp1_len r; simp; lia
    · have := rp1_len (d :: r); simp at this ⊢; lia
theorem rp_small {its : List It} (h : ItsOk its) : (joinedT (pieces its)).length ≤ 100000 ∧ (rp1 (joinedT (pieces its))).length ≤ 100000 ∧ (rp2 (rp1 (joinedT (pieces its)))).length ≤ 100000 := by
  have h1 := (body_small h).2.2.2.1
  have h2 := rp1_len (joinedT (pieces its))
  have h3 : (rp2 (rp1 (joinedT (pieces its)))).length = (rp1 (joinedT (pieces its))).length := by unfold rp2; rw [List.length_map]
  lia
example : True := by
  k_with "compareOp NotEq ref ref" =>
    (fail_if_success (fail_if_success (have := hereL1)))
    ((k_here; (with_reducible show wpAny _ _ (compareOp CmpOp.NotEq (Value.ref _) (Value.ref _)) _ _ _); k_dflt (refine' Mine.ne_pcs ?m19169 ?m29169 ?m39169 ?m49169 ?m59169 ?m69169 ?m79169 ?_; (case m19169 => k_asm); (case m29169 => (refine' List.Mem.tail _ ?_); assumption); (case m39169 => (refine' List.Mem.tail _ ?_); assumption); (case m49169 => with_reducible assumption); (case m59169 => with_reducible assumption); (case m69169 => with_reducible assumption); (case m79169 => exact (by decide : (7 : Nat) + 64 < cLine)))))
  trivial
example : True := by
  k_with "compareOp NotEq str str" =>
    (fail_if_success (fail_if_success (have := hereL1)))
    ((refine' Mine.ne_same ?_))
  trivial
example : True := by
  k_with "call builtin:str.replace" =>
    (fail_if_success (fail_if_success (have := hereL1)))
    ((first | refine' Mine.repl1 ?m19171 ?m29171 ?m39171 ?m49171 ?m59171 ?_ | refine' Mine.repl2 ?m19171 ?m29171 ?m39171 ?m49171 ?m59171 ?_); (case m19171 => with_reducible assumption); (case m29171 => exact Nat.succ_pos _); (case m39171 => exact Nat.ne_of_lt (Nat.lt_succ_self _)); (case m49171 => with_reducible assumption); (case m59171 => exact Nat.succ_pos _); intro _ _ _)
  trivial
example : True := by
  k_with "call builtin:str.split" =>
    (fail_if_success (fail_if_success (have := hereL1)))
    ((refine' Mine.split_rows ?m19172 ?m29172 ?m39172 ?_; (case m19172 => k_asm); (case m29172 => k_asm); (case m39172 => with_reducible assumption); intro _ _ _ _ _ _ _ _ _))
  trivial
theorem ap57_cons {R : List (Addr × Obj)} {a : Addr} {o : Obj} (h : ∀ p ∈ R, p.1 ≠ 57) (ha : a ≠ 57) : ∀ p ∈ (a, o) :: R, p.1 ≠ 57 := fun p hp => by
  rcases List.mem_cons.mp hp with rfl | hp
  · exact ha
  · exact h p hp
theorem news_left {h₀ h : Heap} {L : Addr} {a b : List (Addr × Obj)} (N : News h₀ L h (a ++ b)) : News h₀ L h a := news_sub N fun p hp => List.mem_append_left _ hp
inductive LJ (its : List It) (K L0 il pl rl : Nat) (tr to : Tok) (ts2 : Array Value) (R7 : List (Addr × Obj)) (i : Nat) (m : Str → Option Value) (led : List (Addr × Obj)) : Prop
  | mk (h1 : led = (57, tabObj ts2) :: R7) (t1 t2 : _) (h2 : Has m [("sent", .str (S (sentN i (joinedT (pieces its)))) t1), ("octets", .bytes (Bs (dotsN i (joinedT (pieces its)))) t2), ("regex", .str (S (joinedT (pieces its))) tr), ("rows", .ref rl), ("pieces", .ref pl), ("items", .ref il)]) : LJ its K L0 il pl rl tr to ts2 R7 i m led
theorem sentN_len (x : List Nat) : ∀ k, (sentN k x).length ≤ 4 ^ k * x.length
  | 0 => by simp [sentN_e1]
  | k + 1 => by
    have ih := sentN_len x k
    have h1 := fixE_len (sentN k x)
    have h2 := dots_len true (fixE (sentN k x))
    show (dots true (fixE (sentN k x))).length ≤ _
    rw [Nat.pow_succ, Nat.mul_assoc, Nat.mul_comm 4, ← Nat.mul_assoc]
    lia
theorem dotsN_len (x : List Nat) : ∀ k, (dotsN k x).length ≤ 2 ^ k * x.length
  | 0 => by simp [dotsN_e1]
  | k + 1 => by
    have ih := dotsN_len x k
    have h2 := dots_len true (dotsN k x)
    show (dots true (dotsN k x)).length ≤ _
    rw [Nat.pow_succ, Nat.mul_assoc, Nat.mul_comm 2, ← Nat.mul_assoc]
    lia
theorem dots_chars : ∀ (b : Bool) {x : List Nat}, (∀ c ∈ x, c < 256) → ∀ c ∈ dots b x, c < 256
  | _, [], _, c, h => nomatch h
  | b, d :: r, hx, c, h => by
    rw [dots_e2] at h
    rcases List.mem_append.mp h with h | h
    · split at h
      · simp at h; lia
      · rw [List.mem_singleton.mp h]; exact hx d (.head _)
    · exact dots_chars _ (fun e he => hx e (.tail _ he)) c h
theorem dotsN_chars {x : List Nat} (h : ∀ c ∈ x, c < 256) : ∀ k, ∀ c ∈ dotsN k x, c < 256
  | 0 => h
  | k + 1 => dots_chars true (dotsN_chars h k)
theorem loop_small {its : List It} (h : ItsOk its) {i : Nat} (hi : i < 3) : (sentN i (joinedT (pieces its))).length ≤ 50000 ∧ (∀ c ∈ dotsN i (joinedT (pieces its)), c < 256) ∧ (dotsN i (joinedT (pieces its))).length ≤ 100000 := by
  have h1 := (body_small h).2.2.2.1
  have h2 := sentN_len (joinedT (pieces its)) i
  have h3 := dotsN_len (joinedT (pieces its)) i
  have p4 : 4 ^ i ≤ 16 := by
    have : i = 0 ∨ i = 1 ∨ i = 2 := by lia
    rcases this with rfl | rfl | rfl <;> decide
  have p2 : 2 ^ i ≤ 16 := by
    have : i = 0 ∨ i = 1 ∨ i = 2 := by lia
    rcases this with rfl | rfl | rfl <;> decide
  have q4 := Nat.mul_le_mul p4 h1
  have q2 := Nat.mul_le_mul p2 h1
  exact ⟨by lia, dotsN_chars (joined_chars h.ok) i, by lia⟩
theorem loop_own {I : Addr} {o : Obj} {led : List (Addr × Obj)} (h : ∀ p ∈ led, p.1 ≠ I) : ∀ q ∈ [(I, o)], ∀ p ∈ led, p.1 ≠ q.1 := fun q hq p hp => by rw [List.mem_singleton.mp hq]; exact h p hp
theorem joinT_len (c : Nat) : ∀ {l : List (List Nat)}, l ≠ [] → (joinT [c] l).length + 1 = l.flatten.length + l.length
  | [], h => absurd rfl h
  | [x], _ => by simp [joinT_e1, joinT_e2, joinT_e3]
  | x :: y :: r, _ => by
    have ih := joinT_len c (l := y :: r) (by simp)
    show (x ++ [c] ++ joinT [c] (y :: r)).length + 1 = (x ++ (y :: r).flatten).length + ((y :: r).length + 1)
    rw [List.length_append, List.length_append, List.length_append]
    simp only [List.length_cons, List.length_nil] at ih ⊢
    lia
theorem qt_len (k : Nat) (x : List Nat) : (qt k x).length ≤ x.length + k := by
  unfold qt
  split <;> simp
  lia
theorem qt_flat (k : Nat) : ∀ l : List (List Nat), (l.map (qt k)).flatten.length ≤ l.flatten.length + k * l.length
  | [] => by simp
  | x :: r => by
    have ih := qt_flat k r
    have h := qt_len k x
    rw [List.map_cons, List.flatten_cons, List.flatten_cons, List.length_append, List.length_append, List.length_cons, Nat.mul_add]
    lia
theorem rows_small {its : List It} (h : ItsOk its) {K : Nat} (hK : K ≤ 3) : (rowsOf (joinedT (pieces its))).flatten.length ≤ 1000 ∧ (rowsOf (joinedT (pieces its))).length ≤ 100000 ∧ ((rowsOf (joinedT (pieces its))).map (qt K)).flatten.length ≤ 100000 ∧ ((rowsOf (joinedT (pieces its))).map (qt K)).length ≤ 100000 := by
  have h1 := (body_small h).2.2.2.1
  have h2 := rp1_len (joinedT (pieces its))
  have h3 : (rp2 (rp1 (joinedT (pieces its)))).length = (rp1 (joinedT (pieces its))).length := by unfold rp2; rw [List.length_map]
  have h4 := joinT_len 10 (rowsOf_ne (joinedT (pieces its)))
  rw [rp_rows, h3] at h4
  have h5 := qt_flat K (rowsOf (joinedT (pieces its)))
  have h6 : K * (rowsOf (joinedT (pieces its))).length ≤ 3 * 1000 := Nat.mul_le_mul hK (by lia)
  rw [List.length_map]
  lia
theorem row_len {l : List (List Nat)} {i : Nat} {x : List Nat} (h : l.flatten.length ≤ 1000) (hx : l[i]? = some x) : x.length ≤ 1000 := by
  have : ∀ {l : List (List Nat)} {x : List Nat}, x ∈ l → x.length ≤ l.flatten.length := by
    intro l x hx
    induction l with
    | nil => cases hx
    | cons y r ih =>
      rw [List.flatten_cons, List.length_append]
      rcases List.mem_cons.mp hx with rfl | hx
      · lia
      · have := ih hx; lia
  have := this (List.mem_of_getElem? hx)
  lia
theorem row_add {l : List (List Nat)} {ys : List Value} {i K : Nat} {x y : List Nat} {t : Tok} (hx : l[i]? = some x) (e : qt K x = y) (h : TxAre ys ((l.take i).map (qt K))) : TxAre (ys ++ [.str (S y) t]) ((l.take (i + 1)).map (qt K)) := by
  rw [List.take_add_one, hx, List.map_append, ← e]; exact h.snoc
example : True := by
  k_with "call builtin:str.join" =>
    (fail_if_success (fail_if_success (have := hereL1)))
    ((k_here; refine' Mine.join_rows ?m19173 ?m29173 ?m39173 ?m49173 ?m59173 ?_; (case m19173 => k_asm); (case m29173 => first | exact List.Mem.head _ | ((refine' List.Mem.tail _ ?_); assumption)); (case m39173 => with_reducible assumption); (case m49173 => first | with_reducible assumption | exact Nat.le_trans (by with_reducible assumption) (by decide)); (case m59173 => with_reducible assumption); intro _ _))
  trivial
example : True := by
  k_with "subscriptTail Name Slice str ref" =>
    (fail_if_success (fail_if_success (have := hereL1)))
    (((with_reducible show wpAny _ _ (subscriptTail _ (Expr.Slice none (some _) none _) (Value.str _ _) _) _ _ _); (refine' Mine.slice_to (s := ⟨_, _, _, _, _⟩) ?mslc9174 ?mslF9174 ?mslN9174 ?_ ?msls9174 ?mslt9174); (case mslc9174 => with_reducible assumption); (case mslF9174 => with_reducible assumption); (case mslN9174 => with_reducible assumption); (case msls9174 => with_reducible exact Mine.sub_slice); (case mslt9174 => intro _; with_reducible exact Mine.ltg_str); intro _ _ _ _ _))
  trivial
example : True := by
  k_with "binaryOp Mult str int" =>
    (fail_if_success (fail_if_success (have := hereL1)))
    ((refine' Mine.mul_dot ?m19175 ?m29175 ?m39175 ?_; (case m19175 => exact rfl); (case m29175 => with_reducible assumption); (case m39175 => with_reducible assumption); intro _ _))
  trivial
theorem slice_nil1 {prog : Program} {w : World} {A : Around} {E : Value → Shared → Prop} {s : Shared} {h₀ : Heap} {L : Addr} {m : Str → Option Value} {led : List (Addr × Obj)} {value slice : PySem.Expr} {Q : Value → Shared → Prop} {t uj : Tok} (F : Fr h₀ L s.heap m) (N : News h₀ L s.heap led) (h : ∀ h' t' k, Fr h₀ L h' m → News h₀ L h' led → Q (.str (S []) t') { s with heap := h', toks := k })
    (hs : subscripted slice false (.str (S []) t) (.ref s.heap.objs.size) = operate [.ref s.heap.objs.size, .str (S []) t] (getItem (.str (S []) t) (.ref s.heap.objs.size)))
    (ht : ∀ r, letTemporaryGo value (.str (S []) t) r = pure ()) :
    wpAny (model prog w) A (subscriptTail value slice (.str (S []) t) (.ref s.heap.objs.size)) Q E { s with heap := s.heap.push { cls := .type "slice", data := .fields #[.none, .int 1 uj, .none] } } :=
  slice_strN_ns F N (fun h' t' k a b => by rw [show Txt.slice (S []) none (some 1) = S [] from by decide +kernel]; exact h h' t' k a b) hs ht (by rw [S_len, sizeLine_eq]; simp)
example : True := by
  k_with "subscriptTail Name Slice str ref" =>
    (fail_if_success (fail_if_success (have := hereL1)))
    (((with_reducible show wpAny _ _ (subscriptTail _ (Expr.Slice none (some _) none _) (Value.str (S []) _) _) _ _ _); (refine' Mine.slice_nil1 (s := ⟨_, _, _, _, _⟩) ?mslF9176 ?mslN9176 ?_ ?msls9176 ?mslt9176); (case mslF9176 => with_reducible assumption); (case mslN9176 => with_reducible assumption); (case msls9176 => with_reducible exact Mine.sub_slice); (case mslt9176 => intro _; with_reducible exact Mine.ltg_str); intro _ _ _ _ _))
  trivial
theorem qt_nil {K : Nat} : qt K [] = [] := by simp [qt]
theorem qt_dot {K : Nat} {r : List Nat} : qt K (46 :: r) = List.replicate K 46 ++ (46 :: r) := by simp [qt]
theorem qt_other {K c : Nat} {r : List Nat} (h : ¬ c = 46) : qt K (c :: r) = [] ++ (c :: r) := by simp [qt, h]
theorem sent_rows2 (x : List Nat) {K : Nat} (h : 0 < K) : sentN K x = joinT [13, 10] ((rowsOf x).map (qt K)) := by
  cases K with
  | zero => exact absurd h (Nat.lt_irrefl _)
  | succ K => exact sentN_rows x K
theorem news_tail {h₀ h : Heap} {L : Addr} {a : Addr × Obj} {b : List (Addr × Obj)} (N : News h₀ L h (a :: b)) : News h₀ L h b := news_sub N fun p hp => .tail _ hp
theorem sent_small {its : List It} (h : ItsOk its) : (pieces its).length ≤ 1000 ∧ (∀ x, some x ∈ pieces its → x.length ≤ 40000) ∧ (bodyOf (sentOf (pieces its))).length ≤ 90000 ∧ (sentOf (pieces its)).length ≤ 40000 := by
  have h1 := (body_small h).2.2.2.2
  have h2 := sentOf_wt h.ok
  have h3 := body_wt (sentOf (pieces its))
  have h4 := pieces_len' its
  have h5 := h.len
  exact ⟨by lia, fun x hx => by have := some_wt hx; lia, by lia, by lia⟩
theorem grow3 {ts : Array Value} {R tl : List (Addr × Obj)} (hap : ∀ p ∈ R, p.1 ≠ 57) (h : ∀ q ∈ (57, tabObj ts) :: R, ∀ p ∈ tl, p.1 ≠ q.1) : ∀ p ∈ R ++ tl, p.1 ≠ 57 :=
  fun p hp => (List.mem_append.mp hp).elim (hap p) fun q => h _ (.head _) p q
theorem moreR_pat {k : Nat} (hk : k ≤ 3) (al : Bool) : ∀ (its : List It) (b : Bool), (∀ it ∈ its, it.Ok ∧ it.text.length ≤ 15 ∧ it.mem.length ≤ 4) → (patText (moreR k al b its)).length ≤ 54 * its.length
  | [], _, _ => by simp [moreR_e1, moreR_e2, patText]
  | i :: r, b, h => by
    have ih := moreR_pat hk al r i.isLF fun x hx => h x (.tail _ hx)
    have h1 := h i (.head _)
    have h2 := more_text hk h1.1 h1.2.1 h1.2.2
    have h3 : ∀ n, (patText (List.replicate n It.qm)).length = n := by
      intro n
      induction n with
      | zero => rfl
      | succ n ih =>
        rw [List.replicate_succ]
        show (It.qm.text ++ patText (List.replicate n It.qm)).length = _
        rw [List.length_append, ih]; show 1 + n = n + 1; lia
    have e : patText (moreR k al b (i :: r)) = patText (if (b && askDot k al i) = true then List.replicate k It.qm else []) ++ ((i.more k).text ++ patText (moreR k al i.isLF r)) := by
      show patText ((if (b && askDot k al i) = true then List.replicate k It.qm else []) ++ i.more k :: moreR k al i.isLF r) = _
      simp [patText]
    rw [e, List.length_append, List.length_append, List.length_cons, Nat.mul_add]
    split
    · rw [h3]; lia
    · simp [patText] at *; lia
theorem more_small {its its2 : List It} (h : ItsOk its) {K : Nat} (hK : K ≤ 3) (e : its2 = moreR K (nones (pieces its) == 1) false its) : (∀ it ∈ its2, it.Ok) ∧ (patText its2).length ≤ 1000 ∧ its2.length ≤ 100 ∧ (bodyOf (pieces its2)).length ≤ 90000 ∧ (pieces its2).length ≤ 40000 ∧ (joinedT (pieces its2)).length ≤ 100000 := by
  have hok : ∀ it ∈ its2, it.Ok := by rw [e]; exact moreR_ok K _ its false h.ok
  have h1 : (patText its2).length ≤ 54 * its.length := by rw [e]; exact moreR_pat hK _ its false fun it hi => ⟨h.ok it hi, h.text it hi, h.mem it hi⟩
  have h2 : its2.length ≤ (K + 1) * its.length := by rw [e]; exact moreR_len K _ its false
  have h3 : (K + 1) * its.length ≤ 4 * 8 := Nat.mul_le_mul (by lia) h.len
  have h4 := h.len
  have h5 := pieces_wt hok
  have h6 := body_wt (pieces its2)
  have h7 := pieces_len' its2
  have h8 : (joinedT (pieces its2)).length = (bodyOf (pieces its2)).length + 7 := by unfold joinedT; simp
  exact ⟨hok, by lia, by lia, by lia, by lia, by lia⟩
example : True := by
  k_with "compareOp Eq bytes bytes" =>
    (fail_if_success (fail_if_success (have := hereL1)))
    ((refine' Mine.eq_same_b ?_))
  trivial
/-- The end of the law where generators have been drawn: they are bare. -/
noncomputable def EndG (cw : ClaimW) (cl : Str → Option Addr) (mean : ExcName → Option Value) (args : List WData) (s₁ : Shared) (tabs : List (Addr × Addr)) (r : Result) (s' : Shared) : Prop :=
  GoodW cw cl mean args { s₁ with heap := ghostOf s₁.heap tabs } r { s' with gens := #[] } ∧ AllBare s'.gens ∧ GrownAll tabs s'.heap
theorem endG_ok {cw : ClaimW} {cl : Str → Option Addr} {mean : ExcName → Option Value} {args : List WData} {s₁ : Shared} {tabs : List (Addr × Addr)} {r : Result} {s' : Shared} (hT : TabsAt tabs s₁.heap) (hr : ∀ a x, cw.raises a x = false) (h : EndG cw cl mean args s₁ tabs r s') : GoodWG cw cl mean args s₁ r s' := by
  obtain ⟨⟨hres, hold, hos, _⟩, hbare, hgrown⟩ := h
  have hres : (∃ v d as, r = .ok (.ret v) ∧ (∀ cls, cw.raises args cls = false) ∧ ReadsW cw.records cl s'.heap v d as ∧ cw.post args d args = true ∧ (cw.unshared = true → as.Nodup ∧ ∀ a ∈ as, (ghostOf s₁.heap tabs).get? a = none)) ∨
      (∃ e ob cls, r = .error (.ref e) ∧ s'.heap.get? e = some ob ∧ mean cls = some ob.cls ∧ cw.raises args cls = true ∧ (ghostOf s₁.heap tabs).get? e = none) := hres
  have hold : ∀ b o, (ghostOf s₁.heap tabs).get? b = some o → s'.heap.get? b = some o := hold
  -- what lies in no table stays; a table only grows
  have stay : ∀ b o, s₁.heap.get? b = some o → b ∉ tabs.map (·.2) → s'.heap.get? b = some o := fun b o e hb => hold b o (ghost_ne e hb)
  have table : ∀ b o, s₁.heap.get? b = some o → b ∈ tabs.map (·.2) → isCodeTable s₁.heap b ∧ o = tabObj #[] ∧ ∃ ps, s'.heap.get? b = some (tabObj ps) := fun b o e hb => by
    obtain ⟨q, hq, hqb⟩ := List.mem_map.mp hb
    subst hqb
    have a := hT q hq
    refine ⟨(a.1.tab a.2).isCodeTable, ?_, hgrown.get q hq⟩
    have b := a.2
    rw [e] at b
    exact Option.some.inj b
  refine ⟨?_, ⟨fun b o e => ?_, fun b o e => ?_⟩, hos, hbare⟩
  · rcases hres with ⟨v, d, as, h1, h2, h3, h4, h5⟩ | ⟨_, _, x, _, _, _, h4, _⟩
    · refine .inl ⟨v, d, as, h1, h2, h3, h4, fun hu => ⟨(h5 hu).1, fun a ha => ?_⟩⟩
      by_cases hb : a ∈ tabs.map (·.2)
      · cases e : s₁.heap.get? a with
        | none => rfl
        | some o =>
          obtain ⟨_, _, ps, hp⟩ := table a o e hb
          exact absurd ha (readsW_apart hp rfl h3)
      · cases e : s₁.heap.get? a with
        | none => rfl
        | some o =>
          have k := (h5 hu).2 a ha
          rw [ghost_ne e hb] at k
          cases k
    · rw [hr] at h4; cases h4
  · by_cases hb : b ∈ tabs.map (·.2)
    · obtain ⟨ht, rfl, ps, hp⟩ := table b o e hb
      exact .inr (.inl ⟨ht, rfl, #[], ps, rfl, by rw [Array.empty_append]; exact hp⟩)
    · exact .inl (stay b o e hb)
  · by_cases hb : b ∈ tabs.map (·.2)
    · obtain ⟨_, _, ps, hp⟩ := table b o e hb
      exact ⟨_, hp⟩
    · exact ⟨o, stay b o e hb⟩
theorem postG {M : Model} {A : Around} {cd : Code} {s s₁ : Shared} {cw : ClaimW} {cl : Str → Option Addr} {mean : ExcName → Option Value} {args : List WData} {tabs : List (Addr × Addr)} (hT : TabsAt tabs s₁.heap) (hr : ∀ a x, cw.raises a x = false)
    (h : codeAny M A cd (fun r s' => GoodW cw cl mean args { s₁ with heap := ghostOf s₁.heap tabs } r { s' with gens := #[] } ∧ AllBare s'.gens ∧ GrownAll tabs s'.heap) s) : codeAny M A cd (GoodWG cw cl mean args s₁) s :=
  codeAny_mono h fun _ _ q => endG_ok hT hr q
example : True := by
  k_with "kn_posts" =>
    (fail_if_success (fail_if_success (have := hereL1)))
    ((refine' Mine.postG ?zT9178 (fun _ _ => rfl) ?_; (case zT9178 => assumption)))
  trivial
theorem cw : PySem.Challenge.rw_in0214_01.Holds := hd (by
  delta hk
  k_go0
  all_goals try k_fold
  rename_i W s₀ s₁ mg mb G Y fa o pm cd doc ho hcd hg X V T B TE TW xs hs hlay0 hLay hr hl2 q1 q2 la vl q3 hL ra w1 r0 hI hr2 hc1 hc2 hD h₁ tk₁ o1 o2 d1 d2 X0 X' T' K' F' N' l0
  clear hr2 w1 r0 ra hL hs hlay0 hr hl2 V TE TW X hD X0 hc2
  replace d1 : o1.data = .cell none := d1
  replace d2 : o2.data = .cell (some (.ref la)) := d2
  generalize hg0 : ghostOf s₁.heap [(61, 57)] = g0 at *
  generalize hL0 : s₁.heap.objs.size = L0 at *
  have hxl : xs.length ≤ 63 := by omega
  have hvx := hI.length
  have hmin : min 8 xs.length ≤ 100000 := by omega
  refine letA ?_
  intro A1
  refine letV ?_
  intro e1
  walk1
  refine cut0 g0 L0 (NumP L0 o1 o2) (fun Q' hgo => ?num) ?rest
  case num =>
    k_steps
    (rename Fr _ _ _ _ => FF)
    (rename News _ _ _ _ => NN)
    show wpAny _ _ _ _ _ _
    try k_fold
    refine comp_RN (cl := [("script", L0 + 1)]) (n := min 8 xs.length) (fun i ys => ∃ ns : List Nat, ns.length = i ∧ IntsAre ys (ns.map fun n => ((n : Nat) : Int))) FF NN hmin ?hit ⟨[], rfl, .nil⟩ (fun E' i t ys I oI C oC D m₂ h tk hi hK hC hx F' N' => ?leaf) (fun D ys h tk hK F' N' hap => ?done) rfl rfl (by decide) rfl (by decide) rfl (fun _ => rfl)
    case hit =>
      k_steps
      (rename Fr _ _ _ _ => F5)
      (rename News _ _ _ _ => N5)
      show wpAny _ _ _ _ _ _
      try k_fold
      refine rng_call (n := min 8 xs.length) ?hmn F5 N5 fun r h' tk t u v F' N' hlt => ?hgo2
      case hmn => (try simp only [hvx, List.size_toArray]); first | (split <;> omega) | omega
      case hgo2 =>
        k_steps
        exact rng_is F' N'
    case leaf =>
      obtain ⟨ns, hn, hIn⟩ := hK
      k_steps
      exact cend (by assumption) (news_sub (by assumption) fun p hp => by repeat (first | exact hp | apply List.mem_cons_of_mem)) ⟨ns ++ [_], by rw [List.length_append, hn]; rfl, ints_snoc hIn⟩
    case done =>
      obtain ⟨ns, hn, hIn⟩ := hK
      have hn8 : ns.length ≤ 8 := by omega
      clear FF NN
      rcases List.eq_nil_or_concat ys with rfl | ⟨zs, z, rfl⟩
      · k_steps
        exact hgo _ _ _ _ ⟨_, _, _, [2, 0], rfl, .cons 2 _ (.cons 0 _ .nil), by decide, num_ap (by assumption), Has.cons rfl Has.nil⟩ (by assumption) (num_news (by assumption))
      · rw [List.concat_eq_append] at *
        have hzl : zs.length < 16777216 := by have := hIn.length; rw [List.length_append, List.length_map] at this; simp at this; omega
        k_steps
        exact hgo _ _ _ _ ⟨_, _, _, ns, rfl, hIn, hn8, hap, Has.cons rfl Has.nil⟩ (by assumption) (by assumption)
  case rest =>
    rintro m led h tk ⟨l, ys, n2, ns, rfl, hIn, hn8, hapl, H⟩ F N
    replace F : Fr g0 L0 h _ := fr_at F H
    dsimp only [kB_e1, kB_e2] at F
    clear F' N' H
    have hn100 : ns.length ≤ 100 := Nat.le_trans hn8 (by decide)
    k_steps
    show wpAny _ _ _ _ _ _
    try k_fold
    refine (itemsw W ns ys n2 l hIn hn100).use K' (by assumption) X' (by assumption) T' rfl (.head _) (by decide) (by decide) fun r tl h' tk' F1 N1 hap1 hout => ?_
    obtain ⟨il, rfl⟩ : ∃ il, r = .ref il := by cases hout; exact ⟨_, rfl⟩
    obtain ⟨its, hits⟩ : ∃ its, its = ns.map itemOf := ⟨_, rfl⟩
    rw [← hits] at hout
    have hI2 := its_facts hits hn8
    obtain ⟨hit, hN2, hapc⟩ := after_items d1 N1 hap1 hapl hout
    obtain ⟨hapc, hap57⟩ := hapc l0
    clear N N1 hap1 hapl hout
    k_steps
    (rename _ < (3 : Int) => hk3)
    (rename _ = Data.cell _ => dm)
    (rename Fr _ _ _ _ => F2)
    (rename News _ _ _ _ => N2)
    (rename Obj => om)
    obtain ⟨K, hK0, hK3, hKe⟩ := k_fact hk3
    rw [hKe] at dm
    obtain ⟨R, hR⟩ : ∃ R : List (Addr × Obj), R = (L0 + 1 + 1, om) :: (l, PySem.W.listOf ys.toArray n2) :: (L0 + 1, o2) :: tl := ⟨_, rfl⟩
    replace N2 := turn_in N2
    rw [← hR] at N2
    replace hap57 : ∀ p ∈ R, p.1 ≠ 57 := by rw [hR]; exact ap_first hap57
    replace hit : DatIn R (.ref il) (itemsDat its) := by rw [hR]; exact hit.mono fun p hp => .tail _ hp
    have hcm : (L0 + 1 + 1, om) ∈ R := by rw [hR]; exact .head _
    clear hR hapc hKe hk3 d1
    try clear F
    try clear F1
    have hpt := pat_small hI2
    have hG : AllBare s₁.gens := by rw [hg]; intro y hy; simp at hy
    show wpAny _ _ _ _ _ _
    try k_fold
    refine (piecesw W its hI2.ok (.ref il) hpt.1 hpt.2.1).use K' (by assumption) X' (by assumption) T' rfl (hit.mono fun p hp => .tail _ hp) (by decide) (by decide) fun r tl h' tk' F3 N3 hord hout => ?_
    obtain ⟨pl, pys, pn, rfl, hpm, hps⟩ := hout
    refine el3 (grow hap57 hord hpm) fun hpm1 hap1 hsub => ?_
    replace N3 : News g0 L0 h' ((57, tabObj #[]) :: (R ++ tl)) := N3
    replace hit := hit.mono hsub
    replace hcm := hsub _ hcm
    clear hord hsub hap57 hpm
    try clear N2
    try clear F2
    generalize R ++ tl = R1 at *
    have hpc := pieces_chars hI2.ok
    have hpb := body_small hI2
    k_steps
    show wpAny _ _ _ _ _ _
    try k_fold
    refine (ljoinw W (pieces its) pys pn pl hps (fun x hx h0 => (hpc x hx 0 h0).2 rfl) hpb.1 hpb.2.1 hpb.2.2.1).use K' (by assumption) X' (by assumption) T' rfl (.tail _ hpm1) (by decide) (by decide) fun r tl h' tk' F4 N4 hord hout => ?_
    obtain ⟨tr, rfl⟩ := hout
    refine el2 (grow0 hap1 hord) fun hap2 hsub => ?_
    replace N4 : News g0 L0 h' ((57, tabObj #[]) :: (R1 ++ tl)) := N4
    replace hit := hit.mono hsub
    replace hcm := hsub _ hcm
    have hpm2 := hsub _ hpm1
    clear hord hsub hap1 hpm1
    try clear N3
    try clear F3
    generalize R1 ++ tl = R2 at *
    k_steps
    show wpAny _ _ _ _ _ _
    try k_fold
    refine (pattern W (.ref il) its (Nat.le_trans hpt.1 (by decide))).use K' (by assumption) X' (by assumption) T' rfl (hit.mono fun p hp => .tail _ hp) (by decide) (by decide) fun r tl h' tk' F5 N5 hord hout => ?_
    obtain ⟨tp, rfl⟩ := hout
    refine el2 (grow0 hap2 hord) fun hap3 hsub => ?_
    replace N5 : News g0 L0 h' ((57, tabObj #[]) :: (R2 ++ tl)) := N5
    replace hit := hit.mono hsub
    replace hcm := hsub _ hcm
    have hpm3 := hsub _ hpm2
    clear hord hsub hap2 hpm2
    try clear N4
    try clear F4
    generalize R2 ++ tl = R3 at *
    k_steps
    show wpAny _ _ _ _ _ _
    try k_fold
    refine (trans W its hI2.ok _ _ .none (.inl rfl) hpt.1 hpt.2.1).use (ts := #[]) K' (by assumption) X' (by assumption) T' rfl hG hap3 .nil trivial (by decide) (by decide) fun r ts1 tl h' tk' gs1 hG1 F6 N6 htr1 htl hord hout => ?_
    obtain ⟨ql, qys, qn, rfl, hqm, hqs⟩ := hout
    refine el2 (growG hap3 htl) fun hap4 hsub => ?_
    replace N6 : News g0 L0 h' ((57, tabObj ts1) :: (R3 ++ tl)) := N6
    replace hit := hit.mono hsub
    replace hcm := hsub _ hcm
    have hpm4 := hsub _ hpm3
    clear hord hsub hap3 hpm3 htl
    generalize R3 ++ tl = R4 at *
    dsimp only
    k_steps
    show wpAny _ _ _ _ _ _
    try k_fold
    refine (translw W its hI2.ok _ hpt.1 hpt.2.1 (nodd_pieces its) hpb.1 hpb.2.2.1).use (ts := ts1) K' (by assumption) X' (by assumption) T' rfl hG1 hap4 htr1 trivial (by decide) (by decide) fun r ts2 tl h' tk' gs2 hG2 F7 N7 htr2 htl hord hout hpos => ?_
    obtain ⟨tt, rfl⟩ := hout
    refine el2 (growG hap4 htl) fun hap5 hsub => ?_
    replace N7 : News g0 L0 h' ((57, tabObj ts2) :: (R4 ++ tl)) := N7
    replace hit := hit.mono hsub
    replace hcm := hsub _ hcm
    have hpm5 := hsub _ hpm4
    clear hord hsub hap4 hpm4 htl hqm hqs
    generalize R4 ++ tl = R5 at *
    refine el3 (rp_small hI2) fun hjl hrl1 hrl2 => ?_
    dsimp only
    k_steps
    rename_i t7 k7 p7 t8 k8 p8 rl rvs rn h7 k9 hrt hlt h9 c1 h10 F8 N8 c2
    replace N8 := turn_in N8
    have hap6 : ∀ p ∈ (rl, PySem.W.listOf rvs.toArray rn) :: R5, p.1 ≠ 57 := ap57_cons hap5 (Nat.ne_of_gt (hlt _ (.head _)))
    replace hit := hit.mono (news' := (rl, PySem.W.listOf rvs.toArray rn) :: R5) fun p hp => .tail _ hp
    replace hcm : (L0 + 1 + 1, om) ∈ (rl, PySem.W.listOf rvs.toArray rn) :: R5 := .tail _ hcm
    have hpm6 : (pl, PySem.W.listOf pys.toArray pn) ∈ (rl, PySem.W.listOf rvs.toArray rn) :: R5 := .tail _ hpm5
    have hrm6 : (rl, PySem.W.listOf rvs.toArray rn) ∈ (rl, PySem.W.listOf rvs.toArray rn) :: R5 := .head _
    clear hap5 hpm5 hlt p7 p8
    generalize (rl, PySem.W.listOf rvs.toArray rn) :: R5 = R6 at *
    have hch := joined_chars hI2.ok
    show wpAny _ _ _ _ _ _
    try k_fold
    refine (octetsw W (joinedT (pieces its)) _ hch hjl).use K' (by assumption) X' (by assumption) T' rfl trivial (by decide) (by decide) fun r tl h' tk' F9 N9 hord hout => ?_
    obtain ⟨to, rfl⟩ := hout
    refine el2 (grow0 hap6 hord) fun hap7 hsub => ?_
    replace N9 : News g0 L0 h' ((57, tabObj ts2) :: (R6 ++ tl)) := N9
    replace hit := hit.mono hsub
    replace hcm := hsub _ hcm
    have hpm7 := hsub _ hpm6
    have hrm7 := hsub _ hrm6
    clear hord hsub hap6 hpm6 hrm6
    generalize R6 ++ tl = R7 at *
    dsimp only
    k_steps
    show wpAny _ _ _ _ _ _
    try k_fold
    refine for_up (h₀ := g0) (n := K) (Nat.le_trans hK3 (by decide)) rfl (LJ its K L0 il pl rl tr to ts2 R7) (fun _ => rfl) ?lev ?lturn ?ldone
    case lev =>
      k_steps
      (rename Fr _ _ _ _ => F10)
      (rename News _ _ _ _ => N10)
      show wpAny _ _ _ _ _ _
      try k_fold
      refine rng_call (n := K) rfl F10 N10 fun r h' tk t u v F' N' hlt => ?_
      k_steps
      exact uread F' N' ⟨rfl, _, _, Has.cons rfl (Has.cons rfl (Has.cons rfl (Has.cons rfl (Has.cons rfl (Has.cons rfl Has.nil)))))⟩
    case lturn =>
      rintro E' i ti m₁ led h tk I o hi ⟨rfl, t1, t2, H⟩ F₂ N₂ hne
      replace F₂ : Fr g0 L0 h _ := fr_at F₂ H
      dsimp only [kB_e1, kB_e2] at F₂
      refine el3 (loop_small hI2 (Nat.lt_of_lt_of_le hi hK3)) fun hz1 hz2 hz3 => ?_
      k_steps
      show wpAny _ _ _ _ _ _
      try k_fold
      refine (quoted W (sentN i (joinedT (pieces its))) _ hz1).use K' (by assumption) X' (by assumption) T' rfl trivial (by decide) (by decide) fun r tl h' tk' F9 N9 hord hout => ?_
      obtain ⟨tq, rfl⟩ := hout
      replace N9 := news_left N9
      k_steps
      show wpAny _ _ _ _ _ _
      try k_fold
      refine (periods W (dotsN i (joinedT (pieces its))) _ hz2 hz3).use K' (by assumption) X' (by assumption) T' rfl trivial (by decide) (by decide) fun r tl h' tk' F10 N10 hord hout => ?_
      obtain ⟨tq2, rfl⟩ := hout
      replace N10 := news_left N10
      k_steps
      exact ⟨_, _, _, _, rfl, by assumption, by assumption, loop_own hne, rfl, _, _, Has.cons rfl (Has.cons rfl (Has.cons rfl (Has.cons rfl (Has.cons rfl (Has.cons rfl Has.nil)))))⟩
    case ldone =>
      rintro m₁ led h tk ⟨rfl, t1, t2, H⟩ F₂ N₂
      replace F₂ : Fr g0 L0 h _ := fr_at F₂ H
      dsimp only [kB_e1, kB_e2] at F₂
      try clear N9
      try clear F9
      k_steps
      show wpAny _ _ _ _ _ _
      try k_fold
      refine (fixeols W (joinedT (pieces its)) _ hjl).use K' (by assumption) X' (by assumption) T' rfl trivial (by decide) (by decide) fun r tl h' tk' F9 N9 hord hout => ?_
      obtain ⟨tf, rfl⟩ := hout
      have efx := fixE_rows (joinedT (pieces its))
      rw [efx]
      replace N9 := news_left N9
      refine el2 (rows_small hI2 hK3) fun hr1 hr => el3 hr fun hr2 hr3 hr4 => ?_
      have hrv : rvs.length ≤ 100000 := by rw [hrt.len]; exact hr2
      clear F₂ N₂ hord
      dsimp only
      k_steps
      (rename Fr _ _ _ _ => FC)
      (rename News _ _ _ _ => NC)
      show wpAny _ _ _ _ _ _
      refine comp_U (cl := [("more", L0 + 1 + 1)]) (fun i ys => TxAre ys (((rowsOf (joinedT (pieces its))).take i).map (qt K))) FC NC (.tail _ hrm7) hrv (fun Q hq => by refine nameX_L FC rfl hq rfl rfl) .nil (fun E' i v ys I oI C oC D m₂ h tk hvi hKK hC hx F' N' => ?leaf) (fun D ys h tk hKK F' N' hap => ?done) rfl rfl (by decide) rfl (by decide) rfl (fun _ => rfl)
      case leaf =>
        obtain ⟨x, tx, hxi, rfl⟩ := hrt.get hvi
        have hxl := row_len hr1 hxi
        rcases x with _ | ⟨c, r⟩
        · k_steps
          exact cend (by assumption) (by assumption) (row_add hxi qt_nil hKK)
        · have hcut : Cut (c :: r) 0 1 [c] := ⟨[], r, rfl, rfl, rfl, Nat.le_trans hxl (by decide)⟩
          have hs1 : (List.replicate K 46).length + (c :: r).length ≤ 16777216 := by rw [List.length_replicate]; omega
          have hs2 : ([] : List Nat).length + (c :: r).length ≤ 16777216 := by rw [List.length_nil]; omega
          by_cases hc : c = 46
          · subst hc
            k_steps
            exact cend (by assumption) (by assumption) (row_add hxi qt_dot hKK)
          · have hc' : [c] ≠ [46] := fun q => hc (List.cons.inj q).1
            k_steps
            exact cend (by assumption) (by assumption) (row_add hxi (qt_other hc) hKK)
      case done =>
        rw [hrt.len, List.take_length] at hKK
        rw [sent_rows2 (joinedT (pieces its)) hK0]
        have hqz := Nat.le_trans (body_small hI2).2.2.2.1 (by decide : 300 ≤ 50000)
        have hsv := sentOf_wt hI2.ok
        have hsz2 := sent_small hI2
        clear FC NC
        k_steps
        show wpAny _ _ _ _ _ _
        try k_fold
        refine (quoted W (joinedT (pieces its)) _ hqz).use K' (by assumption) X' (by assumption) T' rfl trivial (by decide) (by decide) fun r tl h' tk' F9 N9 hord hout => ?_
        obtain ⟨tq, rfl⟩ := hout
        replace N9 := news_tail (news_left N9)
        clear hord
        dsimp only
        k_steps
        show wpAny _ _ _ _ _ _
        try k_fold
        refine (sentw W (pieces its) pys pn pl hps hsz2.1 hsz2.2.1).use K' (by assumption) X' (by assumption) T' rfl (.tail _ hpm7) (by decide) (by decide) fun r tl h' tk' F10 N10 hord hout => ?_
        obtain ⟨sl, sys, sn, rfl, hslm, hsps⟩ := hout
        dsimp only
        k_steps
        show wpAny _ _ _ _ _ _
        try k_fold
        refine (joinw W .none (.inl rfl) (sentOf (pieces its)) sys sn sl hsps (nodd_sentOf hI2.ok) hsz2.2.2.1 hsz2.2.2.2).use K' (by assumption) X' (by assumption) T' rfl hslm (by decide) (by decide) fun r tl2 h' tk' F11 N11 hord2 hout hpos2 => ?_
        obtain ⟨tj, rfl⟩ := hout
        replace N11 := news_left (news_left N11)
        clear hord hord2 hslm hsps
        rw [sent_joinedT hI2.ok]
        dsimp only
        k_steps
        obtain ⟨its2, hi2⟩ : ∃ its2, its2 = moreR K (nones (pieces its) == 1) false its := ⟨_, rfl⟩
        obtain ⟨hok2, hp2, hl2', hb2, hpl2, hj2⟩ := more_small hI2 hK3 hi2
        show wpAny _ _ _ _ _ _
        try k_fold
        refine (morew W its K hK0 hK3 il _ hI2.ok hpt.2.1 (fun it hi => Nat.le_trans (hI2.text it hi) (by decide))).use K' (by assumption) X' (by assumption) T' rfl (hit.mono fun p hp => .tail _ hp) (by decide) (by decide) fun r tl3 h' tk' F12 N12 hap12 hout => ?_
        rw [← hi2] at hout
        obtain ⟨ml, rfl⟩ : ∃ ml, r = .ref ml := by cases hout; exact ⟨_, rfl⟩
        have hap8 := grow3 hap7 hap12
        replace N12 : News g0 L0 h' ((57, tabObj ts2) :: (R7 ++ tl3)) := N12
        dsimp only
        k_steps
        show wpAny _ _ _ _ _ _
        try k_fold
        refine (pattern W (.ref ml) its2 (Nat.le_trans hp2 (by decide))).use K' (by assumption) X' (by assumption) T' rfl hout (by decide) (by decide) fun r tl4 h' tk' F13 N13 hord hout2 => ?_
        obtain ⟨tp2, rfl⟩ := hout2
        replace N13 := news_left N13
        clear hord hout
        dsimp only
        k_steps
        show wpAny _ _ _ _ _ _
        try k_fold
        refine (translw W its2 hok2 _ hp2 hl2' (nodd_pieces its2) hb2 hpl2).use (ts := ts2) K' (by assumption) X' (by assumption) T' rfl hG2 hap8 htr2 trivial (by decide) (by decide) fun r ts3 tl5 h' tk' gs3 hG3 F14 N14 htr3 htl3 hord hout3 hpos3 => ?_
        obtain ⟨tt3, rfl⟩ := hout3
        replace N14 := news_left N14
        clear hord htl3
        dsimp only
        k_steps
        show wpAny _ _ _ _ _ _
        refine (octetsw W (joinedT (pieces its2)) _ (joined_chars hok2) hj2).use K' (by assumption) X' (by assumption) T' rfl trivial (by decide) (by decide) fun r tl6 h' tk' F15 N15 hord hout4 => ?_
        obtain ⟨to4, rfl⟩ := hout4
        rw [hi2, more_joined K hK0 hI2.ok, dotsN_eq]
        dsimp only
        k_steps
        · refine ⟨.inl ⟨.bool true, _, [], rfl, fun _ => rfl, ReadsW.bool true, ?post, fun _ => ⟨List.nodup_nil, fun _ hm => nomatch hm⟩⟩, F15.keep, rfl, rfl⟩
          case post => first | rfl | kernel_rfl!
        · exact hG3)
end
end Mine
theorem PySem.Challenge.cw_in0214_01_holds : PySem.Challenge.rw_in0214_01.Holds :=
  Mine.cw
