import PyProof.Rows.All
import Wide.All
import OpenK.AllK
import Wide.FinOn
import PySem.Challenge.RW_ik0183_01
set_option Elab.async false
local macro_rules | `(tactic| walk_at $s:str) => `(tactic| k_extra $s)
namespace Mine
open PySem PySem.W PyProof.Rows
set_option maxRecDepth 100000 in
set_option maxHeartbeats 8000000 in
open_top hd for PySem.Challenge.rw_ik0183_01
end Mine
namespace Mine
open PySem PySem.W PyProof.Rows PySem.Calls
set_option maxRecDepth 100000
section
variable {M : Model} {A : Around} {E : Value → Shared → Prop} {env : Env} {h : Heap} {g : Array GenState} {d : Drawn} {T : Nat} {o : OsState}
theorem sm_str {x : Str} {k : Nat} {pos : Pos} {Q : Value → Shared → Prop} (H : ∀ t tk, Q (.str x t) ⟨h, g, d, tk, o⟩) : wpAny M A (eval (.Constant (.str x) k pos) env) Q E ⟨h, g, d, T, o⟩ := Calls.Constant_str (H _ _)
theorem sm_int {i : Int} {k : Nat} {pos : Pos} {Q : Value → Shared → Prop} (H : ∀ t tk, Q (.int i t) ⟨h, g, d, tk, o⟩) : wpAny M A (eval (.Constant (.int i) k pos) env) Q E ⟨h, g, d, T, o⟩ := wpAny_Constant_int (H _ _)
theorem sm_toks {α : Type} {t : Sem α} {Q : α → Shared → Prop} (H : ∀ tk, wpAny M A t Q E ⟨h, g, d, tk, o⟩) : wpAny M A t Q E ⟨h, g, d, T, o⟩ := H T
end
theorem sm_truthy {prog : Program} {w : World} {A : Around} {E : Value → Shared → Prop} {h : Heap} {g : Array GenState} {d : Drawn} {T : Nat} {o : OsState} {x : Str} {t : Tok} {Q : Bool → Shared → Prop} (hx : x.length ≤ 1001) (H : ∀ tk, Q ((x.length : Int) != 0) ⟨h, g, d, tk, o⟩) : wpAny (model prog w) A (truthy (.str x t)) Q E ⟨h, g, d, T, o⟩ := SBL.truthy (by omega) (H _)
theorem sm_store {prog : Program} {w : World} {A : Around} {E : Value → Shared → Prop} {h₀ h : Heap} {g : Array GenState} {d : Drawn} {T : Nat} {o : OsState} {L a : Addr} {m : Str → Option Value} {cn : Str} {cs : Scope} {ccd : Value} {cl : List (Str × Addr)} {x : Str} {v : Value} {Q : Unit → Shared → Prop} {news : List (Addr × Obj)}
    (F : Fr h₀ L h m) (N : News h₀ L h news) (H : ∀ h' tk, Fr h₀ L h' (fun y => if y = x then some v else m y) → News h₀ L h' news → Q () ⟨h', g, d, tk, o⟩) (hk : cs.kind = .function) (hl : (envX cn cs L a ccd cl).kindOf x = some .local) :
    wpAny (model prog w) A (storeName (envX cn cs L a ccd cl) x v) Q E ⟨h, g, d, T, o⟩ := storeX_L F N (fun h' F' N' => H h' _ F' N') hk hl
end Mine
namespace Mine
open PySem PySem.W PyProof.Rows PySem.Calls
set_option maxRecDepth 100000
theorem sub_str : isSubtype (.type "str") (.type "str") = pure true := by rw [isSubtype_type]; kernel_rfl
theorem kind_isn : builtinKind "issubclass.nested" = none := by decide +kernel
theorem plain_isn : plainId "issubclass.nested" = true := by decide +kernel
theorem args_isn (a b c : Value) : argsOk "issubclass.nested" ⟨[a, b, c], []⟩ := by unfold argsOk; kernel_rfl
set_option maxHeartbeats 1000000 in
theorem issub_nested {prog : Program} {w : World} {A : Around} {E : Value → Shared → Prop} {s : Shared} {Q : Fin → Shared → Prop} {dep : Int} {tk : Tok} (hq : Q (.done (.ret (.bool true))) s) :
    wpAny (model prog w) A (Builtin.«issubclass.nested» ⟨[.type "str", .type "str", .int dep tk], []⟩) Q E s := by
  have hm : (Value.type "type" == Value.type "type") = true := by decide
  have h0 := sub_str
  repeat (any_goals (first | assumption | (rw [if_pos hm]) | (rw [h0]) | wp_step))
theorem issub_nested_m (dep : Int) (tk : Tok) : Meets (Builtin.«issubclass.nested» ⟨[.type "str", .type "str", .int dep tk], []⟩) (fun _ R s => R (.ok (.ret (.bool true))) s) :=
  fun _ _ _ _ _ hs => issub_nested hs
set_option maxHeartbeats 1000000 in
theorem issub_tuple {prog : Program} {w : World} {A : Around} {E : Value → Shared → Prop} {s : Shared} {Q : Fin → Shared → Prop} {tp : Addr} {dd : Option Addr} {n : Nat} {sl : Array (Option Value)} {tk : Tok}
    (ht : s.heap.get? tp = some ⟨.type "tuple", dd, .seq #[.type "str", .type "bytes"] n, sl⟩) (hq : Q (.done (.ret (.bool true))) s) :
    wpAny (model prog w) A (Builtin.«issubclass.nested» ⟨[.type "str", .ref tp, .int 0 tk], []⟩) Q E s := by
  have hT2 : s.TypeIs (.ref tp) "tuple" := ⟨_, ht, rfl⟩
  have f1 := F.isi_sub_tuple
  have hm : (Value.type "tuple" == Value.type "type") = false := by decide
  repeat (any_goals (first | assumption | (rw [if_neg (fun q => by rw [hm] at q; exact Bool.noConfusion q)]) | (refine call_function_meets kind_isn plain_isn F.entry_issubclass_nested (args_isn _ _ _) (issub_nested_m _ _) ?_) | wp_step))
theorem issub_call {prog : Program} {w : World} {A : Around} {E : Value → Shared → Prop} {s : Shared} {Q : Value → Shared → Prop} {tp : Addr} {dd : Option Addr} {n : Nat} {sl : Array (Option Value)}
    (ht : s.heap.get? tp = some ⟨.type "tuple", dd, .seq #[.type "str", .type "bytes"] n, sl⟩) (hq : Q (.bool true) s) :
    wpAny (model prog w) A (call (.builtin "issubclass") [.type "str", .ref tp]) Q E s :=
  call_issubclass (S := fun _ R s => s.heap.get? tp = some ⟨.type "tuple", dd, .seq #[.type "str", .type "bytes"] n, sl⟩ ∧ R (.ok (.ret (.bool true))) s)
    (fun _ _ _ _ _ hs => issubclass_outer (issub_tuple hs.1 hs.2)) ⟨ht, hq⟩
end Mine
namespace Mine
open PySem PySem.W PyProof.Rows PySem.Calls
set_option maxRecDepth 100000

/-- the def at f, called upon vs, hands back R and leaves all that was as it was -/
noncomputable abbrev Txt (w : World) (f : Addr) (k : Nat) (pre : Prop) (vs : List Value) (R : Tok → Value) : Prop :=
  ∀ (loose : List Str) (mean : ExcName → Option Value) (mg mb : Str → Option Value) (news : List (Addr × Obj)) (dp un : Nat) (gd : Option (List Code)) (cn : Str) (cs : Scope) (a : Addr) (ccd : Value) (cl : List (Str × Addr)) (outer : List Env) (A₀ : Around) (base h₀ : Heap) (L : Addr) (m : Str → Option Value) (s : Shared) (Q E : Value → Shared → Prop),
    Below A₀ base outer h₀ → Fr h₀ L s.heap m → (hd.heap_39 w.params).In h₀ → News h₀ L s.heap news → Top topProg loose mean mg mb h₀ → cs.kind = .function →
    pre → dp + k < recursionLimit → un + 10 * k < cLine → CbRet h₀ L m news s Q R →
      wpAny (model PySem.Challenge.rw_ik0183_01.row.prog w) (ktrTop dp un gd cn cs L a ccd cl outer) (call (.ref f) vs) Q E s


set_option maxHeartbeats 8000000 in
theorem c_fspath (w : World) (x : Str) (t : Tok) : Txt w 125 2 (x.length ≤ 1000) [.str x t] (fun t => .str x t) := by
  unfold Txt
  w_top off
  k_fill
  dsimp only [CbRet]
  intros
  rename_i hret
  refine wpAny_call ?_
  k_dflt cell_enter
  k_with_none
  (k_with "call builtin:issubclass" => ((k_here; (with_reducible show wpAny _ _ (call _ [Value.type "str", Value.ref _]) _ _ _); k_dflt (refine' issub_call ?k1 ?_; (case k1 => kit_tp)); k_whole)))
  w_strict k_steps
  all_goals (try cb_end hret)
  all_goals trace_state
#print axioms c_fspath
end Mine
namespace Mine
open PySem PySem.W PyProof.Rows PySem.Calls
set_option maxRecDepth 100000

noncomputable abbrev TupRet (h₀ : Heap) (L : Addr) (m : Str → Option Value) (news : List (Addr × Obj)) (s : Shared) (Q : Value → Shared → Prop) (a b c : Str) : Prop :=
  ∀ (D : Addr) (h' : Heap) (tk' : Nat) (t1 t2 t3 : Tok), Fr h₀ L h' m → News h₀ L h' ((D, { cls := .type "tuple", data := .seq #[.str a t1, .str b t2, .str c t3] }) :: news) → (∀ q ∈ news, q.1 < D) → Q (.ref D) { s with heap := h', toks := tk' }
noncomputable abbrev Dfn (w : World) (f : Addr) (k : Nat) (pre : Prop) (vs : List Value) (Ret : Heap → Addr → (Str → Option Value) → List (Addr × Obj) → Shared → (Value → Shared → Prop) → Prop) : Prop :=
  ∀ (loose : List Str) (mean : ExcName → Option Value) (mg mb : Str → Option Value) (news : List (Addr × Obj)) (dp un : Nat) (gd : Option (List Code)) (cn : Str) (cs : Scope) (a : Addr) (ccd : Value) (cl : List (Str × Addr)) (outer : List Env) (A₀ : Around) (base h₀ : Heap) (L : Addr) (m : Str → Option Value) (s : Shared) (Q E : Value → Shared → Prop),
    Below A₀ base outer h₀ → Fr h₀ L s.heap m → (hd.heap_39 w.params).In h₀ → News h₀ L s.heap news → Top topProg loose mean mg mb h₀ → cs.kind = .function →
    pre → dp + k < recursionLimit → un + 10 * k < cLine → Ret h₀ L m news s Q →
      wpAny (model PySem.Challenge.rw_ik0183_01.row.prog w) (ktrTop dp un gd cn cs L a ccd cl outer) (call (.ref f) vs) Q E s

noncomputable def srRoot (x : Str) : Str := if (Txt.slice x none (some 1) != Str.ofString "/") = true then Str.ofString "" else
  if (Txt.slice x (some 1) (some 2) != Str.ofString "/") = true then Str.ofString "/" else
  if (Txt.slice x (some 2) (some 3) == Str.ofString "/") = true then Str.ofString "/" else Txt.slice x none (some 2)
noncomputable def srRest (x : Str) : Str := if (Txt.slice x none (some 1) != Str.ofString "/") = true then x else
  if (Txt.slice x (some 1) (some 2) != Str.ofString "/") = true then Txt.slice x (some 1) none else
  if (Txt.slice x (some 2) (some 3) == Str.ofString "/") = true then Txt.slice x (some 1) none else Txt.slice x (some 2) none
set_option maxHeartbeats 8000000 in
theorem c_get_sep (w : World) (x : Str) (t : Tok) : Txt w 139 2 (x.length ≤ 1000) [.str x t] (fun t => .str (Str.ofString "/") t) := by
  unfold Txt
  w_top off
  k_fill
  dsimp only [CbRet]
  intros
  rename_i hret
  refine wpAny_call ?_
  k_dflt cell_enter
  k_with_none
  (k_with "call ref" => ((k_here; (with_reducible show wpAny _ _ (call (Value.ref 125) [Value.str _ _]) _ _ _); k_dflt (refine' c_fspath _ _ _ _ _ _ _ _ _ _ _ _ _ _ _ _ _ _ _ _ _ _ _ _ _ ?k1 ?k2 ?k3 ?k4 ?k5 ?kK ?kp ?kd ?ku ?kR); (case k1 => k_asm); (case k2 => k_asm); (case k3 => k_asm); (case k4 => k_asm); (case k5 => k_asm); (case kK => exact rfl); (case kp => first | assumption | omega); (case kd => ktr_room); (case ku => ktr_units); intro t9 h9 tk9 F9 N9; (try dsimp only); (try k_fold))))
  (k_with "eval Constant str" => ((refine sm_str ?_; intro tA' tB')))
  (k_with "eval Constant int" => ((refine sm_int ?_; intro tA' tB')))
  (k_with "storeName" => ((k_here; k_dflt (refine' sm_store ?Fss ?Nss ?_ ?ass ?bss; (case Fss => k_asm); (case Nss => k_asm); (case ass => rfl); (case bss => rfl); k_whole; intro h' tk' F' N'; (try k_sweep)))))
  (k_with "truthy str" => ((k_here; (with_reducible show wpAny _ _ (truthy (Value.str _ _)) _ _ _); refine' sm_truthy ?bst ?_; (case bst => first | assumption | omega); intro tk')))
  (k_with "eval Name" => ((k_here; k_dflt (refine' nameX_L ?Fsn ?vsn ?_ ?asn ?bsn; (case Fsn => k_asm); (case asn => rfl); (case bsn => rfl); (case vsn => first | exact Eq.refl (some _) | assumption); k_whole))))
  w_strict k_steps
  all_goals cb_end hret
set_option maxHeartbeats 8000000 in
theorem c_splitroot (w : World) (x : Str) (t : Tok) : Dfn w 153 4 (x.length ≤ 1000) [.str x t] (fun h₀ L m news s Q => TupRet h₀ L m news s Q (Str.ofString "") (srRoot x) (srRest x)) := by
  unfold Dfn
  w_top off
  k_fill
  dsimp only [TupRet]
  intros
  rename_i hret
  refine wpAny_call ?_
  k_dflt cell_enter
  k_with_none
  (k_with "call ref" => ((k_here; (with_reducible show wpAny _ _ (call (Value.ref 125) [Value.str _ _]) _ _ _); k_dflt (refine' c_fspath _ _ _ _ _ _ _ _ _ _ _ _ _ _ _ _ _ _ _ _ _ _ _ _ _ ?k1 ?k2 ?k3 ?k4 ?k5 ?kK ?kp ?kd ?ku ?kR); (case k1 => k_asm); (case k2 => k_asm); (case k3 => k_asm); (case k4 => k_asm); (case k5 => k_asm); (case kK => exact rfl); (case kp => first | assumption | omega); (case kd => ktr_room); (case ku => ktr_units); intro t9 h9 tk9 F9 N9; (try dsimp only); (try k_fold))))
  (k_with "eval Constant str" => ((refine sm_str ?_; intro tA' tB')))
  (k_with "eval Constant int" => ((refine sm_int ?_; intro tA' tB')))
  (k_with "storeName" => ((k_here; k_dflt (refine' sm_store ?Fss ?Nss ?_ ?ass ?bss; (case Fss => k_asm); (case Nss => k_asm); (case ass => rfl); (case bss => rfl); k_whole; intro h' tk' F' N'; (try k_sweep)))))
  (k_with "truthy str" => ((k_here; (with_reducible show wpAny _ _ (truthy (Value.str _ _)) _ _ _); refine' sm_truthy ?bst ?_; (case bst => first | assumption | omega); intro tk')))
  (k_with "eval Name" => ((k_here; k_dflt (refine' nameX_L ?Fsn ?vsn ?_ ?asn ?bsn; (case Fsn => k_asm); (case asn => rfl); (case bsn => rfl); (case vsn => first | exact Eq.refl (some _) | assumption); k_whole))))
  w_strict k_steps
  all_goals (try unfold srRoot srRest at hret; simp only [*, if_true, if_false, Bool.false_eq_true] at hret; refine hret _ _ _ _ _ _ (by assumption) (by assumption) (by assumption))
end Mine
namespace Mine
open PySem PySem.W PyProof.Rows PySem.Calls
set_option maxRecDepth 100000

/-- the end of a turn of a loop over a list: the iterator I as it is, the ledger nx beside it -/
noncomputable def TurnEnd (h₀ : Heap) (L : Addr) (J : (Str → Option Value) → List (Addr × Obj) → Prop) (I : Addr) (oI : Obj) (s₁ s₂ : Shared) : Prop :=
  ∃ h' tk m' nx, s₂ = { s₁ with heap := h', toks := tk } ∧ Fr h₀ L h' m' ∧ News h₀ L h' ((I, oI) :: nx) ∧ (∀ p ∈ nx, p.1 ≠ I) ∧ J m' nx
noncomputable def TurnPost (h₀ : Heap) (L : Addr) (J : (Str → Option Value) → List (Addr × Obj) → Prop) (I : Addr) (oI : Obj) (s₁ : Shared) (Q : Flow → Shared → Prop) (f : Flow) (s₂ : Shared) : Prop :=
  match f with
  | .ret v => Q (.ret v) s₂
  | .brk => Q .next s₂
  | _ => TurnEnd h₀ L J I oI s₁ s₂

section
variable {prog : Program} {w : World} {A : Around} {E : Value → Shared → Prop} {s : Shared} {env : Env} {h₀ : Heap} {x : Str} {body : List Stmt} {Q : Flow → Shared → Prop}

/-- a for over an object of the ledger by an iterator I that stands outside it; the ledger may grow and change, the object stays -/
theorem loop_core {I l : Addr} {ol : Obj} {n : Nat} {P : Nat → Value → Prop} {St : Nat → Heap → Prop} {m₀ : Str → Option Value} {news : List (Addr × Obj)} (J : Nat → (Str → Option Value) → List (Addr × Obj) → Prop)
    (W : Walks prog w A I [I, l] [I] n P St) (hS : ∀ i h, St i h → ∃ oI, h.get? I = some oI) (h0 : h₀.get? I = none) (hIL : env.locals ≠ I) (hoff₀ : ∀ p ∈ news, p.1 ≠ I)
    (hl : (l, ol) ∈ news) (hst : St 0 s.heap) (F : Fr h₀ env.locals s.heap m₀) (N : News h₀ env.locals s.heap news) (hj : J 0 m₀ news)
    (turn : ∀ i v m₁ nx h tk oI, i < n → P i v → (∀ p ∈ nx, p.1 ≠ I) → (l, ol) ∈ nx → J i m₁ nx → Fr h₀ env.locals h (fun y => if y = x then some v else m₁ y) → News h₀ env.locals h ((I, oI) :: nx) →
      wpAny (model prog w) A (execs body env) (TurnPost h₀ env.locals (fun m' nx' => (l, ol) ∈ nx' ∧ J (i + 1) m' nx') I oI { s with heap := h, toks := tk } Q) E { s with heap := h, toks := tk })
    (done : ∀ m₁ nx h tk, (l, ol) ∈ nx → J n m₁ nx → Fr h₀ env.locals h m₁ → News h₀ env.locals h nx → Q .next { s with heap := h, toks := tk }) :
    LoopAtV prog w A h₀ env x body Q E (.ref I) s := by
  refine ⟨I, [I, l], [I], n, P, St, m₀, news, fun i m nx => (l, ol) ∈ nx ∧ J i m nx, rfl, W, ?_, ?_, ?_, hst, F, N, ⟨hl, hj⟩, ?_, ?_⟩
  · intro hm
    simp only [List.mem_cons, List.not_mem_nil, or_false] at hm
    rcases hm with e | e
    · exact hIL e
    · exact (N _ hl).2.1 e.symm
  · intro b hb
    rw [List.mem_singleton.mp hb]
    exact h0
  · intro p hp hI
    exact hoff₀ p hp (List.mem_singleton.mp hI)
  · rintro i v m₁ nx s₁ own ⟨h, tk, rfl⟩ hin hP ⟨hl₁, hJ⟩ hoff hown hget hfp hSt F₁ N₁
    obtain ⟨oI, hoI⟩ := hS _ _ hSt
    have hoI : h.get? I = some oI := hoI
    have hIin : (I, oI) ∈ own := hfp _ (List.mem_cons_self ..) h0 oI hoI
    have hoff' : ∀ p ∈ nx, p.1 ≠ I := fun p hp e => hoff p hp (by rw [e]; exact List.mem_singleton.mpr rfl)
    have N₂ : News h₀ env.locals h ((I, oI) :: nx) := fun p hp => N₁ p (by
      rcases List.mem_cons.mp hp with rfl | hp
      · exact List.mem_append_left _ hIin
      · exact List.mem_append_right _ hp)
    have ended : ∀ s₂, TurnEnd h₀ env.locals (fun m' nx' => (l, ol) ∈ nx' ∧ J (i + 1) m' nx') I oI { s with heap := h, toks := tk } s₂ →
        LoopStepU h₀ env.locals [I] own (fun m nx => (l, ol) ∈ nx ∧ J (i + 1) m nx) { s with heap := h, toks := tk } .next s₂ := by
      rintro s₂ ⟨h', tk', m', nx', e, F', N', ho', hm⟩
      refine ⟨rfl, h', tk', m', nx', e, F', fun p hp => ?_, fun p hp hI => ho' p hp (List.mem_singleton.mp hI), hm⟩
      rcases List.mem_append.mp hp with hq | hq
      · have hw := hown p hq
        simp only [List.mem_cons, List.not_mem_nil, or_false] at hw
        have hg := hget p hq
        dsimp only at hg
        rcases hw with e1 | e1
        · have : p = (I, oI) := Prod.ext e1 (by rw [e1, hoI] at hg; exact (Option.some.inj hg).symm)
          rw [this]; exact N' _ (List.mem_cons_self ..)
        · have hlo := (N₁ _ (List.mem_append_right _ hl₁)).1
          dsimp only at hlo
          have : p = (l, ol) := Prod.ext e1 (by rw [e1, hlo] at hg; exact (Option.some.inj hg).symm)
          rw [this]; exact N' _ (List.mem_cons_of_mem _ hm.1)
      · exact N' _ (List.mem_cons_of_mem _ hq)
    refine wpAny_mono (turn i v m₁ nx h tk oI hin hP hoff' hl₁ hJ F₁ N₂) (fun f s₂ p => ?_) fun _ _ e => e
    cases f with
    | ret v => exact .ret p
    | brk => exact .brk p
    | next => exact .next (ended _ p)
    | cont => exact .cont (ended _ p)
  · rintro h' tk m' nx F' N' _ ⟨hl', hJ⟩
    exact done m' nx h' tk hl' hJ F' N'

/-- a for over a list of the ledger, whatever it holds -/
theorem loop_list {l : Addr} {vs : List Value} {nn : Nat} {m₀ : Str → Option Value} {news : List (Addr × Obj)} (J : Nat → (Str → Option Value) → List (Addr × Obj) → Prop)
    (hh : A.handled = none) (hl : (l, listOf vs.toArray nn) ∈ news) (F : Fr h₀ env.locals s.heap m₀) (N : News h₀ env.locals s.heap news) (hj : J 0 m₀ news)
    (turn : ∀ i v m₁ nx h tk I oI, vs[i]? = some v → (∀ p ∈ nx, p.1 ≠ I) → (∀ p ∈ news, p.1 < I) → (l, listOf vs.toArray nn) ∈ nx → J i m₁ nx → Fr h₀ env.locals h (fun y => if y = x then some v else m₁ y) → News h₀ env.locals h ((I, oI) :: nx) →
      wpAny (model prog w) A (execs body env) (TurnPost h₀ env.locals (fun m' nx' => (l, listOf vs.toArray nn) ∈ nx' ∧ J (i + 1) m' nx') I oI { s with heap := h, toks := tk } Q) E { s with heap := h, toks := tk })
    (done : ∀ m₁ nx h tk, (l, listOf vs.toArray nn) ∈ nx → J vs.length m₁ nx → Fr h₀ env.locals h m₁ → News h₀ env.locals h nx → Q .next { s with heap := h, toks := tk }) :
    wpAny (model prog w) A (pyIter (.ref l)) (fun it s₂ => LoopAtV prog w A h₀ env x body Q E it s₂) E s := by
  have get := (N _ hl).1
  have isl : s.heap.IsList l vs.toArray := ⟨_, get, rfl, nn, rfl⟩
  have old : l ≠ s.heap.objs.size := Nat.ne_of_lt (Heap.lt_size get)
  have below : ∀ p ∈ news, p.1 < s.heap.objs.size := fun p hp => Heap.lt_size (N p hp).1
  refine wpAny_pyIter_list isl ?_
  have W := Walks.list (prog := prog) (w := w) hh s.heap.objs.size l old vs.toArray
  have hsz : vs.toArray.size = vs.length := by simp
  rw [hsz] at W
  refine loop_core (s := { s with heap := s.heap.push _ }) J W (fun i h hSt => hSt.1.elim fun o ho => ⟨o, ho.1⟩) (next_is_new F) (Nat.ne_of_lt F.ns.lt) (fun p hp => Nat.ne_of_lt (below p hp)) hl
    ⟨⟨_, Heap.get?_push_size _ rfl, rfl, rfl⟩, isl.at fun o e => Heap.get?_push_of_some _ e⟩ (F.push _) (fun p hp => ⟨Heap.get?_push_of_some _ (N p hp).1, (N p hp).2⟩) hj ?_ done
  intro i v m₁ nx h tk oI hi hP hoff hl₁ hJ F₁ N₁
  exact turn i v m₁ nx h tk _ oI (by simpa using hP) hoff below hl₁ hJ F₁ N₁

/-- a for over a tuple of the ledger -/
theorem loop_tup {l : Addr} {vs : List Value} {dd : Option Addr} {sl : Array (Option Value)} {nn : Nat} {m₀ : Str → Option Value} {news : List (Addr × Obj)} (J : Nat → (Str → Option Value) → List (Addr × Obj) → Prop)
    (hh : A.handled = none) (hl : (l, (⟨.type "tuple", dd, .seq vs.toArray nn, sl⟩ : Obj)) ∈ news) (F : Fr h₀ env.locals s.heap m₀) (N : News h₀ env.locals s.heap news) (hj : J 0 m₀ news)
    (turn : ∀ i v m₁ nx h tk I oI, vs[i]? = some v → (∀ p ∈ nx, p.1 ≠ I) → (∀ p ∈ news, p.1 < I) → (l, (⟨.type "tuple", dd, .seq vs.toArray nn, sl⟩ : Obj)) ∈ nx → J i m₁ nx → Fr h₀ env.locals h (fun y => if y = x then some v else m₁ y) → News h₀ env.locals h ((I, oI) :: nx) →
      wpAny (model prog w) A (execs body env) (TurnPost h₀ env.locals (fun m' nx' => (l, (⟨.type "tuple", dd, .seq vs.toArray nn, sl⟩ : Obj)) ∈ nx' ∧ J (i + 1) m' nx') I oI { s with heap := h, toks := tk } Q) E { s with heap := h, toks := tk })
    (done : ∀ m₁ nx h tk, (l, (⟨.type "tuple", dd, .seq vs.toArray nn, sl⟩ : Obj)) ∈ nx → J vs.length m₁ nx → Fr h₀ env.locals h m₁ → News h₀ env.locals h nx → Q .next { s with heap := h, toks := tk }) :
    wpAny (model prog w) A (pyIter (.ref l)) (fun it s₂ => LoopAtV prog w A h₀ env x body Q E it s₂) E s := by
  have get := (N _ hl).1
  have ist : s.heap.IsTuple l vs.toArray := ⟨_, get, rfl, nn, rfl⟩
  have old : l ≠ s.heap.objs.size := Nat.ne_of_lt (Heap.lt_size get)
  have below : ∀ p ∈ news, p.1 < s.heap.objs.size := fun p hp => Heap.lt_size (N p hp).1
  refine wpAny_pyIter_tuple ist ?_
  have W := Walks.tuple (prog := prog) (w := w) hh s.heap.objs.size l old vs.toArray
  have hsz : vs.toArray.size = vs.length := by simp
  rw [hsz] at W
  refine loop_core (s := { s with heap := s.heap.push _ }) J W (fun i h hSt => hSt.1.elim fun o ho => ⟨o, ho.1⟩) (next_is_new F) (Nat.ne_of_lt F.ns.lt) (fun p hp => Nat.ne_of_lt (below p hp)) hl
    ⟨⟨_, Heap.get?_push_size _ rfl, rfl, rfl⟩, ist.at fun o e => Heap.get?_push_of_some _ e⟩ (F.push _) (fun p hp => ⟨Heap.get?_push_of_some _ (N p hp).1, (N p hp).2⟩) hj ?_ done
  intro i v m₁ nx h tk oI hi hP hoff hl₁ hJ F₁ N₁
  exact turn i v m₁ nx h tk _ oI (by simpa using hP) hoff below hl₁ hJ F₁ N₁

theorem strs_get : ∀ {vs : List Value} {ys : List Str}, StrsAre vs ys → ∀ {i : Nat} {v : Value}, vs[i]? = some v → ∃ y t, v = .str y t ∧ ys[i]? = some y
  | _, _, .nil, i, v, e => by simp at e
  | _, _, .cons m t h, 0, v, e => by simp at e; exact ⟨m, t, e.symm, rfl⟩
  | _, _, .cons m t h, i + 1, v, e => by simpa using strs_get h (by simpa using e)

/-- a for over a list of texts whose turns turn the texts of one list, the ledger's first -/
theorem loop_acc {l : Addr} {vs : List Value} {ys : List Str} {nn : Nat} {m₀ : Str → Option Value} {nc : Addr} {ws₀ : List Value} {xs₀ : List Str} {c₀ : Nat} {rest : List (Addr × Obj)} (f : List Str → Str → List Str)
    (hh : A.handled = none) (hl : (l, listOf vs.toArray nn) ∈ rest) (hi : StrsAre vs ys) (hw₀ : StrsAre ws₀ xs₀) (F : Fr h₀ env.locals s.heap m₀) (N : News h₀ env.locals s.heap ((nc, listOf ws₀.toArray c₀) :: rest))
    (turn : ∀ pre y post t ws c h tk I oI, ys = pre ++ y :: post → StrsAre ws (pre.foldl f xs₀) → @LT.lt Nat _ nc I → (∀ p ∈ rest, p.1 ≠ I) →
      Fr h₀ env.locals h (fun z => if z = x then some (.str y t) else m₀ z) → News h₀ env.locals h ((I, oI) :: (nc, listOf ws.toArray c) :: rest) →
      wpAny (model prog w) A (execs body env) (TurnPost h₀ env.locals (fun m' nx => ∃ ws' c', nx = (nc, listOf ws'.toArray c') :: rest ∧ StrsAre ws' (f (pre.foldl f xs₀) y) ∧ ∀ z, z ≠ x → m' z = m₀ z) I oI { s with heap := h, toks := tk } Q) E { s with heap := h, toks := tk })
    (done : ∀ ws c (u : Str → Option Value) h tk, StrsAre ws (ys.foldl f xs₀) → Fr h₀ env.locals h (fun z => if z = x then u z else m₀ z) → News h₀ env.locals h ((nc, listOf ws.toArray c) :: rest) → Q .next { s with heap := h, toks := tk }) :
    wpAny (model prog w) A (pyIter (.ref l)) (fun it s₂ => LoopAtV prog w A h₀ env x body Q E it s₂) E s := by
  refine loop_list (fun i m nx => ∃ ws c, nx = (nc, listOf ws.toArray c) :: rest ∧ StrsAre ws ((ys.take i).foldl f xs₀) ∧ ∀ z, z ≠ x → m z = m₀ z) hh (List.mem_cons_of_mem _ hl) F N ⟨ws₀, c₀, rfl, by simpa using hw₀, fun _ _ => rfl⟩ ?_ ?_
  · rintro i v m₁ nx h tk I oI hv hoff hlt _ ⟨ws, c, rfl, hws, hm⟩ F₁ N₁
    obtain ⟨y, t, rfl, hy⟩ := strs_get hi hv
    have hs : ys.take (i + 1) = ys.take i ++ [y] := by simp [List.take_add_one, hy]
    have e : ys = ys.take i ++ y :: ys.drop (i + 1) := by
      have ht := List.take_append_drop (i + 1) ys
      rw [hs, List.append_assoc] at ht
      exact ht.symm
    have em : (fun z => if z = x then some (Value.str y t) else m₁ z) = fun z => if z = x then some (Value.str y t) else m₀ z := by
      funext z
      by_cases hz : z = x
      · simp [hz]
      · simp only [if_neg hz]; exact hm z hz
    rw [em] at F₁
    have := turn _ y _ t ws c h tk I oI e hws (hlt _ (List.mem_cons_self ..)) (fun p hp => hoff p (List.mem_cons_of_mem _ hp)) F₁ N₁
    refine wpAny_mono this (fun fl s₂ p => ?_) fun _ _ e => e
    have up : TurnEnd h₀ env.locals (fun m' nx => ∃ ws' c', nx = (nc, listOf ws'.toArray c') :: rest ∧ StrsAre ws' (f ((ys.take i).foldl f xs₀) y) ∧ ∀ z, z ≠ x → m' z = m₀ z) I oI { s with heap := h, toks := tk } s₂ →
        TurnEnd h₀ env.locals (fun m' nx' => (l, listOf vs.toArray nn) ∈ nx' ∧ ∃ ws c, nx' = (nc, listOf ws.toArray c) :: rest ∧ StrsAre ws ((ys.take (i + 1)).foldl f xs₀) ∧ ∀ z, z ≠ x → m' z = m₀ z) I oI { s with heap := h, toks := tk } s₂ := by
      rintro ⟨h', tk', m', nx', e', F', N', ho', ws', c', rfl, hw', hm'⟩
      refine ⟨h', tk', m', _, e', F', N', ho', List.mem_cons_of_mem _ hl, ws', c', rfl, ?_, hm'⟩
      rw [hs, List.foldl_append]
      exact hw'
    cases fl with
    | ret v => exact p
    | brk => exact p
    | next => exact up p
    | cont => exact up p
  · rintro m₁ nx h tk _ ⟨ws, c, rfl, hws, hm⟩ F₁ N₁
    have hlen : vs.length = ys.length := hi.length
    rw [hlen, List.take_length] at hws
    refine done ws c m₁ h tk hws ?_ N₁
    have em : (fun z => if z = x then m₁ z else m₀ z) = m₁ := by
      funext z
      by_cases hz : z = x
      · simp [hz]
      · simp only [if_neg hz]; exact (hm z hz).symm
    rw [em]
    exact F₁

theorem turn_acc {L : Addr} {m₀ m' : Str → Option Value} {nc I : Addr} {oI : Obj} {xs' : List Str} {rest news' : List (Addr × Obj)} {s₁ : Shared} {h' : Heap} {tk : Nat} {ws' : List Value} {c' : Nat}
    (F : Fr h₀ L h' m') (N : News h₀ L h' news') (hI : (I, oI) ∈ news') (hn : (nc, listOf ws'.toArray c') ∈ news') (hr : ∀ p ∈ rest, p ∈ news') (hlt : @LT.lt Nat _ nc I) (ho : ∀ p ∈ rest, p.1 ≠ I) (hs : StrsAre ws' xs') (hm : ∀ z, z ≠ x → m' z = m₀ z) :
    TurnEnd h₀ L (fun m' nx => ∃ ws' c', nx = (nc, listOf ws'.toArray c') :: rest ∧ StrsAre ws' xs' ∧ ∀ z, z ≠ x → m' z = m₀ z) I oI s₁ { s₁ with heap := h', toks := tk } := by
  refine ⟨h', tk, m', (nc, listOf ws'.toArray c') :: rest, rfl, F, fun p hp => N p ?_, fun p hp => ?_, ws', c', rfl, hs, hm⟩
  · rcases List.mem_cons.mp hp with rfl | hp
    · exact hI
    · rcases List.mem_cons.mp hp with rfl | hp
      · exact hn
      · exact hr p hp
  · rcases List.mem_cons.mp hp with rfl | hp
    · exact Nat.ne_of_lt hlt
    · exact ho p hp
end
end Mine
namespace Mine
open PySem PySem.W PyProof.Rows PySem.Calls
set_option maxRecDepth 100000

section
variable {prog : Program} {w : World} {A : Around} {E : Value → Shared → Prop} {s : Shared} {h₀ : Heap} {L D : Addr} {m : Str → Option Value} {news news' : List (Addr × Obj)} {n : Nat} {ws : List Value} {xs : List Str}

theorem txt_isl (N : News h₀ L s.heap news) (hm : (D, listOf ws.toArray n) ∈ news) : s.heap.IsList D ws.toArray := ⟨_, (N _ hm).1, rfl, n, rfl⟩

theorem txt_truthy {Q : Bool → Shared → Prop} (N : News h₀ L s.heap news) (hm : (D, listOf ws.toArray n) ∈ news) (hi : StrsAre ws xs) (hb : ws.length ≤ 1001)
    (h : ∀ tk, Q (!xs.isEmpty) { s with toks := tk }) : wpAny (model prog w) A (truthy (.ref D)) Q E s :=
  wpAny_truthy_list (txt_isl N hm) (by rw [List.size_toArray]; omega) (by
    have e : (!ws.toArray.isEmpty) = !xs.isEmpty := by
      cases hi with
      | nil => rfl
      | cons _ _ _ => simp
    rw [e]; exact h _)

theorem txt_last {value slice : Expr} {u : Tok} {Q : Value → Shared → Prop} (N : News h₀ L s.heap news) (hm : (D, listOf ws.toArray n) ∈ news) (hi : StrsAre ws xs) (hb : ws.length ≤ 1001) (hne : xs.isEmpty = false)
    (h : ∀ t, Q (.str (xs.getLastD Str.empty) t) s)
    (hs : subscripted slice false (.ref D) (.int (-1) u) = operate [.ref D, .int (-1) u] (getItem (.ref D) (.int (-1) u)) := by with_unfolding_all rfl) :
    wpAny (model prog w) A (subscriptTail value slice (.ref D) (.int (-1) u)) Q E s := by
  have hlen := hi.length
  have hne' : xs ≠ [] := by intro e; rw [e] at hne; cases hne
  have hpos : 0 < xs.length := List.length_pos_iff.mpr hne'
  refine item_strs_negR (txt_isl N hm) hi (by decide) (by omega) (by decide) (fun t => ?_) hs
  have e : xs.getD (-1 + (xs.length : Int)).toNat Str.empty = xs.getLastD Str.empty := by
    have e1 : (-1 + (xs.length : Int)).toNat = xs.length - 1 := by omega
    rw [e1, List.getLastD_eq_getLast?, List.getLast?_eq_getElem?, List.getD_eq_getElem?_getD]
  rw [e]
  exact h t

theorem strs_snoc_of : ∀ {ws : List Value} {xs : List Str}, StrsAre ws xs → xs ≠ [] → ∃ vi x t, ws = vi ++ [.str x t] ∧ vi = ws.dropLast ∧ StrsAre vi xs.dropLast
  | _, _, .nil, h => absurd rfl h
  | _, _, .cons m t .nil, _ => ⟨[], m, t, rfl, rfl, .nil⟩
  | _, _, .cons m t (.cons m' t' r), _ => by
    obtain ⟨vi, x, u, e1, e2, e3⟩ := strs_snoc_of (.cons m' t' r) (by simp)
    refine ⟨.str m t :: vi, x, u, by rw [e1]; rfl, ?_, ?_⟩
    · rw [List.dropLast_cons_cons, ← e2]
    · rw [List.dropLast_cons_cons]; exact .cons m t e3

theorem txt_pop {Q : Value → Shared → Prop} (F : Fr h₀ L s.heap m) (N : News h₀ L s.heap news) (hi : StrsAre ws xs) (U : Upd D (listOf ws.toArray n) (listOf ws.dropLast.toArray (n + 1)) news news') (hb : ws.length ≤ 1001) (hne : xs.isEmpty = false)
    (h : ∀ h' v, Fr h₀ L h' m → News h₀ L h' news' → StrsAre ws.dropLast xs.dropLast → Q v { s with heap := h' }) : wpAny (model prog w) A (call (.builtin "list.pop") [.ref D]) Q E s := by
  have hne' : xs ≠ [] := by intro e; rw [e] at hne; cases hne
  obtain ⟨vi, x, t, e1, e2, e3⟩ := strs_snoc_of hi hne'
  refine kl_pop F N (p := ws.dropLast) (y := .str x t) ?_ U (by rw [sizeLine_eq]; simp only; omega) fun h' F' N' => h h' _ F' N' (e2 ▸ e3)
  have e := kpa_last (.str x t) vi
  rw [← e1, e2] at e
  exact e
end
end Mine
namespace Mine
open PySem PySem.W PyProof.Rows PySem.Calls
set_option maxRecDepth 100000
theorem srRest_short (x : Str) : (srRest x).length ≤ x.length := by
  unfold srRest
  (repeat' split) <;> first | exact Nat.le_refl _ | exact Txt.slice_le _ _ _
theorem srRoot_short (x : Str) : (srRoot x).length ≤ x.length := by
  unfold srRoot
  split
  · exact Nat.zero_le _
  · rename_i h
    have h1 : (Txt.slice x none (some 1)) = Str.ofString "/" := by simpa using h
    have h2 : 1 ≤ x.length := by
      have := Txt.slice_le x none (some 1)
      rw [h1] at this
      exact this
    (repeat' split) <;> first | exact h2 | exact Txt.slice_le _ _ _
structure Mark (x : Str) : Prop where
  le : x.length ≤ 1000
noncomputable abbrev markOf {x : Str} (_ : Mark x) : Str := srRoot x
noncomputable def npStep (root : Str) (xs : List Str) (c : Str) : List Str :=
  if (c.length : Int) = 0 then xs else
  if (c == Str.ofString ".") = true then xs else
  if (c != Str.ofString "..") = true then xs ++ [c] else
  if (root.length : Int) = 0 then
    (if xs.isEmpty = true then xs ++ [c] else if (xs.getLastD Str.empty == Str.ofString "..") = true then xs ++ [c] else xs.dropLast)
  else
    (if xs.isEmpty = true then xs else if (xs.getLastD Str.empty == Str.ofString "..") = true then xs ++ [c] else xs.dropLast)
theorem npStep_def (root : Str) (xs : List Str) (c : Str) : npStep root xs c = 
  if (c.length : Int) = 0 then xs else
  if (c == Str.ofString ".") = true then xs else
  if (c != Str.ofString "..") = true then xs ++ [c] else
  if (root.length : Int) = 0 then
    (if xs.isEmpty = true then xs ++ [c] else if (xs.getLastD Str.empty == Str.ofString "..") = true then xs ++ [c] else xs.dropLast)
  else
    (if xs.isEmpty = true then xs else if (xs.getLastD Str.empty == Str.ofString "..") = true then xs ++ [c] else xs.dropLast) := rfl
section
variable {r : Str} {xs : List Str} {c : Str} {ws : List Value} {t : Tok}
theorem s_nil (h : StrsAre ws xs) (h1 : (c.length : Int) = 0) : StrsAre ws (npStep r xs c) := by rw [npStep_def, if_pos h1]; exact h
theorem s_dot (h : StrsAre ws xs) (h1 : (c.length : Int) ≠ 0) (h2 : (c == Str.ofString ".") = true) : StrsAre ws (npStep r xs c) := by rw [npStep_def, if_neg h1, if_pos h2]; exact h
theorem s_name (h : StrsAre ws xs) (h1 : (c.length : Int) ≠ 0) (h2 : (c == Str.ofString ".") = false) (h3 : (c != Str.ofString "..") = true) : StrsAre (ws ++ [.str c t]) (npStep r xs c) := by
  rw [npStep_def, if_neg h1, if_neg (ne_true_of_eq_false h2), if_pos h3]; exact strsAre_append h (.cons _ _ .nil)
theorem s_up (h : StrsAre ws xs) (h1 : (c.length : Int) ≠ 0) (h2 : (c == Str.ofString ".") = false) (h3 : (c != Str.ofString "..") = false) (h4 : (r.length : Int) = 0) (h5 : xs.isEmpty = true) : StrsAre (ws ++ [.str c t]) (npStep r xs c) := by
  rw [npStep_def, if_neg h1, if_neg (ne_true_of_eq_false h2), if_neg (ne_true_of_eq_false h3), if_pos h4, if_pos h5]; exact strsAre_append h (.cons _ _ .nil)
theorem s_stay (h : StrsAre ws xs) (h1 : (c.length : Int) ≠ 0) (h2 : (c == Str.ofString ".") = false) (h3 : (c != Str.ofString "..") = false) (h4 : (r.length : Int) ≠ 0) (h5 : xs.isEmpty = true) : StrsAre ws (npStep r xs c) := by
  rw [npStep_def, if_neg h1, if_neg (ne_true_of_eq_false h2), if_neg (ne_true_of_eq_false h3), if_neg h4, if_pos h5]; exact h
theorem s_more (h : StrsAre ws xs) (h1 : (c.length : Int) ≠ 0) (h2 : (c == Str.ofString ".") = false) (h3 : (c != Str.ofString "..") = false) (h5 : xs.isEmpty = false) (h6 : (xs.getLastD Str.empty == Str.ofString "..") = true) : StrsAre (ws ++ [.str c t]) (npStep r xs c) := by
  rw [npStep_def, if_neg h1, if_neg (ne_true_of_eq_false h2), if_neg (ne_true_of_eq_false h3), if_neg (ne_true_of_eq_false h5), if_pos h6, if_neg (ne_true_of_eq_false h5), ite_self]; exact strsAre_append h (.cons _ _ .nil)
theorem s_pop {ws' : List Value} (h : StrsAre ws' xs.dropLast) (h1 : (c.length : Int) ≠ 0) (h2 : (c == Str.ofString ".") = false) (h3 : (c != Str.ofString "..") = false) (h5 : xs.isEmpty = false) (h6 : (xs.getLastD Str.empty == Str.ofString "..") = false) : StrsAre ws' (npStep r xs c) := by
  rw [npStep_def, if_neg h1, if_neg (ne_true_of_eq_false h2), if_neg (ne_true_of_eq_false h3), if_neg (ne_true_of_eq_false h5), if_neg (ne_true_of_eq_false h6), if_neg (ne_true_of_eq_false h5), ite_self]; exact h
theorem s_no {P : Prop} {b : Bool} (h1 : b = true) (h2 : b = false) : P := by rw [h1] at h2; cases h2
end
/-- signs and pieces -/
noncomputable def wt (xs : List Str) : Nat := (xs.map (·.length)).sum + xs.length
theorem wt_append (xs ys : List Str) : wt (xs ++ ys) = wt xs + wt ys := by
  simp only [wt, List.map_append, List.sum_append, List.length_append]; omega
theorem wt_one (c : Str) : wt [c] = c.length + 1 := by simp [wt]
theorem wt_cons (c : Str) (xs : List Str) : wt (c :: xs) = c.length + 1 + wt xs := by simp [wt]; omega
theorem wt_dropLast (xs : List Str) : wt xs.dropLast ≤ wt xs := by
  rcases List.eq_nil_or_concat xs with rfl | ⟨ys, y, rfl⟩
  · exact Nat.le_refl _
  · simp [List.dropLast_concat, wt_append]
theorem wt_step (r : Str) (xs : List Str) (c : Str) : wt (npStep r xs c) ≤ wt xs + wt [c] := by
  have h1 := wt_dropLast xs
  have h2 := wt_append xs [c]
  unfold npStep
  (repeat' split) <;> omega
theorem wt_fold (r : Str) : ∀ (ys xs : List Str), wt (ys.foldl (npStep r) xs) ≤ wt xs + wt ys
  | [], xs => by simp [wt]
  | y :: ys, xs => by
    rw [List.foldl_cons]
    have h1 := wt_fold r ys (npStep r xs y)
    have h2 := wt_step r xs y
    have h3 : wt (y :: ys) = wt [y] + wt ys := by rw [wt_cons, wt_one]
    omega
theorem np_facts {x : Str} {ys pre post : List Str} {y r : Str} (e : ys = Txt.split (srRest x) (Str.ofString "/")) (hE : ys = pre ++ y :: post) (hx : x.length ≤ 1000) :
    y.length ≤ 1000 ∧ wt (pre.foldl (npStep r) []) ≤ 1001 := by
  have h1 := split_weight (srRest x) (Str.ofString "/") (by decide +kernel)
  have h2 := srRest_short x
  have h3 : wt ys ≤ 1001 := by rw [e]; exact Nat.le_trans h1 (by omega)
  rw [hE, wt_append, wt_cons] at h3
  have h4 := wt_fold r pre []
  have h5 : wt ([] : List Str) = 0 := rfl
  omega
theorem np_facts' {x : Str} {ys : List Str} {r : Str} (e : ys = Txt.split (srRest x) (Str.ofString "/")) (hx : x.length ≤ 1000) :
    wt (ys.foldl (npStep r) []) ≤ 1001 := by
  have h1 := split_weight (srRest x) (Str.ofString "/") (by decide +kernel)
  have h2 := srRest_short x
  have h3 : wt ys ≤ 1001 := by rw [e]; exact Nat.le_trans h1 (by omega)
  have h4 := wt_fold r ys []
  have h5 : wt ([] : List Str) = 0 := rfl
  omega
theorem np_size {ws : List Value} {xs : List Str} (h : StrsAre ws xs) (hw : wt xs ≤ 1001) : ws.length ≤ 1001 := by
  have := h.length
  have := Nat.le_add_left xs.length (xs.map (·.length)).sum
  unfold wt at hw
  omega
theorem wt_len (xs : List Str) : xs.length ≤ wt xs := Nat.le_add_left _ _
noncomputable def npF (x : Str) : Str :=
  if (x.length : Int) = 0 then Str.ofString "." else
  if ((srRoot x ++ Txt.join (Str.ofString "/") ((Txt.split (srRest x) (Str.ofString "/")).foldl (npStep (srRoot x)) [])).length : Int) = 0 then Str.ofString "." else
  srRoot x ++ Txt.join (Str.ofString "/") ((Txt.split (srRest x) (Str.ofString "/")).foldl (npStep (srRoot x)) [])
theorem npF_0 {x : Str} (h : (x.length : Int) = 0) : Str.ofString "." = npF x := by unfold npF; rw [if_pos h]
theorem npF_1 {x : Str} {ys : List Str} (e : ys = Txt.split (srRest x) (Str.ofString "/")) (h : (x.length : Int) ≠ 0) (h2 : ((srRoot x ++ Txt.join (Str.ofString "/") (ys.foldl (npStep (srRoot x)) [])).length : Int) ≠ 0) :
    srRoot x ++ Txt.join (Str.ofString "/") (ys.foldl (npStep (srRoot x)) []) = npF x := by
  subst e
  unfold npF; rw [if_neg h, if_neg h2]
theorem npF_2 {x : Str} {ys : List Str} (e : ys = Txt.split (srRest x) (Str.ofString "/")) (h : (x.length : Int) ≠ 0) (h2 : ((srRoot x ++ Txt.join (Str.ofString "/") (ys.foldl (npStep (srRoot x)) [])).length : Int) = 0) :
    Str.ofString "." = npF x := by
  subst e
  unfold npF; rw [if_neg h, if_pos h2]
theorem txt_join (x : Str) (ys : List Str) : Txt.join x ys = Str.join x ys := by unfold Txt.join; exact StrLaws.glued_eq_join x ys
theorem join_wt' (x : Str) (hx : x.length = 1) : ∀ ys : List Str, (Str.join x ys).length ≤ wt ys
  | [] => Nat.zero_le _
  | [a] => by rw [wt_one]; exact Nat.le_succ _
  | a :: b :: r => by
    have h := join_wt' x hx (b :: r)
    rw [wt_cons]
    show (a ++ x ++ Str.join x (b :: r)).length ≤ _
    rw [Str.length_append, Str.length_append, hx]
    omega
theorem join_wt (x : Str) (hx : x.length = 1) (ys : List Str) : (Txt.join x ys).length ≤ wt ys := by rw [txt_join]; exact join_wt' x hx ys
theorem join_npW {prog : Program} {w : World} {A : Around} {E : Value → Shared → Prop} {s : Shared} {x : Str} {t : Tok} {Q : Value → Shared → Prop} {h₀ : Heap} {L D : Addr} {news : List (Addr × Obj)} {ws : List Value} {n : Nat} {ys : List Str} (N : News h₀ L s.heap news) (hm : (D, listOf ws.toArray n) ∈ news) (hi : StrsAre ws ys) (hsep : x.length ≤ 16) (hw : wt ys ≤ 1001)
    (h : ∀ t' k, (Txt.join x ys).length ≤ 1001 → Q (.str (Txt.join x ys) t') { s with toks := k }) (hx1 : x.length = 1) : wpAny (model prog w) A (call (.builtin "str.join") [.str x t, .ref D]) Q E s :=
  join_listW (items := ws.toArray) ⟨_, (N _ hm).1, rfl, n, rfl⟩ hi hsep (by unfold wt at hw; omega) fun t' k => h t' k (by have := join_wt x hx1 ys; omega)
set_option maxHeartbeats 8000000 in
theorem c_normpath (w : World) (x : Str) (t : Tok) : Txt w 160 8 (x.length ≤ 1000) [.str x t] (fun t => .str (npF x) t) := by
  unfold Txt
  w_top off
  k_fill
  dsimp only [CbRet]
  intros
  rename_i hret
  rename_i hpre _ _
  have hMark : Mark x := ⟨hpre⟩
  have hRoot := srRoot_short x
  have hRoot' := Nat.le_trans hRoot hpre
  refine wpAny_call ?_
  k_dflt cell_enter
  k_with_none
  (k_with "call ref" => ((k_here; (with_reducible show wpAny _ _ (call (Value.ref 125) [Value.str _ _]) _ _ _); k_dflt (refine' c_fspath _ _ _ _ _ _ _ _ _ _ _ _ _ _ _ _ _ _ _ _ _ _ _ _ _ ?k1c_fspath ?k2c_fspath ?k3c_fspath ?k4c_fspath ?k5c_fspath ?kKc_fspath ?kpc_fspath ?kdc_fspath ?kuc_fspath ?kRc_fspath); (case k1c_fspath => k_asm); (case k2c_fspath => k_asm); (case k3c_fspath => k_asm); (case k4c_fspath => k_asm); (case k5c_fspath => k_asm); (case kKc_fspath => exact rfl); (case kpc_fspath => first | assumption | omega); (case kdc_fspath => ktr_room); (case kuc_fspath => ktr_units); intro t9 h9 tk9 F9 N9; (try dsimp only); (try k_fold))))
  (k_with "call ref" => ((k_here; (with_reducible show wpAny _ _ (call (Value.ref 139) [Value.str _ _]) _ _ _); k_dflt (refine' c_get_sep _ _ _ _ _ _ _ _ _ _ _ _ _ _ _ _ _ _ _ _ _ _ _ _ _ ?k1c_get_sep ?k2c_get_sep ?k3c_get_sep ?k4c_get_sep ?k5c_get_sep ?kKc_get_sep ?kpc_get_sep ?kdc_get_sep ?kuc_get_sep ?kRc_get_sep); (case k1c_get_sep => k_asm); (case k2c_get_sep => k_asm); (case k3c_get_sep => k_asm); (case k4c_get_sep => k_asm); (case k5c_get_sep => k_asm); (case kKc_get_sep => exact rfl); (case kpc_get_sep => first | assumption | omega); (case kdc_get_sep => ktr_room); (case kuc_get_sep => ktr_units); intro t9 h9 tk9 F9 N9; (try dsimp only); (try k_fold))))
  (k_with "call ref" => ((k_here; (with_reducible show wpAny _ _ (call (Value.ref 153) [Value.str _ _]) _ _ _); k_dflt (refine' c_splitroot _ _ _ _ _ _ _ _ _ _ _ _ _ _ _ _ _ _ _ _ _ _ _ _ _ ?k1c_splitroot ?k2c_splitroot ?k3c_splitroot ?k4c_splitroot ?k5c_splitroot ?kKc_splitroot ?kpc_splitroot ?kdc_splitroot ?kuc_splitroot ?kRc_splitroot); (case k1c_splitroot => k_asm); (case k2c_splitroot => k_asm); (case k3c_splitroot => k_asm); (case k4c_splitroot => k_asm); (case k5c_splitroot => k_asm); (case kKc_splitroot => exact rfl); (case kpc_splitroot => first | assumption | omega); (case kdc_splitroot => ktr_room); (case kuc_splitroot => ktr_units); intro D' h' tk' t1' t2' t3' F' N' l1; (try k_lt l1); (try dsimp only); (try k_fold))))
  (k_with "call builtin:str.split" => ((k_here; (with_reducible show wpAny _ _ (call _ [Value.str (srRest _) _, _]) _ _ _); k_dflt (refine KSpl.split1 (by k_asm) (by k_asm) (by decide +kernel) ?_ (by first | (rw [sizeLine_eq]; exact Nat.le_trans (Nat.add_le_add_right (srRest_short _) 2) (by omega)))); intro D' l' h' k' e' a' F' N' l1; (try k_lt l1))))
  (k_with "exec For Name Name cons nil" => ((k_here; (rename Fr _ _ _ _ => lF'); (with_unfolding_all refine' For_invVF lF' ?k1np ?k2np ?_; (case k1np => exact rfl); (case k2np => exact rfl); k_whole))))
  (k_with "pyIter ref" => (((with_reducible show wpAny _ _ (pyIter (Value.ref _)) (fun it s₂ => LoopAtV _ _ _ _ _ _ _ _ _ it s₂) _ _); k_here; (rename Fr _ _ _ _ => lF'); (rename News _ _ _ _ => lN'); (rename StrsAre _ _ => lS'); (rename Mark _ => lR'); (rename _ = Txt.split _ _ => lE'); have lX' := lR'.le; (with_unfolding_all refine' loop_acc (xs₀ := []) (npStep (markOf lR')) (by rfl) ?knp ?kni .nil lF' lN' ?_ ?_; (case knp => exact List.Mem.head _); (case kni => exact lS')); (all_goals (try clear lF' lN')); (rotate_left 1); (intro ws' c' u' h' tk' hS' F' N'; have hM' := kstMark; have hW' := np_facts' (r := markOf lR') lE' lX'; have hL' := np_size hS' hW'; (try k_fold)); (rotate_left 1); (intro pre' y' post' t' ws' c' h' tk' I' oI' hE' hS' hlt' hoff' F' N'; have hM' := kstMark; obtain ⟨hY', hW'⟩ := np_facts (r := markOf lR') lE' hE' lX'; have hL' := np_size hS' hW'; (try k_fold)))))
  (k_with "call builtin:str.join" => ((k_here; (with_reducible show wpAny _ _ (call _ [Value.str _ _, Value.ref _]) _ _ _); (rename wt _ ≤ 1001 => hW'); (refine join_npW (by k_asm) (by k_mem) (by assumption) (by decide +kernel) hW' ?_ (by decide +kernel)); intro t' k' hJ')))
  (k_with "TurnPost" => ((dsimp only [TurnPost])))
  (k_with "TurnEnd" => (((rename News _ _ _ _ => nE'); (rename Fr _ _ _ _ => fE'); (rename StrsAre _ _ => sE'); (try simp only [List.push_toArray] at nE'); refine' turn_acc ?fNP nE' ?iNP ?nNP ?rNP ?lNP ?oNP ?sNP ?mNP; (case fNP => k_asm); (case iNP => exact List.mem_cons_self ..); (case nNP => exact List.mem_cons_of_mem _ (List.mem_cons_self ..)); (case rNP => exact (fun p hp => List.mem_cons_of_mem _ (List.mem_cons_of_mem _ hp))); (case lNP => assumption); (case oNP => assumption); (case mNP => exact (fun z hz => if_neg hz)); (case sNP => first | (refine s_nil sE' ?_ <;> assumption) | (refine s_dot sE' ?_ ?_ <;> assumption) | (refine s_name sE' ?_ ?_ ?_ <;> assumption) | (refine s_up sE' ?_ ?_ ?_ ?_ ?_ <;> assumption) | (refine s_stay sE' ?_ ?_ ?_ ?_ ?_ <;> assumption) | (refine s_more sE' ?_ ?_ ?_ ?_ ?_ <;> assumption) | (refine s_pop sE' ?_ ?_ ?_ ?_ ?_ <;> assumption) | ((rename List.isEmpty _ = true => aE'); (rename List.isEmpty _ = false => bE'); exact s_no aE' bE')))))
  (k_with "truthy ref" => ((k_here; (with_reducible show wpAny _ _ (truthy (Value.ref _)) _ _ _); (refine txt_truthy (by k_asm) (by k_mem) (by assumption) (by assumption) ?_); intro k')))
  (k_with "subscriptTail Name UnaryOp ref int" => ((k_here; (with_reducible show wpAny _ _ (subscriptTail _ _ (Value.ref _) (Value.int _ _)) _ _ _); (k_dflt (refine txt_last (by k_asm) (by k_mem) (by assumption) (by assumption) (by assumption) ?_ (by with_unfolding_all rfl))); intro t')))
  (k_with "call builtin:list.pop" => ((k_here; (with_reducible show wpAny _ _ (call (Value.builtin _) [Value.ref _]) _ _ _); (k_dflt (refine' txt_pop ?Ftp ?Ntp ?itp ?Utp ?btp ?htp ?_; (case Ftp => k_asm); (case Ntp => k_asm); (case itp => assumption); (case Utp => k_upd); (case btp => assumption); (case htp => assumption))); intro h' v' F' N' S')))
  (k_with "binaryOp Add str str" => ((k_here; (with_reducible show wpAny _ _ (binaryOp Operator.Add (Value.str _ _) (Value.str _ _)) _ _ _); (refine add_str ?_ (by rw [sizeLine_eq]; omega)); intro t' k')))
  (k_with "eval Constant str" => ((refine sm_str ?_; intro tA' tB')))
  (k_with "eval Constant int" => ((refine sm_int ?_; intro tA' tB')))
  (k_with "storeName" => ((k_here; k_dflt (refine' sm_store ?Fss ?Nss ?_ ?ass ?bss; (case Fss => k_asm); (case Nss => k_asm); (case ass => rfl); (case bss => rfl); k_whole; intro h' tk' F' N'; (try k_sweep)))))
  (k_with "truthy str" => ((k_here; (with_reducible show wpAny _ _ (truthy (Value.str _ _)) _ _ _); refine' sm_truthy ?bst ?_; (case bst => first | assumption | omega); intro tk')))
  (k_with "eval Name" => ((k_here; k_dflt (refine' nameX_L ?Fsn ?vsn ?_ ?asn ?bsn; (case Fsn => k_asm); (case asn => rfl); (case bsn => rfl); (case vsn => first | exact Eq.refl (some _) | assumption); k_whole))))
  w_strict k_steps
  all_goals (refine' cb_retS hret ?e1 ?e2 ?e3; (case e2 => k_asm); (case e3 => first | k_asm | (refine' cb_drop ?cbN ?cbS; (case cbN => assumption); (case cbS => kcj_all))); (case e1 => first | exact npF_0 (by assumption) | exact npF_1 (by assumption) (by assumption) (by assumption) | exact npF_2 (by assumption) (by assumption) (by assumption)))
end Mine
namespace Mine
open PySem PySem.W PyProof.Rows PySem.Calls
set_option maxRecDepth 100000
section
variable {prog : Program} {w : World} {A : Around} {E : Value → Shared → Prop} {s : Shared} {env : Env} {h₀ : Heap} {x : Str} {body : List Stmt} {Q : Flow → Shared → Prop}
/-- a for over a tuple of one item whose turn stores one text -/
theorem loop_one {l : Addr} {v : Value} {dd : Option Addr} {sl : Array (Option Value)} {nn : Nat} {m₀ : Str → Option Value} {news : List (Addr × Obj)} (nm g : Str)
    (hh : A.handled = none) (hl : (l, (⟨.type "tuple", dd, .seq #[v] nn, sl⟩ : Obj)) ∈ news) (F : Fr h₀ env.locals s.heap m₀) (N : News h₀ env.locals s.heap news)
    (turn : ∀ h tk I oI, (∀ p ∈ news, p.1 < I) → Fr h₀ env.locals h (fun z => if z = x then some v else m₀ z) → News h₀ env.locals h ((I, oI) :: news) →
      wpAny (model prog w) A (execs body env) (TurnPost h₀ env.locals (fun m' nx => nx = news ∧ (∃ t, m' nm = some (.str g t)) ∧ ∀ z, z ≠ x → z ≠ nm → m' z = m₀ z) I oI { s with heap := h, toks := tk } Q) E { s with heap := h, toks := tk })
    (done : ∀ (u : Str → Option Value) t h tk, Fr h₀ env.locals h (fun z => if z = nm then some (.str g t) else if z = x then u z else m₀ z) → News h₀ env.locals h news → Q .next { s with heap := h, toks := tk }) :
    wpAny (model prog w) A (pyIter (.ref l)) (fun it s₂ => LoopAtV prog w A h₀ env x body Q E it s₂) E s := by
  refine loop_tup (vs := [v]) (fun i m nx => nx = news ∧ match i with | 0 => m = m₀ | _ => (∃ t, m nm = some (.str g t)) ∧ ∀ z, z ≠ x → z ≠ nm → m z = m₀ z) hh hl F N ⟨rfl, rfl⟩ ?_ ?_
  · rintro i v' m₁ nx h tk I oI hv hoff hlt _ ⟨rfl, hm⟩ F₁ N₁
    cases i with
    | succ j => simp at hv
    | zero =>
      simp at hv
      subst hv
      have hm : m₁ = m₀ := hm
      subst hm
      refine wpAny_mono (turn h tk I oI hlt F₁ N₁) (fun fl s₂ p => ?_) fun _ _ e => e
      cases fl with
      | ret v => exact p
      | brk => exact p
      | next =>
        obtain ⟨h', tk', m', nx', e', F', N', ho', rfl, hm'⟩ := p
        exact ⟨h', tk', m', _, e', F', N', ho', hl, rfl, hm'⟩
      | cont =>
        obtain ⟨h', tk', m', nx', e', F', N', ho', rfl, hm'⟩ := p
        exact ⟨h', tk', m', _, e', F', N', ho', hl, rfl, hm'⟩
  · rintro m₁ nx h tk _ ⟨rfl, ⟨t, ht⟩, hm⟩ F₁ N₁
    refine done m₁ t h tk ?_ N₁
    have em : (fun z => if z = nm then some (Value.str g t) else if z = x then m₁ z else m₀ z) = m₁ := by
      funext z
      by_cases h1 : z = nm
      · simp [h1, ht]
      · by_cases h2 : z = x
        · simp only [if_neg h1, if_pos h2]
        · simp only [if_neg h1, if_neg h2]; exact (hm z h2 h1).symm
    rw [em]
    exact F₁
theorem turn_one {L : Addr} {m₀ m' : Str → Option Value} {I : Addr} {oI : Obj} {nm g : Str} {news news' : List (Addr × Obj)} {s₁ : Shared} {h' : Heap} {tk : Nat} {t : Tok}
    (F : Fr h₀ L h' m') (N : News h₀ L h' news') (hn : ∀ p ∈ (I, oI) :: news, p ∈ news') (hlt : ∀ p ∈ news, p.1 < I) {g' : Str} (hv : m' nm = some (.str g' t)) (hg : g' = g) (hm : ∀ z, z ≠ x → z ≠ nm → m' z = m₀ z) :
    TurnEnd h₀ L (fun m' nx => nx = news ∧ (∃ t, m' nm = some (.str g t)) ∧ ∀ z, z ≠ x → z ≠ nm → m' z = m₀ z) I oI s₁ { s₁ with heap := h', toks := tk } :=
  ⟨h', tk, m', news, rfl, F, fun p hp => N p (hn p hp), fun p hp => Nat.ne_of_lt (hlt p hp), rfl, ⟨t, hg ▸ hv⟩, hm⟩
end
structure Mark2 (x y : Str) : Prop where
  le : x.length ≤ 300 ∧ y.length ≤ 300
noncomputable def joinF (x y : Str) : Str :=
  if Txt.startswith y (Str.ofString "/") = true then y else
  if (x.length : Int) = 0 then y else
  if Txt.endswith x (Str.ofString "/") = true then x ++ y else x ++ (Str.ofString "/" ++ y)
theorem j1 {x y : Str} (h : Txt.startswith y (Str.ofString "/") = true) : y = joinF x y := by unfold joinF; rw [if_pos h]
theorem j2 {x y : Str} (h : Txt.startswith y (Str.ofString "/") = false) (h2 : (x.length : Int) = 0) : y = joinF x y := by unfold joinF; rw [if_neg (ne_true_of_eq_false h), if_pos h2]
theorem j3 {x y : Str} (h : Txt.startswith y (Str.ofString "/") = false) (h2 : (x.length : Int) ≠ 0) (h3 : Txt.endswith x (Str.ofString "/") = true) : x ++ y = joinF x y := by
  unfold joinF; rw [if_neg (ne_true_of_eq_false h), if_neg h2, if_pos h3]
theorem j4 {x y : Str} (h : Txt.startswith y (Str.ofString "/") = false) (h2 : (x.length : Int) ≠ 0) (h3 : Txt.endswith x (Str.ofString "/") = false) : x ++ (Str.ofString "/" ++ y) = joinF x y := by
  unfold joinF; rw [if_neg (ne_true_of_eq_false h), if_neg h2, if_neg (ne_true_of_eq_false h3)]
noncomputable abbrev joinOf {x y : Str} (_ : Mark2 x y) : Str := joinF x y
set_option maxHeartbeats 8000000 in
theorem c_join (w : World) (x y : Str) (t u : Tok) : Txt w 146 6 (x.length ≤ 300 ∧ y.length ≤ 300) [.str x t, .str y u] (fun t => .str (joinF x y) t) := by
  unfold Txt
  w_top off
  k_fill
  dsimp only [CbRet]
  intros
  rename_i hkf hpre hdp hun hret
  have hMark : Mark2 x y := ⟨hpre⟩
  obtain ⟨hpx, hpy⟩ := hpre
  have hpx' : x.length ≤ 1000 := by omega
  have hpy' : y.length ≤ 1000 := by omega
  refine wpAny_call ?_
  k_dflt (refine' kp_rest ?k1 ?k2 ?k3 ?k4 ?k5 ?kA ?kF ?kK ?k6 ?k7 ?k8 ?kV ?kP ?kG ?kB ?_ ?c2 ?c3 ?c4 ?c5; (case kA => exact rfl); (case kF => exact rfl); (case kK => exact hkf); (case k1 => k_asm); (case k2 => k_asm); (case k3 => k_asm); (case k4 => k_asm); (case k5 => k_asm); (case k6 => k_is); (case k7 => k_is); (case k8 => ktr_room); (case kV => kl_lit); (case kP => exact rfl); (case kG => exact fun _ => rfl); (case kB => exact fun _ => locs rfl); (case c5 => decide); (case c2 => exact rfl); (case c3 => exact rfl); (case c4 => exact rfl); k_whole; intro D' g' L' h' l1 FG' F' N' B' X' T'; (try k_lt l1); (try dsimp only); (try k_lift B'); (try k_fold))
  k_with_none
  (k_with "call ref" => ((k_here; (with_reducible show wpAny _ _ (call (Value.ref 125) [Value.str _ _]) _ _ _); k_dflt (refine' c_fspath _ _ _ _ _ _ _ _ _ _ _ _ _ _ _ _ _ _ _ _ _ _ _ _ _ ?k1c_fspath ?k2c_fspath ?k3c_fspath ?k4c_fspath ?k5c_fspath ?kKc_fspath ?kpc_fspath ?kdc_fspath ?kuc_fspath ?_); (case k1c_fspath => k_asm); (case k2c_fspath => k_asm); (case k3c_fspath => k_asm); (case k4c_fspath => k_asm); (case k5c_fspath => k_asm); (case kKc_fspath => exact rfl); (case kpc_fspath => first | assumption | omega); (case kdc_fspath => ktr_room); (case kuc_fspath => ktr_units); intro t9 h9 tk9 F9 N9; (try dsimp only); (try k_fold))))
  (k_with "call ref" => ((k_here; (with_reducible show wpAny _ _ (call (Value.ref 139) [Value.str _ _]) _ _ _); k_dflt (refine' c_get_sep _ _ _ _ _ _ _ _ _ _ _ _ _ _ _ _ _ _ _ _ _ _ _ _ _ ?k1c_get_sep ?k2c_get_sep ?k3c_get_sep ?k4c_get_sep ?k5c_get_sep ?kKc_get_sep ?kpc_get_sep ?kdc_get_sep ?kuc_get_sep ?_); (case k1c_get_sep => k_asm); (case k2c_get_sep => k_asm); (case k3c_get_sep => k_asm); (case k4c_get_sep => k_asm); (case k5c_get_sep => k_asm); (case kKc_get_sep => exact rfl); (case kpc_get_sep => first | assumption | omega); (case kdc_get_sep => ktr_room); (case kuc_get_sep => ktr_units); intro t9 h9 tk9 F9 N9; (try dsimp only); (try k_fold))))
  (k_with "exec For Name Name cons nil" => ((k_here; (rename Fr _ _ _ _ => lF'); (with_unfolding_all refine' For_invVF lF' ?k1np ?k2np ?_; (case k1np => exact rfl); (case k2np => exact rfl); k_whole))))
  (k_with "pyIter ref" => (((with_reducible show wpAny _ _ (pyIter (Value.ref _)) (fun it s₂ => LoopAtV _ _ _ _ _ _ _ _ _ it s₂) _ _); k_here; (rename Fr _ _ _ _ => lF'); (rename News _ _ _ _ => lN'); (rename Mark2 _ _ => lR'); (with_unfolding_all refine' loop_one (Str.ofString "path") (joinOf lR') (by rfl) ?knp lF' lN' ?_ ?_; (case knp => k_mem)); (all_goals (try clear lF' lN')); (rotate_left 1); (intro u' t' h' tk' F' N'; (try k_fold)); (rotate_left 1); (intro h' tk' I' oI' hlt' F' N'; have hM' := kstMark; (try k_fold)))))
  (k_with "TurnPost" => ((dsimp only [TurnPost])))
  (k_with "TurnEnd" => (((rename News _ _ _ _ => nE'); refine' turn_one ?fNP nE' ?rNP ?lNP ?vNP ?gNP ?mNP; (case fNP => k_asm); (case rNP => exact fun p hp => hp); (case lNP => assumption); (case vNP => exact if_pos rfl); (case gNP => first | exact j1 (by assumption) | exact j2 (by assumption) (by assumption) | exact j3 (by assumption) (by assumption) (by assumption) | exact j4 (by assumption) (by assumption) (by assumption)); (case mNP => (intro z h1 h2; simp only [h1, h2, if_false])))))
  (k_with "eval Constant str" => ((refine sm_str ?_; intro tA' tB')))
  (k_with "eval Constant int" => ((refine sm_int ?_; intro tA' tB')))
  (k_with "storeName" => ((k_here; k_dflt (refine' sm_store ?Fss ?Nss ?_ ?ass ?bss; (case Fss => k_asm); (case Nss => k_asm); (case ass => rfl); (case bss => rfl); k_whole; intro h' tk' F' N'; (try k_sweep)))))
  (k_with "truthy str" => ((k_here; (with_reducible show wpAny _ _ (truthy (Value.str _ _)) _ _ _); refine' sm_truthy ?bst ?_; (case bst => first | assumption | omega); intro tk')))
  (k_with "eval Name" => ((k_here; k_dflt (refine' nameX_L ?Fsn ?vsn ?_ ?asn ?bsn; (case Fsn => k_asm); (case asn => rfl); (case bsn => rfl); (case vsn => first | exact Eq.refl (some _) | assumption); k_whole))))
  (k_with "execs cons" => ((k_here; k_fold)))
  (k_with "exec Assign" => ((k_here; k_fold)))
  (k_with "exec If" => ((k_here; k_fold)))
  (k_with "exec Expr" => ((k_here; k_fold)))
  w_strict k_steps
  all_goals (refine' cb_retS hret ?e1 ?e2 ?e3; (case e2 => k_asm); (case e3 => first | k_asm | (refine' cb_drop ?cbN ?cbS; (case cbN => assumption); (case cbS => kcj_all))); (case e1 => rfl))
end Mine
namespace Mine
open PySem PySem.W PyProof.Rows PySem.Calls
set_option maxRecDepth 100000

noncomputable abbrev pieceTab : List Str := [Str.ofString "", Str.ofString "a", Str.ofString "..", Str.ofString "b", Str.ofString ".", Str.ofString ".."]
noncomputable abbrev headTab : List Str := [Str.ofString "", Str.ofString "", Str.ofString "", Str.ofString "", Str.ofString "/", Str.ofString "//"]
noncomputable abbrev pieceF (m : Int) : Str := pieceTab.getD (m.fmod 6).toNat Str.empty
noncomputable abbrev headF (m : Int) : Str := headTab.getD (m.fmod 6).toNat Str.empty
theorem getD_le {ws : List Str} {k : Nat} (h : ∀ x ∈ ws, x.length ≤ k) (i : Nat) : (ws.getD i Str.empty).length ≤ k := by
  rw [List.getD_eq_getElem?_getD]
  cases e : ws[i]? with
  | none => exact Nat.zero_le _
  | some a => exact h a (List.mem_of_getElem? e)
theorem wt_le1 {a : Str} (h : a.length ≤ 2) : wt [a] ≤ 1001 := by rw [wt_one]; omega
theorem wt_le2 {a b : Str} (h : a.length ≤ 2) (h2 : b.length ≤ 2) : wt [a, b] ≤ 1001 := by rw [wt_cons, wt_one]; omega

set_option maxHeartbeats 8000000 in
theorem c_part0 (w : World) (n : Int) (t : Tok) : Txt w 167 6 (0 ≤ n ∧ n < 6) [.int n t] (fun t => .str (headF n ++ Txt.join (Str.ofString "/") []) t) := by
  unfold Txt
  w_top off
  k_fill
  dsimp only [CbRet]
  intros
  rename_i hpre hdp hun hret
  obtain ⟨h0, h1⟩ := hpre
  refine wpAny_call ?_
  k_dflt cell_enter
  k_with_none
  (k_with "WhlIf" => (first | (refine' WhlIf.yes (decide_eq_true ?hWh) ?_; (case hWh => (simp only [Int.fdiv_eq_ediv_of_nonneg _ (show (0:Int) ≤ 6 by decide)]; omega))) | (refine' WhlIf.no (decide_eq_false ?hWh) ?_; (case hWh => (simp only [Int.fdiv_eq_ediv_of_nonneg _ (show (0:Int) ≤ 6 by decide)]; omega)))))
  (k_with "subscriptTail" => ((k_here; (with_reducible show wpAny _ _ (subscriptTail _ _ (Value.ref _) (Value.int _ _)) _ _ _); k_dflt (refine' KTb.item_tup ?ltb ?wtb ?ztb ?otb ?ftb ?_; (case ltb => exact News.isTup (by k_asm) (by k_mem)); (case wtb => repeat constructor); (case ztb => (simp only [Int.fmod_eq_emod_of_nonneg _ (show (0:Int) ≤ 6 by decide)]; omega)); (case otb => (simp only [List.length_cons, List.length_nil, Int.fmod_eq_emod_of_nonneg _ (show (0:Int) ≤ 6 by decide)]; omega)); (case ftb => (simp only [Int.fmod_eq_emod_of_nonneg _ (show (0:Int) ≤ 6 by decide)]; omega))); intro t' hlt'; have hM' := kstMark)))
  (k_with "call builtin:str.join" => ((k_here; (with_reducible show wpAny _ _ (call _ [Value.str _ _, Value.ref _]) _ _ _); (k_dflt (refine' join_npW ?Njp ?mjp ?ijp ?sjp ?wjp ?_ ?xjp; (case Njp => k_asm); (case mjp => k_mem); (case ijp => repeat constructor); (case sjp => decide +kernel); (case xjp => decide +kernel); (case wjp => first | (exact Nat.le_of_ble_eq_true rfl) | (exact wt_le1 (getD_le (k := 2) (by decide +kernel) _)) | (exact wt_le2 (getD_le (k := 2) (by decide +kernel) _) (getD_le (k := 2) (by decide +kernel) _))))); intro t' k' hJ')))
  (k_with "binaryOp Add str str" => ((k_here; (with_reducible show wpAny _ _ (binaryOp Operator.Add (Value.str _ _) (Value.str _ _)) _ _ _); (refine add_str ?_ (by rw [sizeLine_eq]; exact Nat.le_trans (Nat.add_le_add (getD_le (k := 2) (by decide +kernel) _) (by assumption)) (by decide))); intro t' k')))
  w_strict k_steps
  all_goals (refine' cb_retS hret ?e1 ?e2 ?e3; (case e2 => k_asm); (case e3 => first | k_asm | (refine' cb_drop ?cbN ?cbS; (case cbN => assumption); (case cbS => kcj_all))); (case e1 => rfl))

set_option maxHeartbeats 8000000 in
theorem c_part1 (w : World) (n : Int) (t : Tok) : Txt w 167 6 (6 ≤ n ∧ n < 36) [.int n t] (fun t => .str (headF n ++ Txt.join (Str.ofString "/") [pieceF (n.fdiv 6)]) t) := by
  unfold Txt
  w_top off
  k_fill
  dsimp only [CbRet]
  intros
  rename_i hpre hdp hun hret
  obtain ⟨h0, h1⟩ := hpre
  refine wpAny_call ?_
  k_dflt cell_enter
  k_with_none
  (k_with "WhlIf" => (first | (refine' WhlIf.yes (decide_eq_true ?hWh) ?_; (case hWh => (simp only [Int.fdiv_eq_ediv_of_nonneg _ (show (0:Int) ≤ 6 by decide)]; omega))) | (refine' WhlIf.no (decide_eq_false ?hWh) ?_; (case hWh => (simp only [Int.fdiv_eq_ediv_of_nonneg _ (show (0:Int) ≤ 6 by decide)]; omega)))))
  (k_with "subscriptTail" => ((k_here; (with_reducible show wpAny _ _ (subscriptTail _ _ (Value.ref _) (Value.int _ _)) _ _ _); k_dflt (refine' KTb.item_tup ?ltb ?wtb ?ztb ?otb ?ftb ?_; (case ltb => exact News.isTup (by k_asm) (by k_mem)); (case wtb => repeat constructor); (case ztb => (simp only [Int.fmod_eq_emod_of_nonneg _ (show (0:Int) ≤ 6 by decide)]; omega)); (case otb => (simp only [List.length_cons, List.length_nil, Int.fmod_eq_emod_of_nonneg _ (show (0:Int) ≤ 6 by decide)]; omega)); (case ftb => (simp only [Int.fmod_eq_emod_of_nonneg _ (show (0:Int) ≤ 6 by decide)]; omega))); intro t' hlt'; have hM' := kstMark)))
  (k_with "call builtin:str.join" => ((k_here; (with_reducible show wpAny _ _ (call _ [Value.str _ _, Value.ref _]) _ _ _); (k_dflt (refine' join_npW ?Njp ?mjp ?ijp ?sjp ?wjp ?_ ?xjp; (case Njp => k_asm); (case mjp => k_mem); (case ijp => repeat constructor); (case sjp => decide +kernel); (case xjp => decide +kernel); (case wjp => first | (exact Nat.le_of_ble_eq_true rfl) | (exact wt_le1 (getD_le (k := 2) (by decide +kernel) _)) | (exact wt_le2 (getD_le (k := 2) (by decide +kernel) _) (getD_le (k := 2) (by decide +kernel) _))))); intro t' k' hJ')))
  (k_with "binaryOp Add str str" => ((k_here; (with_reducible show wpAny _ _ (binaryOp Operator.Add (Value.str _ _) (Value.str _ _)) _ _ _); (refine add_str ?_ (by rw [sizeLine_eq]; exact Nat.le_trans (Nat.add_le_add (getD_le (k := 2) (by decide +kernel) _) (by assumption)) (by decide))); intro t' k')))
  w_strict k_steps
  all_goals (refine' cb_retS hret ?e1 ?e2 ?e3; (case e2 => k_asm); (case e3 => first | k_asm | (refine' cb_drop ?cbN ?cbS; (case cbN => assumption); (case cbS => kcj_all))); (case e1 => rfl))

set_option maxHeartbeats 8000000 in
theorem c_part2 (w : World) (n : Int) (t : Tok) : Txt w 167 6 (36 ≤ n ∧ n < 216) [.int n t] (fun t => .str (headF n ++ Txt.join (Str.ofString "/") [pieceF (n.fdiv 6), pieceF ((n.fdiv 6).fdiv 6)]) t) := by
  unfold Txt
  w_top off
  k_fill
  dsimp only [CbRet]
  intros
  rename_i hpre hdp hun hret
  obtain ⟨h0, h1⟩ := hpre
  refine wpAny_call ?_
  k_dflt cell_enter
  k_with_none
  (k_with "WhlIf" => (first | (refine' WhlIf.yes (decide_eq_true ?hWh) ?_; (case hWh => (simp only [Int.fdiv_eq_ediv_of_nonneg _ (show (0:Int) ≤ 6 by decide)]; omega))) | (refine' WhlIf.no (decide_eq_false ?hWh) ?_; (case hWh => (simp only [Int.fdiv_eq_ediv_of_nonneg _ (show (0:Int) ≤ 6 by decide)]; omega)))))
  (k_with "subscriptTail" => ((k_here; (with_reducible show wpAny _ _ (subscriptTail _ _ (Value.ref _) (Value.int _ _)) _ _ _); k_dflt (refine' KTb.item_tup ?ltb ?wtb ?ztb ?otb ?ftb ?_; (case ltb => exact News.isTup (by k_asm) (by k_mem)); (case wtb => repeat constructor); (case ztb => (simp only [Int.fmod_eq_emod_of_nonneg _ (show (0:Int) ≤ 6 by decide)]; omega)); (case otb => (simp only [List.length_cons, List.length_nil, Int.fmod_eq_emod_of_nonneg _ (show (0:Int) ≤ 6 by decide)]; omega)); (case ftb => (simp only [Int.fmod_eq_emod_of_nonneg _ (show (0:Int) ≤ 6 by decide)]; omega))); intro t' hlt'; have hM' := kstMark)))
  (k_with "call builtin:str.join" => ((k_here; (with_reducible show wpAny _ _ (call _ [Value.str _ _, Value.ref _]) _ _ _); (k_dflt (refine' join_npW ?Njp ?mjp ?ijp ?sjp ?wjp ?_ ?xjp; (case Njp => k_asm); (case mjp => k_mem); (case ijp => repeat constructor); (case sjp => decide +kernel); (case xjp => decide +kernel); (case wjp => first | (exact Nat.le_of_ble_eq_true rfl) | (exact wt_le1 (getD_le (k := 2) (by decide +kernel) _)) | (exact wt_le2 (getD_le (k := 2) (by decide +kernel) _) (getD_le (k := 2) (by decide +kernel) _))))); intro t' k' hJ')))
  (k_with "binaryOp Add str str" => ((k_here; (with_reducible show wpAny _ _ (binaryOp Operator.Add (Value.str _ _) (Value.str _ _)) _ _ _); (refine add_str ?_ (by rw [sizeLine_eq]; exact Nat.le_trans (Nat.add_le_add (getD_le (k := 2) (by decide +kernel) _) (by assumption)) (by decide))); intro t' k')))
  w_strict k_steps
  all_goals (refine' cb_retS hret ?e1 ?e2 ?e3; (case e2 => k_asm); (case e3 => first | k_asm | (refine' cb_drop ?cbN ?cbS; (case cbN => assumption); (case cbS => kcj_all))); (case e1 => rfl))

noncomputable def partF (n : Int) : Str :=
  if n < 6 then headF n ++ Txt.join (Str.ofString "/") [] else
  if n < 36 then headF n ++ Txt.join (Str.ofString "/") [pieceF (n.fdiv 6)] else
  headF n ++ Txt.join (Str.ofString "/") [pieceF (n.fdiv 6), pieceF ((n.fdiv 6).fdiv 6)]
theorem c_law_part (w : World) (n : Int) (t : Tok) : Txt w 167 6 (0 ≤ n ∧ n < 216) [.int n t] (fun t => .str (partF n) t) := by
  unfold Txt
  intro loose mean mg mb news dp un gd cn cs a ccd cl outer A₀ base h₀ L m s Q E i1 i2 i3 i4 i5 i6 i7 i8 i9 i10
  by_cases h1 : n < 6
  · exact c_part0 w n t loose mean mg mb news dp un gd cn cs a ccd cl outer A₀ base h₀ L m s Q E i1 i2 i3 i4 i5 i6 ⟨i7.1, h1⟩ i8 i9 (by simpa only [partF, if_pos h1] using i10)
  · by_cases h2 : n < 36
    · exact c_part1 w n t loose mean mg mb news dp un gd cn cs a ccd cl outer A₀ base h₀ L m s Q E i1 i2 i3 i4 i5 i6 ⟨by omega, h2⟩ i8 i9 (by simpa only [partF, if_neg h1, if_pos h2] using i10)
    · exact c_part2 w n t loose mean mg mb news dp un gd cn cs a ccd cl outer A₀ base h₀ L m s Q E i1 i2 i3 i4 i5 i6 ⟨by omega, i7.2⟩ i8 i9 (by simpa only [partF, if_neg h1, if_neg h2] using i10)
end Mine
namespace Mine
open PySem PySem.W PyProof.Rows PySem.Calls
set_option maxRecDepth 100000

theorem typeCall_dict_0 : checkTypeCall "dict" ⟨[], []⟩ = pure () := by kernel_rfl
theorem newCall_dict_0 : checkBuiltinCall "dict.__new__" ⟨[.type "dict"], []⟩ = pure () := by kernel_rfl
section
variable {prog : Program} {w : World} {A : Around} {E : Value → Shared → Prop} {s : Shared}
theorem code_dict_new0 {Q₁ : Value → Shared → Prop} (h : Q₁ (.ref s.heap.objs.size) { s with heap := s.heap.push { cls := .type "dict", data := .dict #[] } }) :
    codeAny (model prog w) A (.call (.builtin "dict.__new__") ⟨[.type "dict"], []⟩) (wants Q₁ E) s := by
  refine codeAny_call_builtin PySem.F.kt_plain_dict_new PySem.F.kt_entry_dict_new (wpAny_of_eq newCall_dict_0 ?_)
  have hsub := PySem.F.kt_sub_dict
  have hmro := PySem.F.kt_mro_dict
  obtain ⟨hp, g, d, tk, os⟩ := s
  unfold Builtin.«dict.__new__»
  wp_walk
  exact h
theorem call_dict0 {Q : Value → Shared → Prop} (h : Q (.ref s.heap.objs.size) { s with heap := s.heap.push { cls := .type "dict", data := .dict #[] } }) :
    wpAny (model prog w) A (call (.type "dict") []) Q E s := by
  refine callType_codes (Q₁ := fun obj s₁ => obj = .ref s.heap.objs.size ∧ s₁ = { s with heap := s.heap.push { cls := .type "dict", data := .dict #[] } }) PySem.F.kt_called_dict typeCall_dict_0 PySem.F.entry_dict_init (code_dict_new0 ⟨rfl, rfl⟩) ?_
  rintro obj s₁ ⟨rfl, rfl⟩
  have hget : (s.heap.push { cls := .type "dict", data := .dict #[] }).get? s.heap.objs.size = some { cls := .type "dict", data := .dict #[] } := Heap.get?_push_size _ rfl
  have hT : ({ s with heap := s.heap.push { cls := .type "dict", data := .dict #[] } } : Shared).TypeIs (.ref s.heap.objs.size) "dict" := ⟨_, hget, rfl⟩
  refine ⟨hT, PySem.F.args_dict_init_1 _, ?_⟩
  unfold Builtin.«dict.__init__»
  refine wpAny_bind ?_
  unfold Builtin.Dict.selfAndRest
  refine wpAny_bind (wpAny_notOrdered_dict hT ?_)
  show wpAny _ _ (pure (s.heap.objs.size, [])) _ _ _
  refine wpAny_pure ?_
  show wpAny _ _ (Builtin.Dict.updateCommon "dict.__init__" "dict" s.heap.objs.size [] []) _ _ _
  show wpAny _ _ (Builtin.Dict.addKeywords s.heap.objs.size [] >>= _) _ _ _
  exact wpAny_bind (wpAny_pure (wpAny_pure ⟨rfl, h⟩))
end

/-- the places of a list of texts, each once, the first stays -/
noncomputable def dedupF (acc xs : List Str) : List Str := xs.foldl (fun a x => if x ∈ a then a else a ++ [x]) acc
noncomputable abbrev noneOf (xs : List Str) : List (Str × Value) := xs.map fun x => (x, Value.none)
theorem stored_none (a : List Str) (x : Str) : stored (noneOf a) x .none = noneOf (if x ∈ a then a else a ++ [x]) := by
  unfold stored
  by_cases h : x ∈ a
  · rw [if_pos h, if_pos (by simpa using h)]
    have : ∀ l : List Str, (noneOf l).map (fun kv => if kv.1 = x then (kv.1, Value.none) else kv) = noneOf l := by
      intro l
      induction l with
      | nil => rfl
      | cons y r ih =>
        simp only [noneOf, List.map_cons] at ih ⊢
        rw [ih]
        split <;> rfl
    exact this a
  · rw [if_neg h, if_neg (by simpa using h)]
    simp [noneOf]

theorem entry_fk : entryFor table "dict.fromkeys" = some Builtin.«dict.fromkeys» := entryFor_of_tree (by kernel_rfl)
theorem entry_fkl : entryFor table "dict.fromkeys.loop" = some Builtin.«dict.fromkeys.loop» := entryFor_of_tree (by kernel_rfl)
theorem plain_fk : plainId "dict.fromkeys" = true := by decide +kernel
theorem plain_fkl : plainId "dict.fromkeys.loop" = true := by decide +kernel
section
variable {prog : Program} {w : World} {A : Around}

theorem fk_loop {I l d : Addr} {R : Result → Shared → Prop} (hh : A.handled = none) (hdI : d ≠ I) (hdl : d ≠ l) (hlI : l ≠ I) {vs : List Value} {xs : List Str} (hi : StrsAre vs xs) :
    ∀ (pre : List Value) (acc : List Str) (s : Shared), acc.length + xs.length ≤ 1000 →
    s.heap.IsListIter I l pre.length → s.heap.IsList l (pre ++ vs).toArray → s.heap.DictOf (PySem.strKind prog w) d (noneOf acc) →
    (∀ h' tk, h'.DictOf (PySem.strKind prog w) d (noneOf (dedupF acc xs)) → (∀ b o, b ≠ d → b ≠ I → s.heap.get? b = some o → h'.get? b = some o) → R (.ok (.ret (.ref d))) { s with heap := h', toks := tk }) →
    codeAny (model prog w) A (.builtin "dict.fromkeys.loop" ⟨[.ref d, .ref I, .none], []⟩) R s := by
  induction hi with
  | nil =>
    intro pre acc s hb hit hl hd hR
    refine codeAny_builtin entry_fkl ?_
    rw [Around.under_plainId plain_fkl]
    unfold Builtin.«dict.fromkeys.loop»
    refine wpAny_bind (wpAny_pyNext_list_end hh hit hl (by simp) fun h' he => ?_)
    dsimp only
    exact wpAny_pure (hR h' _ (let ⟨o, es, ep, ho, r⟩ := hd; ⟨o, es, ep, he d o hdI ho, r⟩) fun b o _ hI e => he b o hI e)
  | @cons x t vs xs hi ih =>
    intro pre acc s hb hit hl hd hR
    refine codeAny_builtin entry_fkl ?_
    rw [Around.under_plainId plain_fkl]
    unfold Builtin.«dict.fromkeys.loop»
    refine wpAny_bind (wpAny_pyNext_list_item hit hl (x := .str x t) (by simp) fun h' hit' hs' => ?_)
    dsimp only
    have hd' : h'.DictOf (PySem.strKind prog w) d (noneOf acc) := hd.sameBut hs' hdI
    refine wpAny_bind (wpAny_typeOf hd'.typeIs ?_)
    rw [if_pos (by decide)]
    refine wpAny_bind (wpAny_of_eq (a := d) rfl ?_)
    refine wpAny_bind (wpAny_holding (wpAny_dictSet_pairs (k := x) (by show Value.isStrOf x (.str x t) = true; simp [Value.isStrOf]) hd' (fun h'' hd'' hs'' => ?_) (by rw [sizeLine_eq]; simp only [noneOf, List.length_map, List.length_cons] at hb ⊢; omega)))
    refine wpAny_pure ⟨plainId_quiet plain_fkl _, ?_⟩
    rw [stored_none] at hd''
    refine ih (pre ++ [.str x t]) (if x ∈ acc then acc else acc ++ [x]) _ ?_ ?_ ?_ hd'' ?_
    · split
      · simp only [List.length_cons] at hb; omega
      · simp only [List.length_cons, List.length_append, List.length_nil] at hb ⊢; omega
    · have e : (pre ++ [Value.str x t]).length = pre.length + 1 := by simp
      rw [e]
      exact hit'.at fun o e => (hs''.2 I (Ne.symm hdI)).trans e
    · have e : pre ++ [Value.str x t] ++ vs = pre ++ Value.str x t :: vs := by simp
      rw [e]
      exact hl.at fun o e => (hs''.2 l (Ne.symm hdl)).trans ((hs'.2 l hlI).trans e)
    · intro h₃ tk hd₃ hk
      exact hR h₃ tk hd₃ fun b o hbd hbI e => hk b o hbd hbI ((hs''.2 b hbd).trans ((hs'.2 b hbI).trans e))

theorem type_dict : isType (.type "dict") = pure true := by first | rfl | kernel_rfl | (unfold isType; rw [isSubtype_type]; kernel_rfl)
theorem fk_tree {l : Addr} {vs : List Value} {xs : List Str} {R : Result → Shared → Prop} {s : Shared} (hh : A.handled = none) (hi : StrsAre vs xs) (hb : xs.length ≤ 1000) (hl : s.heap.IsList l vs.toArray)
    (h : ∀ h' tk, h'.DictOf (PySem.strKind prog w) s.heap.objs.size (noneOf (dedupF [] xs)) → (∀ b o, s.heap.get? b = some o → h'.get? b = some o) → R (.ok (.ret (.ref s.heap.objs.size))) { s with heap := h', toks := tk }) :
    codeAny (model prog w) A (.builtin "dict.fromkeys" ⟨[.type "dict", .ref l], []⟩) R s := by
  refine codeAny_builtin entry_fk ?_
  rw [Around.under_plainId plain_fk]
  unfold Builtin.«dict.fromkeys»
  refine wpAny_bind (wpAny_of_eq (a := true) type_dict ?_)
  rw [if_neg (by decide)]
  refine wpAny_bind (wpAny_of_eq (a := true) PySem.F.kt_sub_dict ?_)
  rw [if_neg (by decide)]
  rw [if_neg (show ¬ (!([] : List (Str × Value)).isEmpty) = true by decide)]
  refine wpAny_bind (wpAny_bind (wpAny_rule (wpAny_pure ?_)))
  refine wpAny_bind (wpAny_pure ?_)
  dsimp only
  have hlt : l < s.heap.objs.size := by obtain ⟨o, ho, _⟩ := id hl; exact Heap.lt_size ho
  have hl' : (s.heap.push { cls := .type "dict", data := .dict #[] }).IsList l vs.toArray := hl.at fun o e => Heap.get?_push_of_some _ e
  have hd : (s.heap.push { cls := .type "dict", data := .dict #[] }).DictOf (PySem.strKind prog w) s.heap.objs.size [] := Heap.DictOf.new s.heap
  refine wpAny_bind (call_dict0 ?_)
  refine wpAny_holding ?_
  refine wpAny_bind (wpAny_typeOf (T := "list") hl'.typeIs ?_)
  refine wpAny_bind (wpAny_typeOf (T := "dict") hd.typeIs ?_)
  rw [if_neg (by decide)]
  refine wpAny_bind (wpAny_typeOf (T := "dict") hd.typeIs ?_)
  rw [if_neg (by decide)]
  refine wpAny_bind (wpAny_pyIter_list hl' ?_)
  refine wpAny_pure ⟨plainId_quiet plain_fkl _, ?_⟩
  have hsz : (s.heap.push { cls := .type "dict", data := .dict #[] }).objs.size = s.heap.objs.size + 1 := Heap.size_push ..
  rw [hsz]
  have hI : ((s.heap.push { cls := .type "dict", data := .dict #[] }).push { cls := .type "list_iterator", data := .fields #[.ref l, .int 0 0] }).get? (s.heap.objs.size + 1) = some { cls := .type "list_iterator", data := .fields #[.ref l, .int 0 0] } := by
    have q := Heap.get?_push_size (s.heap.push { cls := .type "dict", data := .dict #[] }) (o := { cls := .type "list_iterator", data := .fields #[.ref l, .int 0 0] }) rfl
    rwa [hsz] at q
  refine fk_loop (I := s.heap.objs.size + 1) hh (Nat.ne_of_lt (Nat.lt_succ_self _)) (Nat.ne_of_gt hlt) (Nat.ne_of_lt (Nat.lt_succ_of_lt hlt)) hi [] [] _ (by simpa using hb) ?_ ?_ ?_ ?_
  · exact ⟨_, hI, rfl, rfl⟩
  · exact hl'.at fun o e => Heap.get?_push_of_some _ e
  · exact hd.push _
  · intro h' tk hd' hk
    refine h h' tk hd' fun b o e => hk b o ?_ ?_ (Heap.get?_push_of_some _ (Heap.get?_push_of_some _ e))
    · exact Nat.ne_of_lt (Heap.lt_size e)
    · exact Nat.ne_of_lt (Nat.lt_succ_of_lt (Heap.lt_size e))

/-- the method as «dict.fromkeys» hands it out -/
noncomputable def fkBound : Obj := { cls := .type "builtin_function_or_method", data := .fields #[.builtin "dict.fromkeys", .type "dict"] }
theorem owner_fk : (kfb_private% "ownerAndName") "dict.fromkeys" = ("dict", "fromkeys") := by first | decide +kernel | kernel_rfl
theorem type_fk : typeOf (.builtin "dict.fromkeys") = pure (.type "classmethod_descriptor") := by show builtinType _ = _; rw [builtinType_eq_fast]; kernel_rfl
theorem check_fk {l : Addr} : checkBoundCall "dict.fromkeys" ⟨[.type "dict", .ref l], []⟩ = pure () := by first | kernel_rfl | rfl
end
section
variable {prog : Program} {w : World} {M : Model} {A : Around} {E : Value → Shared → Prop} {s : Shared} {K : Frag} {h₀ : Heap} {L : Addr} {m : Str → Option Value} {news : List (Addr × Obj)}
theorem fk_get {P : Fin → Shared → Prop} (h : P (.done (.ret (.ref s.heap.objs.size))) { s with heap := s.heap.push fkBound }) :
    wpAny M A (Builtin.«classmethod_descriptor.__get__» ⟨[.builtin "dict.fromkeys", .none, .type "dict"], []⟩) P E s := by
  unfold Builtin.«classmethod_descriptor.__get__»
  refine wpAny_bind (wpAny_of_eq (a := (.builtin "dict.fromkeys", none, some (.type "dict"))) (by first | rfl | kernel_rfl) ?_)
  simp only [owner_fk]
  refine wpAny_bind (wpAny_of_eq (a := .type "dict") rfl ?_)
  refine wpAny_bind (wpAny_of_eq (a := true) type_dict ?_)
  refine KFB.if_not rfl ?_
  refine wpAny_bind (wpAny_of_eq (a := true) PySem.F.kt_sub_dict ?_)
  refine KFB.if_not rfl ?_
  exact wpAny_bind (wpAny_newObj_type (wpAny_pure h))
theorem fk_method {pl : Sem Bool} {Q : Value × List Value → Shared → Prop} (F : Fr h₀ L s.heap m) (N : News h₀ L s.heap news) (X₀ : K.In h₀)
    (e : findCls K (.type "dict") (.type "type") (PySem.Str.ofString "fromkeys") = some (.get (.builtin "classmethod_descriptor.__get__") (.builtin "dict.fromkeys") .none (.type "dict")))
    (h : ∀ x h', Fr h₀ L h' m → News h₀ L h' ((x, fkBound) :: news) → (∀ p ∈ news, p.1 < x) → Q (.ref x, []) { s with heap := h', toks := s.toks + 1 }) :
    wpAny (model prog w) A (getMethod (.type "dict") (PySem.Str.ofString "fromkeys") pl) Q E s := by
  have X := X₀.keeps F.keep
  have hstub : opaqueClassAbove (.type "dict") = pure none := by unfold opaqueClassAbove; dsimp only; rw [show Manifest.isStub "dict" = false by decide +kernel]; rfl
  have ht : typeOf (.type "dict") = pure (.type "type") := by first | rfl | kernel_rfl
  have L0 : Looks (model prog w) s.heap (typeOf (.type "dict")) (.type "type") := Looks.of_pure ht
  have hg : findIn K (.type "type") "__getattribute__" = some (some (.builtin "type.__getattribute__")) := type_tga
  unfold getMethod specialOf
  refine wpAny_bind (wpAny_bind (L0.here ((looks_findIn X hg).here ?_)))
  dsimp only
  rw [if_pos canon_tga]
  refine wpAny_bind (wpAny_mono (Q := fun v => Q (v, [])) (E := E) ?_ (fun _ _ z => wpAny_pure z) fun _ _ z => z)
  have LO : Looks (model prog w) s.heap (opaqueClassAbove (.type "dict")) none := Looks.of_pure hstub
  refine cls_open X LO L0 hg (looks_hook X (r := none) (by rfl)) (by show subIn K _ _ = _; rfl) e ?_
  show wpAny _ _ (holding [.builtin "dict.fromkeys"] (call (.builtin "classmethod_descriptor.__get__") [.builtin "dict.fromkeys", .none, .type "dict"]) >>= fun v => ret v) _ _ _
  refine wpAny_bind (wpAny_holding (wpAny_call_entry KFB.slot_get type_fk KFB.entry_get (fk_get ⟨_, rfl, wpAny_pure (wpAny_pure (h _ _ (F.push _) (News.push F N _) fun p hp => Heap.lt_size (N p hp).1))⟩) (KFB.args_get _ _ _)))
theorem fk_callWith0 {pos : Pos} {u : Addr} {first : List Value} {args : List (Bool × Sem Value)} {Q : Value → Shared → Prop} (hplain : args.any (·.1) = false)
    (h : wpAny M A (evalArgs (.ref u) true args []) (fun x s₁ => s₁.heap.get? u = some fkBound ∧ wpAny M A (call (.ref u) (first ++ x.pos) x.kw) Q E s₁) E s) : wpAny M A (callWith pos (.ref u) first args []) Q E s := by
  unfold callWith
  refine wpAny_bind (wpAny_holding (wpAny_mono h (fun x s₁ h₁ => wpAny_bind (wpAny_standAt ?_)) fun _ _ x => x))
  obtain ⟨ho, hcall⟩ := h₁
  simp only [hplain, List.any_nil, Bool.or_false]
  refine wpAny_bind (m := keeperOf (.ref u)) ?_
  unfold keeperOf
  refine wpAny_bind (wpAny_load ho ?_)
  simp only [fkBound, show (Value.type "builtin_function_or_method" != Value.type "method") = true by decide, show (Value.type "builtin_function_or_method" == Value.type "builtin_function_or_method" || Value.type "builtin_function_or_method" == Value.type "method-wrapper") = true by decide, if_true]
  refine wpAny_pure ?_
  exact wpAny_bind (wpAny_mono hcall (fun r s₂ hr => wpAny_bind (wpAny_holding (wpAny_point (wpAny_pure hr)))) fun _ _ x => x)
theorem fk_callWith {pos : Pos} {u : Addr} {first : List Value} {env : Env} {e : Expr} {Q : Value → Shared → Prop} (_N : News h₀ L s.heap news) (_hm : (u, fkBound) ∈ news)
    (h : wpAny M A (spliced (backTo pos (starEach [e] env))) (fun vs s₁ => s₁.heap.get? u = some fkBound ∧ wpAny M A (call (.ref u) (first ++ vs)) Q E s₁) E s)
    (he : starEach [e] env = (false, eval e env) :: starEach [] env := by rfl) :
    wpAny M A (callWith pos (.ref u) first (backTo pos (starEach [e] env)) []) Q E s := by
  rw [he] at h ⊢
  exact fk_callWith0 rfl (evalArgs_plain h)
theorem fk_call {x l : Addr} {vs : List Value} {n : Nat} {xs : List Str} {Q : Value → Shared → Prop} (hh : A.handled = none) (F : Fr h₀ L s.heap m) (N : News h₀ L s.heap news) (hx : (x, fkBound) ∈ news) (hm : (l, listOf vs.toArray n) ∈ news) (hi : StrsAre vs xs) (hb : xs.length ≤ 1000)
    (h : ∀ D o h' tk, Fr h₀ L h' m → News h₀ L h' ((D, o) :: news) → (∀ p ∈ news, p.1 < D) → o.IsDictOf (PySem.strKind prog w) (noneOf (dedupF [] xs)) → Q (.ref D) { s with heap := h', toks := tk }) :
    wpAny (model prog w) A (call (.ref x) [.ref l]) Q E s := by
  refine wpAny_call (codeAny_of_tree ?_)
  show wpAny _ A.in1 (callAny (.ref x) ⟨[.ref l], []⟩) _ _ s
  simp only [callAny]
  refine wpAny_bind (wpAny_load (N.get hx) ?_)
  simp only [fkBound, show (Value.type "builtin_function_or_method" == Value.type "method" || Value.type "builtin_function_or_method" == Value.type "builtin_function_or_method" || Value.type "builtin_function_or_method" == Value.type "method-wrapper") = true by decide, if_true]
  refine KFB.if_so (by decide) ?_
  refine wpAny_bind (wpAny_of_eq (a := ()) check_fk ?_)
  refine wpAny_bind (wpAny_pure (wpAny_pure ?_))
  refine ⟨plainId_quiet plain_fk _, fk_tree hh hi hb ⟨_, N.get hm, rfl, n, rfl⟩ fun h' tk hd hk => ?_⟩
  obtain ⟨o, ho, hd'⟩ := Heap.dictOf_iff.mp hd
  refine h _ o h' tk (F.keeps hk) (fun p hp => ?_) (fun p hp => Heap.lt_size (N p hp).1) hd'
  rcases List.mem_cons.mp hp with rfl | hp
  · refine ⟨ho, Nat.ne_of_gt F.ns.lt, ?_⟩
    cases q : h₀.get? s.heap.objs.size with
    | none => rfl
    | some o' => exact absurd (Heap.lt_size (F.keep _ _ q)) (Nat.lt_irrefl _)
  · exact ⟨hk _ _ (N p hp).1, (N p hp).2⟩
end
end Mine
namespace Mine
open PySem PySem.W PyProof.Rows PySem.Calls
set_option maxRecDepth 100000

noncomputable abbrev Dfl (w : World) (f : Addr) (k : Nat) (pre : List (Addr × Obj) → Prop) (vs : List Value) (Ret : Heap → Addr → (Str → Option Value) → List (Addr × Obj) → Shared → (Value → Shared → Prop) → Prop) : Prop :=
  ∀ (loose : List Str) (mean : ExcName → Option Value) (mg mb : Str → Option Value) (news : List (Addr × Obj)) (dp un : Nat) (gd : Option (List Code)) (cn : Str) (cs : Scope) (a : Addr) (ccd : Value) (cl : List (Str × Addr)) (outer : List Env) (A₀ : Around) (base h₀ : Heap) (L : Addr) (m : Str → Option Value) (s : Shared) (Q E : Value → Shared → Prop),
    Below A₀ base outer h₀ → Fr h₀ L s.heap m → (hd.heap_39 w.params).In h₀ → News h₀ L s.heap news → Top topProg loose mean mg mb h₀ → cs.kind = .function →
    pre news → dp + k < recursionLimit → un + 10 * k < cLine → Ret h₀ L m news s Q →
      wpAny (model PySem.Challenge.rw_ik0183_01.row.prog w) (ktrTop dp un gd cn cs L a ccd cl outer) (call (.ref f) vs) Q E s

noncomputable abbrev DictRet (w : World) (h₀ : Heap) (L : Addr) (m : Str → Option Value) (news : List (Addr × Obj)) (s : Shared) (Q : Value → Shared → Prop) (xs : List Str) : Prop :=
  ∀ (D : Addr) (o : Obj) (h' : Heap) (tk' : Nat), Fr h₀ L h' m → News h₀ L h' ((D, o) :: news) → (∀ q ∈ news, q.1 < D) → o.IsDictOf (PySem.strKind PySem.Challenge.rw_ik0183_01.row.prog w) (noneOf (dedupF [] xs)) → Q (.ref D) { s with heap := h', toks := tk' }

theorem dict_drop {w : World} {h₀ : Heap} {L : Addr} {m : Str → Option Value} {news news' : List (Addr × Obj)} {s : Shared} {Q : Value → Shared → Prop} {xs : List Str} {D : Addr} {o : Obj} {h' : Heap} {tk : Nat} (hret : DictRet w h₀ L m news s Q xs)
    (F : Fr h₀ L h' m) (N : News h₀ L h' news') (hD : (D, o) ∈ news') (hs : ∀ p ∈ news, p ∈ news') (hl : ∀ q ∈ news, q.1 < D) (hd : o.IsDictOf (PySem.strKind PySem.Challenge.rw_ik0183_01.row.prog w) (noneOf (dedupF [] xs))) : Q (.ref D) { s with heap := h', toks := tk } :=
  hret D o h' tk F (fun p hp => N p (by rcases List.mem_cons.mp hp with rfl | hp; exact hD; exact hs p hp)) hl hd
set_option maxHeartbeats 8000000 in
theorem c_dedup (w : World) (l : Addr) (ws : List Value) (n : Nat) (xs : List Str) : Dfl w 29 6 (fun news => (l, listOf ws.toArray n) ∈ news ∧ StrsAre ws xs ∧ xs.length ≤ 1000) [.ref l] (fun h₀ L m news s Q => DictRet w h₀ L m news s Q xs) := by
  unfold Dfl
  w_top off
  k_fill
  intros
  rename_i hkf hpre hdp hun hret
  obtain ⟨hm, hi, hb⟩ := hpre
  have hM := kstMark
  refine wpAny_call ?_
  k_dflt (refine' code_def ?k1 ?k2 ?k3 ?k4 ?k5 ?kA ?kF ?kK ?k6 ?k7 ?k8 ?k9 ?kB ?_ ?c2 ?c3 ?c4 ?c5; (case kA => exact rfl); (case kF => exact rfl); (case kK => exact hkf); (case k1 => k_asm); (case k2 => k_asm); (case k3 => k_asm); (case k4 => k_asm); (case k5 => k_asm); (case k6 => k_is); (case k7 => k_is); (case k8 => ktr_room); (case k9 => (refine' kp_binds ?kx ?ke; (case kx => k_in); (case ke => exact fun _ => rfl))); (case c5 => decide); (case kB => exact locs rfl); (case c2 => exact rfl); (case c3 => exact rfl); (case c4 => exact rfl); k_whole; intro g' L' h' FG' F' N' B' X' T'; (try dsimp only); (try k_lift B'); (try k_fold))
  k_with_none
  (k_with "getMethod type:dict" => ((k_here; k_dflt (refine' fk_method ?Ffk ?Nfk ?Xfk ?Efk ?_; (case Ffk => k_asm); (case Nfk => k_asm); (case Xfk => k_asm); (case Efk => k_is); k_whole; intro x' h' F' N' l1; (try k_lt l1)))))
  (k_with "callWith ref" => ((k_here; (with_reducible show wpAny _ _ (callWith _ (Value.ref _) _ (backTo _ (starEach (_ :: _) _)) []) _ _ _); k_dflt (refine' fk_callWith ?Nfk ?Mfk ?_; (case Nfk => k_asm); (case Mfk => k_mem); k_whole))))
  (k_with "And" => (((with_reducible show Heap.get? _ _ = some fkBound ∧ _); k_dflt (refine' ⟨News.get ?Nfk ?Mfk, ?_⟩; (case Nfk => k_asm); (case Mfk => k_mem)); (try dsimp only [List.nil_append, List.cons_append]))))
  (k_with "call ref" => ((k_here; (with_reducible show wpAny _ _ (call (Value.ref _) [Value.ref _]) _ _ _); k_dflt (refine' fk_call ?Hfk ?Ffk ?Nfk ?Mfk ?Lfk ?Ifk ?Bfk ?_; (case Hfk => exact rfl); (case Ffk => k_asm); (case Nfk => k_asm); (case Mfk => k_mem); (case Lfk => first | assumption | (refine List.mem_cons_of_mem _ ?_; assumption)); (case Ifk => assumption); (case Bfk => assumption)); intro D' o' h' tk' F' N' l1 hD'; (try k_lt l1))))
  w_strict k_steps
  all_goals (refine' dict_drop hret ?F ?N ?D ?s ?l ?d; (case F => k_asm); (case N => assumption); (case D => exact List.mem_cons_self ..); (case s => exact fun p hp => List.mem_cons_of_mem _ (List.mem_cons_of_mem _ hp)); (case d => assumption); (case l => (rename _ ∧ AllLt _ _ => hl9); exact kst_ltOf hl9.2))
end Mine
namespace Mine
open PySem PySem.W PyProof.Rows PySem.Calls
set_option maxRecDepth 100000

noncomputable abbrev ListRet (h₀ : Heap) (L : Addr) (m : Str → Option Value) (news : List (Addr × Obj)) (s : Shared) (Q : Value → Shared → Prop) (ys : List Str) : Prop :=
  ∀ (D : Addr) (ws : List Value) (c : Nat) (h' : Heap) (tk' : Nat), Fr h₀ L h' m → News h₀ L h' ((D, listOf ws.toArray c) :: news) → (∀ q ∈ news, q.1 < D) → StrsAre ws ys → Q (.ref D) { s with heap := h', toks := tk' }
theorem list_drop {h₀ : Heap} {L : Addr} {m : Str → Option Value} {news news' : List (Addr × Obj)} {s : Shared} {Q : Value → Shared → Prop} {ys : List Str} {D : Addr} {ws : List Value} {c : Nat} {h' : Heap} {tk : Nat} (hret : ListRet h₀ L m news s Q ys)
    (F : Fr h₀ L h' m) (N : News h₀ L h' news') (hD : (D, listOf ws.toArray c) ∈ news') (hs : ∀ p ∈ news, p ∈ news') (hl : ∀ q ∈ news, q.1 < D) (hi : StrsAre ws ys) : Q (.ref D) { s with heap := h', toks := tk } :=
  hret D ws c h' tk F (fun p hp => N p (by rcases List.mem_cons.mp hp with rfl | hp; exact hD; exact hs p hp)) hl hi
noncomputable def dstep (a : List Str) (x : Str) : List Str := if a.any (fun y => y == x) = true then a else a ++ [x]
theorem dstep_eq (a : List Str) (x : Str) : dstep a x = if x ∈ a then a else a ++ [x] := by
  unfold dstep
  have e : (a.any (fun y => y == x) = true) ↔ x ∈ a := by simp
  by_cases h : x ∈ a
  · rw [if_pos h, if_pos (e.mpr h)]
  · rw [if_neg h, if_neg (fun q => h (e.mp q))]
theorem dedupF_eq (acc xs : List Str) : dedupF acc xs = xs.foldl dstep acc := by
  unfold dedupF
  congr 1
  funext a x
  exact (dstep_eq a x).symm
theorem dedup_len (xs : List Str) : ∀ acc, (xs.foldl dstep acc).length ≤ acc.length + xs.length := by
  induction xs with
  | nil => intro acc; simp
  | cons x r ih =>
    intro acc
    rw [List.foldl_cons]
    have h := ih (dstep acc x)
    have h2 : (dstep acc x).length ≤ acc.length + 1 := by unfold dstep; split <;> simp
    simp only [List.length_cons]
    omega
theorem d_in {ws : List Value} {a : List Str} {x : Str} (h : StrsAre ws a) (h1 : a.any (fun y => y == x) = true) : StrsAre ws (dstep a x) := by unfold dstep; rw [if_pos h1]; exact h
theorem d_out {ws : List Value} {a : List Str} {x : Str} {t : Tok} (h : StrsAre ws a) (h1 : a.any (fun y => y == x) = false) : StrsAre (ws ++ [.str x t]) (dstep a x) := by
  unfold dstep; rw [if_neg (ne_true_of_eq_false h1)]; exact strsAre_append h (.cons _ _ .nil)
theorem du_size {ws : List Value} {xs pre post : List Str} {y : Str} (h : StrsAre ws (pre.foldl dstep [])) (e : xs = pre ++ y :: post) (hb : xs.length ≤ 1000) : ws.length ≤ 1001 := by
  have h1 := h.length
  have h2 := dedup_len pre []
  rw [e, List.length_append] at hb
  simp only [List.length_nil, Nat.zero_add] at h2
  omega
structure MarkL (l : Addr) (ws : List Value) (n : Nat) (xs : List Str) (news : List (Addr × Obj)) : Prop where
  mem : (l, listOf ws.toArray n) ∈ news
  txts : StrsAre ws xs
  le : xs.length ≤ 1000
set_option maxHeartbeats 8000000 in
theorem c_dedupu (w : World) (l : Addr) (ws : List Value) (n : Nat) (xs : List Str) : Dfl w 36 4 (fun news => (l, listOf ws.toArray n) ∈ news ∧ StrsAre ws xs ∧ xs.length ≤ 1000) [.ref l] (fun h₀ L m news s Q => ListRet h₀ L m news s Q (dedupF [] xs)) := by
  unfold Dfl
  w_top off
  k_fill
  intros
  rename_i hkf hpre hdp hun hret
  obtain ⟨hm, hi, hb⟩ := hpre
  have hMk := MarkL.mk hm hi hb
  rw [dedupF_eq] at hret
  have hM := kstMark
  refine wpAny_call ?_
  k_dflt cell_enter
  k_with_none
  (k_with "exec For Name Name cons nil" => ((k_here; (rename Fr _ _ _ _ => lF'); (with_unfolding_all refine' For_invVF lF' ?k1np ?k2np ?_; (case k1np => exact rfl); (case k2np => exact rfl); k_whole))))
  (k_with "pyIter ref" => (((with_reducible show wpAny _ _ (pyIter (Value.ref _)) (fun it s₂ => LoopAtV _ _ _ _ _ _ _ _ _ it s₂) _ _); k_here; (rename Fr _ _ _ _ => lF'); (rename News _ _ _ _ => lN'); (rename MarkL _ _ _ _ _ => lR'); (with_unfolding_all refine' loop_acc (xs₀ := []) dstep (by rfl) (MarkL.mem lR') (MarkL.txts lR') .nil lF' lN' ?_ ?_); (all_goals (try clear lF' lN')); (rotate_left 1); (intro ws' c' u' h' tk' hS' F' N'; have hM' := kstMark; (try k_fold)); (rotate_left 1); (intro pre' y' post' t' ws' c' h' tk' I' oI' hE' hS' hlt' hoff' F' N'; have hM' := kstMark; have hL' := du_size hS' hE' lR'.le; (try k_fold)))))
  (k_with "compareOp NotIn str ref" => ((k_here; k_dflt (refine' notin_list_strs (txt_isl ?Nni ?Mni) ?Ini ?_; (case Nni => k_asm); (case Mni => k_mem); (case Ini => assumption); k_whole))))
  (k_with "TurnPost" => ((dsimp only [TurnPost])))
  (k_with "TurnEnd" => (((rename News _ _ _ _ => nE'); (rename StrsAre _ _ => sE'); (try simp only [List.push_toArray] at nE'); refine' turn_acc ?fNP nE' ?iNP ?nNP ?rNP ?lNP ?oNP ?sNP ?mNP; (case fNP => k_asm); (case iNP => exact List.mem_cons_self ..); (case nNP => exact List.mem_cons_of_mem _ (List.mem_cons_self ..)); (case rNP => exact (fun p hp => List.mem_cons_of_mem _ (List.mem_cons_of_mem _ hp))); (case lNP => assumption); (case oNP => assumption); (case mNP => exact (fun z hz => if_neg hz)); (case sNP => first | (refine d_in sE' ?_ <;> assumption) | (refine d_out sE' ?_ <;> assumption)))))
  w_strict k_steps
  all_goals (refine' list_drop hret ?F ?N ?D ?s ?l ?d; (case F => k_asm); (case N => assumption); (case D => exact List.mem_cons_self ..); (case s => exact fun p hp => List.mem_cons_of_mem _ hp); (case d => assumption); (case l => assumption))
end Mine
namespace Mine
open PySem PySem.W PyProof.Rows PySem.Calls
set_option maxRecDepth 100000

section
variable {prog : Program} {w : World} {A : Around} {E : Value → Shared → Prop} {s : Shared} {env : Env} {h₀ : Heap} {x : Str} {body : List Stmt} {Q : Flow → Shared → Prop}
/-- a for over a list of texts whose turns turn the texts of one list, the ledger's first; what holds of them is told by R -/
theorem loop_accR {l : Addr} {vs : List Value} {ys : List Str} {nn : Nat} {m₀ : Str → Option Value} {nc : Addr} {ws₀ : List Value} {xs₀ : List Str} {c₀ : Nat} {rest : List (Addr × Obj)} (R : List Str → List Str → Prop)
    (hh : A.handled = none) (hl : (l, listOf vs.toArray nn) ∈ rest) (hi : StrsAre vs ys) (hw₀ : StrsAre ws₀ xs₀) (hR₀ : R [] xs₀) (F : Fr h₀ env.locals s.heap m₀) (N : News h₀ env.locals s.heap ((nc, listOf ws₀.toArray c₀) :: rest))
    (turn : ∀ pre y post t ws xs c h tk I oI, ys = pre ++ y :: post → StrsAre ws xs → R pre xs → @LT.lt Nat _ nc I → (∀ p ∈ rest, p.1 ≠ I) →
      Fr h₀ env.locals h (fun z => if z = x then some (.str y t) else m₀ z) → News h₀ env.locals h ((I, oI) :: (nc, listOf ws.toArray c) :: rest) →
      wpAny (model prog w) A (execs body env) (TurnPost h₀ env.locals (fun m' nx => ∃ ws' xs' c', nx = (nc, listOf ws'.toArray c') :: rest ∧ StrsAre ws' xs' ∧ R (pre ++ [y]) xs' ∧ ∀ z, z ≠ x → m' z = m₀ z) I oI { s with heap := h, toks := tk } Q) E { s with heap := h, toks := tk })
    (done : ∀ ws xs c (u : Str → Option Value) h tk, StrsAre ws xs → R ys xs → Fr h₀ env.locals h (fun z => if z = x then u z else m₀ z) → News h₀ env.locals h ((nc, listOf ws.toArray c) :: rest) → Q .next { s with heap := h, toks := tk }) :
    wpAny (model prog w) A (pyIter (.ref l)) (fun it s₂ => LoopAtV prog w A h₀ env x body Q E it s₂) E s := by
  refine loop_list (fun i m nx => ∃ ws xs c, nx = (nc, listOf ws.toArray c) :: rest ∧ StrsAre ws xs ∧ R (ys.take i) xs ∧ ∀ z, z ≠ x → m z = m₀ z) hh (List.mem_cons_of_mem _ hl) F N ⟨ws₀, xs₀, c₀, rfl, hw₀, by simpa using hR₀, fun _ _ => rfl⟩ ?_ ?_
  · rintro i v m₁ nx h tk I oI hv hoff hlt _ ⟨ws, xs, c, rfl, hws, hR, hm⟩ F₁ N₁
    obtain ⟨y, t, rfl, hy⟩ := strs_get hi hv
    have hs : ys.take (i + 1) = ys.take i ++ [y] := by simp [List.take_add_one, hy]
    have e : ys = ys.take i ++ y :: ys.drop (i + 1) := by
      have ht := List.take_append_drop (i + 1) ys
      rw [hs, List.append_assoc] at ht
      exact ht.symm
    have em : (fun z => if z = x then some (Value.str y t) else m₁ z) = fun z => if z = x then some (Value.str y t) else m₀ z := by
      funext z
      by_cases hz : z = x
      · simp [hz]
      · simp only [if_neg hz]; exact hm z hz
    rw [em] at F₁
    refine wpAny_mono (turn _ y _ t ws xs c h tk I oI e hws hR (hlt _ (List.mem_cons_self ..)) (fun p hp => hoff p (List.mem_cons_of_mem _ hp)) F₁ N₁) (fun fl s₂ p => ?_) fun _ _ e => e
    have up : TurnEnd h₀ env.locals (fun m' nx => ∃ ws' xs' c', nx = (nc, listOf ws'.toArray c') :: rest ∧ StrsAre ws' xs' ∧ R (ys.take i ++ [y]) xs' ∧ ∀ z, z ≠ x → m' z = m₀ z) I oI { s with heap := h, toks := tk } s₂ →
        TurnEnd h₀ env.locals (fun m' nx' => (l, listOf vs.toArray nn) ∈ nx' ∧ ∃ ws xs c, nx' = (nc, listOf ws.toArray c) :: rest ∧ StrsAre ws xs ∧ R (ys.take (i + 1)) xs ∧ ∀ z, z ≠ x → m' z = m₀ z) I oI { s with heap := h, toks := tk } s₂ := by
      rintro ⟨h', tk', m', nx', e', F', N', ho', ws', xs', c', rfl, hw', hR', hm'⟩
      exact ⟨h', tk', m', _, e', F', N', ho', List.mem_cons_of_mem _ hl, ws', xs', c', rfl, hw', hs ▸ hR', hm'⟩
    cases fl with
    | ret v => exact p
    | brk => exact p
    | next => exact up p
    | cont => exact up p
  · rintro m₁ nx h tk _ ⟨ws, xs, c, rfl, hws, hR, hm⟩ F₁ N₁
    have hlen : vs.length = ys.length := hi.length
    rw [hlen, List.take_length] at hR
    refine done ws xs c m₁ h tk hws hR ?_ N₁
    have em : (fun z => if z = x then m₁ z else m₀ z) = m₁ := by
      funext z
      by_cases hz : z = x
      · simp [hz]
      · simp only [if_neg hz]; exact (hm z hz).symm
    rw [em]
    exact F₁
theorem turn_accR {L : Addr} {m₀ m' : Str → Option Value} {nc I : Addr} {oI : Obj} {pre' xs' : List Str} {R : List Str → List Str → Prop} {rest news' : List (Addr × Obj)} {s₁ : Shared} {h' : Heap} {tk : Nat} {ws' : List Value} {c' : Nat}
    (F : Fr h₀ L h' m') (N : News h₀ L h' news') (hI : (I, oI) ∈ news') (hn : (nc, listOf ws'.toArray c') ∈ news') (hr : ∀ p ∈ rest, p ∈ news') (hlt : @LT.lt Nat _ nc I) (ho : ∀ p ∈ rest, p.1 ≠ I) (hs : StrsAre ws' xs') (hR : R pre' xs') (hm : ∀ z, z ≠ x → m' z = m₀ z) :
    TurnEnd h₀ L (fun m' nx => ∃ ws' xs' c', nx = (nc, listOf ws'.toArray c') :: rest ∧ StrsAre ws' xs' ∧ R pre' xs' ∧ ∀ z, z ≠ x → m' z = m₀ z) I oI s₁ { s₁ with heap := h', toks := tk } := by
  refine ⟨h', tk, m', (nc, listOf ws'.toArray c') :: rest, rfl, F, fun p hp => N p ?_, fun p hp => ?_, ws', xs', c', rfl, hs, hR, hm⟩
  · rcases List.mem_cons.mp hp with rfl | hp
    · exact hI
    · rcases List.mem_cons.mp hp with rfl | hp
      · exact hn
      · exact hr p hp
  · rcases List.mem_cons.mp hp with rfl | hp
    · exact Nat.ne_of_lt hlt
    · exact ho p hp
end

theorem strs_erase {ws : List Value} {xs : List Str} (h : StrsAre ws xs) : ∀ {x : Str}, x ∈ xs → ∃ j, j < ws.length ∧ StrsAre (ws.eraseIdx j) (xs.erase x) ∧ (∀ (hj : j < ws.length), PyProof.Rows.isStrOf x ws[j] = true) ∧ ∀ i (hi : i < ws.length), i < j → PyProof.Rows.isStrOf x ws[i] = false := by
  induction h with
  | nil => intro x hx; cases hx
  | cons a t r ih =>
    intro x hx
    by_cases e : a = x
    · subst e
      refine ⟨0, by simp, ?_, fun _ => by simp [PyProof.Rows.isStrOf], fun i _ hi => absurd hi (Nat.not_lt_zero _)⟩
      simpa using r
    · have hx' := (List.mem_cons.mp hx).resolve_left (fun q => e q.symm)
      obtain ⟨j, h1, h2, h3, h4⟩ := ih hx'
      refine ⟨j + 1, by simpa using h1, ?_, fun hj => by simpa using h3 h1, fun i hi hij => ?_⟩
      · rw [List.eraseIdx_cons_succ, List.erase_cons_tail (by simpa using e)]
        exact .cons a t h2
      · cases i with
        | zero => simpa [PyProof.Rows.isStrOf] using e
        | succ i => simpa using h4 i (by simpa using hi) (by omega)
section
variable {prog : Program} {w : World} {A : Around} {E : Value → Shared → Prop} {s : Shared} {h₀ : Heap} {L D : Addr} {m : Str → Option Value} {news : List (Addr × Obj)} {n : Nat} {ws : List Value} {xs : List Str} {g : Obj → List (Addr × Obj)}
theorem txt_remove {x : Str} {t : Tok} {Q : Value → Shared → Prop} (hh : A.handled = none) (F : Fr h₀ L s.heap m) (N : News h₀ L s.heap news) (hi : StrsAre ws xs) (U : UpdF D (listOf ws.toArray n) news g) (hb : ws.length ≤ 1001)
    (h : x ∈ xs → ∀ h' ws', Fr h₀ L h' m → News h₀ L h' (g (listOf ws'.toArray (n + 1))) → StrsAre ws' (xs.erase x) → ws'.length ≤ 1001 → Q .none { s with heap := h' })
    (hno : x ∉ xs → ∀ h' tk e, Heap.NewExc s.heap h' e "ValueError" → E (.ref e) { s with heap := h', toks := tk }) :
    wpAny (model prog w) A (call (.builtin "list.remove") [.ref D, .str x t]) Q E s := by
  obtain ⟨pre, post, rfl, hg, a', b'⟩ := U.split
  have z := N (D, listOf ws.toArray n) (List.mem_append.mpr (.inr (.head _)))
  have he : ∀ y, y ∈ ws.toArray → MeetsSeq.EqGives y (.str x t) (PyProof.Rows.isStrOf x y) := fun y hy => eq_isStrOf x t hi y (by simpa using hy)
  by_cases hx : x ∈ xs
  · obtain ⟨j, h1, h2, h3, h4⟩ := strs_erase hi hx
    have hj : j < ws.toArray.size := by simpa using h1
    have hlen : (ws.eraseIdx j).length = ws.length - 1 := by rw [List.length_eraseIdx, if_pos h1]
    refine call_meets PySem.F.slot_list_remove ⟨_, z.1, rfl⟩ PySem.F.entry_list_remove (PySem.F.args_list_remove_2 _ _)
      (MeetsSeq.list_remove D ws.toArray n (.str x t) (PyProof.Rows.isStrOf x) he j hj (by simpa using h3 h1) (fun i hi hij => by simpa using h4 i (by simpa using hi) hij) (by rw [sizeLine_eq, List.size_toArray]; omega))
      ⟨z.1, h hx _ (ws.eraseIdx j) (F.change (Heap.SameBut.update ..) z.2.1 z.2.2) ?_ h2 (by omega)⟩
    rw [hg]
    refine kl_turn (fun xs => xs.eraseIdxIfInBounds j) N a' b' ?_ ?_
    · apply Array.toList_inj.mp
      simp [Array.toList_eraseIdxIfInBounds]
    · rw [List.size_toArray, List.size_toArray, hlen]; omega
  · have hnot : ∀ i (hi' : i < ws.toArray.size), PyProof.Rows.isStrOf x ws.toArray[i] = false := by
      intro i hi'
      have e1 := any_isStrOf x hi
      have e2 : xs.any (· == x) = false := by
        rw [Bool.eq_false_iff]; intro q
        obtain ⟨y, hy, hyx⟩ := List.any_eq_true.mp q
        exact hx (by rw [← beq_iff_eq.mp hyx]; exact hy)
      rw [e2] at e1
      have := List.any_eq_false.mp e1 (ws.toArray[i]) (by simp)
      simpa using this
    exact call_meets PySem.F.slot_list_remove ⟨_, z.1, rfl⟩ PySem.F.entry_list_remove (PySem.F.args_list_remove_2 _ _)
      (MeetsSeq.list_remove_none D ws.toArray n (.str x t) (PyProof.Rows.isStrOf x) he hnot) ⟨z.1, hh, fun h' tk e hx' => hno hx h' tk e hx'⟩
end

end Mine
namespace Mine
open PySem PySem.W PyProof.Rows PySem.Calls
set_option maxRecDepth 100000
section
variable {prog : Program} {w : World} {A₀ A : Around} {s : Shared} {base h₀ : Heap} {outer : List Env} {L : Addr} {m : Str → Option Value} {env : Env} {news : List (Addr × Obj)} {K : Frag} {p : Program} {loose : List Str} {mean : ExcName → Option Value} {mg mb : Str → Option Value}
  {R : Result → Shared → Prop} {name qual : Str} {params : Arguments} {body : List Stmt} {scope : Scope} {dV kV doc pm cdv ct oc : Value} {an od : Option Addr} {osl : Array (Option Value)} {f : Addr} {args : Args} {binds : List (Str × Value)}
/-- a def that catches is entered: its end is told by what comes back alone -/
theorem enter_try (B : Below A₀ base outer h₀) (F : Fr h₀ L s.heap m) (X₀ : K.In h₀) (N : News h₀ L s.heap news) (T : Top p loose mean mg mb h₀) (hA : A.frames = some (env :: outer)) (hf : env.frame = some L) (hke : env.scope.kind = .function)
    (ho : K.lookup f = some ⟨oc, od, .func (fnOf name qual params body scope dV kV doc pm an cdv ct), osl⟩) (hcd : codeIn K cdv qual = true) (hroom : A.depth < recursionLimit)
    (hbind : BindsTo s (fnOf name qual params body scope dV kV doc pm an cdv ct) args binds) (hloc : ∀ y ∈ binds, scope.names.lookup y.1 = some .local)
    (h : ∀ g L' h₁, Fr h₀ L g m → Fr g L' h₁ (fun y => binds.reverse.lookup y) → News g L' h₁ news → Below A base (env :: outer) g → K.In g → Top p loose mean mg mb g →
      wpAny (model prog w) (A.deeper (envOf qual scope L' f cdv)) (execs body (envOf qual scope L' f cdv))
        (fun fl s' => R (.ok (.ret (match fl with | .ret v => v | _ => .none))) s')
        (fun e s' => wpAny (model prog w) (A.deeper (envOf qual scope L' f cdv)) (leaving (envOf qual scope L' f cdv) e) (fun _ s'' => R (.error e) s'') (fun e' s'' => R (.error e') s'') s')
        { s with heap := h₁, toks := s.toks + binds.length })
    (hco : scope.isCoroutine = false) (hgen : scope.isGenerator = false) (hk : scope.kind = .function)
    (hcell : ∀ x ∈ scope.names, x.2 ≠ .cell) : codeAny (model prog w) A (.call (.ref f) args) R s := by
  obtain ⟨FG, BG, st, _⟩ := groundX (R := R) B F N hA hf hke
  refine codeAny_call_def (fd := fnOf name qual params body scope dV kV doc pm an cdv ct) (body := body) (binds := binds) hroom ((X₀.keeps F.keep) _ _ ho) rfl (T.nolimit.keeps F.keep) (codeRec_of (X₀.keeps F.keep) hcd) rfl hbind hcell hloc (fun h₁ hns hk₁ => ?_) hco hgen hk
  exact h _ s.heap.objs.size h₁ FG ⟨hns, fun b o e => hk₁ b o (of_hideAll _ e), Nat.le_of_eq (hideAll_size _ _)⟩
    (fun q hq => ⟨hk₁ _ _ (N q hq).1, Nat.ne_of_lt (Heap.lt_size (N q hq).1), hideAll_none _ (List.mem_map_of_mem hq)⟩) BG (X₀.keeps st) (T.keeps st)
end

/-- the caller's frame as a callee that catches sees it -/
structure CallerM (h₀ g : Heap) (L : Addr) (m : Str → Option Value) (env : Env) : Prop where
  fr : Fr h₀ L g m
  kind : env.scope.kind ≠ .module
  frame : env.frame = some L
section
variable {h₀ g h : Heap} {L L' : Addr} {m m' : Str → Option Value} {env : Env} {news new : List (Addr × Obj)}
theorem back_norm (C : CallerM h₀ g L m env) (F' : Fr g L' h m') (N' : News g L' h new) (hs : ∀ p ∈ news, p ∈ new) : Fr h₀ L h m ∧ News h₀ L h news := by
  obtain ⟨oL, es, ep, hL, hLd, hLk, hLf⟩ := C.fr.ns
  refine ⟨⟨⟨oL, es, ep, F'.keep L oL hL, hLd, hLk, hLf⟩, fun b o e => F'.keep b o (C.fr.keep b o e), C.fr.above⟩, fun p hp => ⟨(N' p (hs p hp)).1, fun q => ?_, ?_⟩⟩
  · have := (N' p (hs p hp)).2.2; rw [q, hL] at this; cases this
  · cases q : h₀.get? p.1 with
    | none => rfl
    | some o => have := (N' p (hs p hp)).2.2; rw [C.fr.keep _ _ q] at this; cases this
theorem caught_new {prog : Program} {w : World} {A₀ : Around} {E : Value → Shared → Prop} {s' : Shared} {a e : Addr} {name : Str} {scope : Scope} {cd : Value} {Q : Unit → Shared → Prop} {X : String}
    (C : CallerM h₀ g L m env) (hfr : A₀.frames = some [env]) (hx : Heap.NewExc h s'.heap e X) (F : Fr g L' h m') (N : News g L' h new)
    (k : ∀ h' oL, TI.Caller h₀ L m oL → TT.HeldN h₀ L' h' m' e X (new ++ [(L, oL)]) → Q () { s' with heap := h' }) (hk : scope.kind = .function := by rfl) :
    wpAny (model prog w) (A₀.deeper (envOf name scope L' a cd)) (noteFrame (.ref e) (envOf name scope L' a cd)) Q E s' := by
  obtain ⟨oL, es, ep, hL, hLd, hLk, hLf⟩ := C.fr.ns
  have hLL : L ≠ L' := by
    intro q
    have h1 := Heap.lt_size hL
    have h2 := F.above
    rw [q] at h1
    exact absurd (Nat.lt_of_lt_of_le h1 h2) (Nat.lt_irrefl _)
  have hne : ∀ p ∈ new, p.1 ≠ L := fun p hp q => by
    have := (N p hp).2.2; rw [q, hL] at this; cases this
  have F₂ : Fr h₀ L' h m' := ⟨F.ns, fun b o e => F.keep b o (C.fr.keep b o e), by
    have h1 := C.fr.above
    have h2 := F.above
    exact Nat.le_trans h1 (Nat.le_of_lt (Nat.lt_of_lt_of_le (Heap.lt_size hL) h2))⟩
  have N₂ : News h₀ L' h (new ++ [(L, oL)]) := fun p hp => by
    rcases List.mem_append.mp hp with hp | hp
    · refine ⟨(N p hp).1, (N p hp).2.1, ?_⟩
      cases q : h₀.get? p.1 with
      | none => rfl
      | some o => have := (N p hp).2.2; rw [C.fr.keep _ _ q] at this; cases this
    · rw [List.mem_singleton.mp hp]
      exact ⟨F.keep _ _ hL, hLL, Heap.get?_none_of_le C.fr.above⟩
  refine TLg.noted_new1 (new := new) hfr ⟨C.kind, C.frame, ⟨es, ep, hLd⟩, trivial⟩ hx F₂ N₂ (TLgL.allNe_of hne) (fun h' sl _ H => k h' { oL with slots := sl } ⟨?_, ⟨es, ep, hLd⟩, C.fr.above⟩ H) hk
  intro h₁ sl' e
  exact ⟨_, es, ep, e, hLd, hLk, hLf⟩
theorem back_caught {oL : Obj} (C : CallerM h₀ g L m env) (Cl : TI.Caller h₀ L m oL) {L₂ : Addr} {h₂ : Heap} (N0 : News g L₂ h₂ new) (F' : Fr h₀ L' h m') (N' : News h₀ L' h (new ++ [(L, oL)])) (hs : ∀ p ∈ news, p ∈ new) : Fr h₀ L h m ∧ News h₀ L h news := by
  obtain ⟨oL', es, ep, hL, hLd, hLk, hLf⟩ := C.fr.ns
  have hL' : h.get? L = some oL := (N' _ (List.mem_append_right _ List.mem_cons_self)).1
  refine ⟨⟨Cl.ns h oL.slots hL', F'.keep, Cl.above⟩, fun p hp => ?_⟩
  obtain ⟨x1, _, x3⟩ := N' p (List.mem_append_left _ (hs p hp))
  refine ⟨x1, fun q => ?_, x3⟩
  have := (N0 p (hs p hp)).2.2
  rw [q, hL] at this
  cases this
end
end Mine
namespace Mine
open PySem PySem.W PyProof.Rows PySem.Calls
set_option maxRecDepth 100000

noncomputable def remAll : List Str → List Str → Bool
  | [], t => t.isEmpty
  | e :: r, t => if e ∈ t then remAll r (t.erase e) else false
noncomputable abbrev cmpF (xs ys : List Str) : Bool := remAll (dedupF [] xs) (dedupF [] ys)
noncomputable def RemR (F S : List Str) (pre cur : List Str) : Prop := cur.length ≤ 1001 ∧ ∀ post, F = pre ++ post → remAll F S = remAll post cur
structure MarkC (F S : List Str) : Prop where
  start : RemR F S [] S
theorem dedupF_len {xs : List Str} (h : xs.length ≤ 1000) : (dedupF [] xs).length ≤ 1001 := by
  rw [dedupF_eq]
  have h2 := dedup_len xs []
  simp only [List.length_nil, Nat.zero_add] at h2
  omega
theorem rem_start (F : List Str) {xs : List Str} (h : xs.length ≤ 1000) : MarkC F (dedupF [] xs) := ⟨dedupF_len h, fun post e => by rw [e]; rfl⟩
theorem rem_turn {F S pre cur post : List Str} {y : Str} (h : RemR F S pre cur) (e : F = pre ++ y :: post) (hy : y ∈ cur) : RemR F S (pre ++ [y]) (cur.erase y) := by
  refine ⟨Nat.le_trans List.length_erase_le h.1, ?_⟩
  intro post' e'
  have e2 : post' = post := by
    rw [e, List.append_assoc] at e'
    exact (List.cons.inj (List.append_cancel_left e')).2.symm
  subst e2
  rw [h.2 _ e]
  simp only [remAll, if_pos hy]
theorem rem_no {F S pre cur post : List Str} {y : Str} (h : RemR F S pre cur) (e : F = pre ++ y :: post) (hy : y ∉ cur) : false = remAll F S := by
  rw [h.2 _ e]
  simp only [remAll, if_neg hy]
theorem rem_end {F S cur : List Str} (h : RemR F S F cur) : cur.isEmpty = remAll F S := by
  rw [h.2 [] (by simp)]
  rfl
theorem rem_end' {F S cur : List Str} {ws : List Value} (h : RemR F S F cur) (hi : StrsAre ws cur) : (!!ws.isEmpty) = remAll F S := by
  rw [Bool.not_not, ← rem_end h]
  cases hi <;> rfl
theorem rem_size {F S pre cur : List Str} {ws : List Value} (h : RemR F S pre cur) (hi : StrsAre ws cur) : ws.length ≤ 1001 := by rw [hi.length]; exact h.1
theorem dd_size {ws : List Value} {xs : List Str} (h : StrsAre ws (dedupF [] xs)) (hb : xs.length ≤ 1000) : ws.length ≤ 1001 := by
  rw [h.length]; exact dedupF_len hb
theorem callerM_of {A : Around} {base h₀ g : Heap} {outer : List Env} {cn : Str} {cs : Scope} {L a : Addr} {ccd : Value} {cl : List (Str × Addr)} {m : Str → Option Value} (_B : Below A base (envX cn cs L a ccd cl :: outer) g) (F : Fr h₀ L g m) (h : cs.kind = .function) : CallerM h₀ g L m (envX cn cs L a ccd cl) :=
  ⟨F, by show cs.kind ≠ .module; rw [h]; decide, rfl⟩
noncomputable abbrev Dfl1 (w : World) (f : Addr) (k : Nat) (pre : List (Addr × Obj) → Prop) (vs : List Value) (Ret : Heap → Addr → (Str → Option Value) → List (Addr × Obj) → Shared → (Value → Shared → Prop) → Prop) : Prop :=
  ∀ (loose : List Str) (mean : ExcName → Option Value) (mg mb : Str → Option Value) (news : List (Addr × Obj)) (dp un : Nat) (gd : Option (List Code)) (cn : Str) (cs : Scope) (a : Addr) (ccd : Value) (cl : List (Str × Addr)) (A₀ : Around) (base h₀ : Heap) (L : Addr) (m : Str → Option Value) (s : Shared) (Q E : Value → Shared → Prop),
    Below A₀ base [] h₀ → Fr h₀ L s.heap m → (hd.heap_39 w.params).In h₀ → News h₀ L s.heap news → Top topProg loose mean mg mb h₀ → (Str.ofString "ValueError" ∉ loose ∧ Str.ofString "ValueError" ∉ (clssOf topProg loose).map (·.name)) → cs.kind = .function →
    pre news → dp + k < recursionLimit → un + 10 * k < cLine → Ret h₀ L m news s Q →
      wpAny (model PySem.Challenge.rw_ik0183_01.row.prog w) (ktrTop dp un gd cn cs L a ccd cl []) (call (.ref f) vs) Q E s
theorem ret_b {h₀ h' : Heap} {L : Addr} {m : Str → Option Value} {news : List (Addr × Obj)} {s : Shared} {Q : Value → Shared → Prop} {tk : Nat} {x y : Bool} (hret : CbRet h₀ L m news s Q (fun _ => .bool x)) (e : y = x) (FN : Fr h₀ L h' m ∧ News h₀ L h' news) : Q (.bool y) { s with heap := h', toks := tk } := by
  subst e
  exact hret 0 h' tk FN.1 FN.2
set_option maxHeartbeats 8000000 in
theorem c_compare (w : World) (l1 l2 : Addr) (ws1 ws2 : List Value) (n1 n2 : Nat) (xs1 xs2 : List Str) : Dfl1 w 43 8 (fun news => ((l1, listOf ws1.toArray n1) ∈ news ∧ StrsAre ws1 xs1 ∧ xs1.length ≤ 1000) ∧ ((l2, listOf ws2.toArray n2) ∈ news ∧ StrsAre ws2 xs2 ∧ xs2.length ≤ 1000)) [.ref l1, .ref l2] (fun h₀ L m news s Q => CbRet h₀ L m news s Q (fun _ => .bool (cmpF xs1 xs2))) := by
  unfold Dfl1
  w_top off
  k_fill
  intros
  rename_i hve hkf hpre hdp hun hret
  obtain ⟨hve2, hve5⟩ := hve
  obtain ⟨⟨hm1, hi1, hb1⟩, ⟨hm2, hi2, hb2⟩⟩ := hpre
  have hMk := rem_start (dedupF [] xs1) hb2
  have hM := kstMark
  refine wpAny_call ?_
  k_dflt (refine' enter_try ?k1 ?k2 ?k3 ?k4 ?k5 ?kA ?kF ?kK ?k6 ?k7 ?k8 ?k9 ?kB ?_ ?c2 ?c3 ?c4 ?c5; (case kA => exact rfl); (case kF => exact rfl); (case kK => exact hkf); (case k1 => k_asm); (case k2 => k_asm); (case k3 => k_asm); (case k4 => k_asm); (case k5 => k_asm); (case k6 => k_is); (case k7 => k_is); (case k8 => ktr_room); (case k9 => exact BindsTo.of_eq rfl); (case c5 => decide); (case kB => exact locs rfl); (case c2 => exact rfl); (case c3 => exact rfl); (case c4 => exact rfl); k_whole; intro g' L' h' FG' F' N' B' X' T'; (have hC' := callerM_of B' FG' hkf); (try dsimp only); (try k_fold))
  k_with_none
  (k_with "call ref" => ((k_here; (with_reducible show wpAny _ _ (call (Value.ref 36) [Value.ref _]) _ _ _); k_dflt (refine' c_dedupu _ _ _ _ _ _ _ _ _ _ _ _ _ _ _ _ _ _ _ _ _ _ _ _ _ _ _ ?k1c_dedupu ?k2c_dedupu ?k3c_dedupu ?k4c_dedupu ?k5c_dedupu ?kKc_dedupu ?kpc_dedupu ?kdc_dedupu ?kuc_dedupu ?_); (case k1c_dedupu => k_asm); (case k2c_dedupu => k_asm); (case k3c_dedupu => k_asm); (case k4c_dedupu => k_asm); (case k5c_dedupu => k_asm); (case kKc_dedupu => exact rfl); (case kpc_dedupu => (refine ⟨?_, ?_, ?_⟩; (first | assumption | (refine List.mem_cons_of_mem _ ?_; assumption) | (refine List.mem_cons_of_mem _ (List.mem_cons_of_mem _ ?_); assumption)); assumption; assumption)); (case kdc_dedupu => ktr_room); (case kuc_dedupu => ktr_units); intro D' ws' c' h' tk' F' N' l1 hi'; (have hL' := dd_size hi' (by assumption)); (try k_lt l1); (try dsimp only); (try k_fold))))
  (k_with "exec For Name Name cons nil" => ((k_here; (rename Fr _ _ _ _ => lF'); (with_unfolding_all refine' For_invVF lF' ?k1np ?k2np ?_; (case k1np => exact rfl); (case k2np => exact rfl); k_whole))))
  (k_with "pyIter ref" => (((with_reducible show wpAny _ _ (pyIter (Value.ref _)) (fun it s₂ => LoopAtV _ _ _ _ _ _ _ _ _ it s₂) _ _); k_here; (rename Fr _ _ _ _ => lF'); (rename News _ _ _ _ => lN'); (rename MarkC _ _ => lR'); (with_unfolding_all refine' loop_accR (RemR _ _) (by rfl) ?mCm ?iCm ?wCm (MarkC.start lR') lF' lN' ?_ ?_; (case mCm => k_mem); (case iCm => assumption); (case wCm => assumption)); (all_goals (try clear lF' lN')); (rotate_left 1); (intro ws' xs' c' u' h' tk' hS' hR' F' N'; have hM' := kstMark; have hE' := rem_end hR'; have hB' := rem_size hR' hS'; (try k_fold)); (rotate_left 1); (intro pre' y' post' t' ws' xs' c' h' tk' I' oI' hE' hS' hR' hlt' hoff' F' N'; have hM' := kstMark; have hB' := rem_size hR' hS'; (try k_fold)))))
  (k_with "call builtin:list.remove" => ((k_here; (with_reducible show wpAny _ _ (call (Value.builtin _) [Value.ref _, Value.str _ _]) _ _ _); k_dflt (refine' txt_remove ?Hrm ?Frm ?Nrm ?Irm ?Urm ?Brm ?_ ?_; (case Hrm => exact rfl); (case Frm => k_asm); (case Nrm => k_asm); (case Urm => k_updF); (case Irm => assumption); (case Brm => assumption)); (intro hy' h' ws' F' N' hS' hB'); (rotate_left 1); (intro hy' h' tk' e' hx'))))
  (k_with "noteFrame ref" => ((k_here; (rename Heap.NewExc _ _ _ _ => tiX'); (rename CallerM _ _ _ _ _ => tiC'); k_dflt (refine' caught_new tiC' ?Hcn tiX' ?Fcn ?Ncn ?_ ?Kcn; (case Hcn => exact rfl); (case Kcn => exact rfl); (case Fcn => assumption); (case Ncn => assumption)); clear tiX'; intro h' oL' tiL' tiH'; have tiHH' := TT.HeldNA.held tiH')))
  (k_with "handleBy" => (((with_reducible rename TT.HeldNA _ _ _ _ _ _ _ _ => ttN); with_unfolding_all refine TT.clause_hitTN ttN (by assumption) (k := ?_) (hv := by boot_by_name) (t2 := by assumption) (t5 := by assumption); clear ttN; (try (with_reducible rename HeldAt _ _ _ _ _ _ _ => ttH; clear ttH)); intro h' F' N')))
  (k_with "TurnPost" => ((dsimp only [TurnPost])))
  (k_with "TurnEnd" => (((rename News _ _ _ _ => nE'); refine' turn_accR ?fNP nE' ?iNP ?nNP ?rNP ?lNP ?oNP ?sNP ?RNP ?mNP; (case fNP => k_asm); (case iNP => exact List.mem_cons_self ..); (case nNP => exact List.mem_cons_of_mem _ (List.mem_cons_self ..)); (case rNP => exact (fun p hp => List.mem_cons_of_mem _ (List.mem_cons_of_mem _ hp))); (case lNP => assumption); (case oNP => assumption); (case mNP => exact (fun z hz => if_neg hz)); (case sNP => assumption); (case RNP => exact rem_turn (by assumption) (by assumption) (by assumption)))))
  (k_with "eval Constant str" => ((refine sm_str ?_; intro tA' tB')))
  (k_with "eval Constant int" => ((refine sm_int ?_; intro tA' tB')))
  (k_with "storeName" => ((k_here; k_dflt (refine' sm_store ?Fss ?Nss ?_ ?ass ?bss; (case Fss => k_asm); (case Nss => k_asm); (case ass => rfl); (case bss => rfl); k_whole; intro h' tk' F' N'; (try k_sweep)))))
  (k_with "truthy str" => ((k_here; (with_reducible show wpAny _ _ (truthy (Value.str _ _)) _ _ _); refine' sm_truthy ?bst ?_; (case bst => first | assumption | omega); intro tk')))
  (k_with "eval Name" => ((k_here; k_dflt (refine' nameX_L ?Fsn ?vsn ?_ ?asn ?bsn; (case Fsn => k_asm); (case asn => rfl); (case bsn => rfl); (case vsn => first | exact Eq.refl (some _) | assumption); k_whole))))
  (k_with "execs cons" => ((k_here; k_fold)))
  (k_with "exec Assign" => ((k_here; k_fold)))
  (k_with "exec If" => ((k_here; k_fold)))
  (k_with "exec Expr" => ((k_here; k_fold)))
  w_strict k_steps
  all_goals first
    | (refine ret_b hret (rem_end' (by assumption) (by assumption)) (back_norm (by assumption) (by assumption) (by assumption) ?_); (intro p hp; exact List.mem_cons_of_mem _ (List.mem_cons_of_mem _ (List.mem_cons_of_mem _ hp))))
    | (refine ret_b hret (rem_no (by assumption) (by assumption) (by assumption)) (back_caught (by assumption) (by assumption) (by assumption) (by assumption) (by assumption) ?_); (intro p hp; exact List.mem_cons_of_mem _ (List.mem_cons_of_mem _ (List.mem_cons_of_mem _ (List.mem_cons_of_mem _ hp)))))
    | w_report
end Mine
namespace Mine
open PySem PySem.W PyProof.Rows PySem.Calls
set_option maxRecDepth 100000

/-- the state of _law_end's loops: where the names lie, and what root and above hold -/
structure NS where
  a : Addr
  ws : List Value
  n : Nat
  xs : List Str
  root : Str
  tr : Tok
  above : Int
  ta : Tok
noncomputable abbrev NS.led (c : NS) (rest : List (Addr × Obj)) : List (Addr × Obj) := (c.a, listOf c.ws.toArray c.n) :: rest
noncomputable abbrev NS.ps (c : NS) : List (Str × Value) := [(Str.ofString "names", .ref c.a), (Str.ofString "root", .str c.root c.tr), (Str.ofString "above", .int c.above c.ta)]
noncomputable def NS.In (c : NS) (m : Str → Option Value) : Prop := ∀ p ∈ c.ps, m p.1 = some p.2
noncomputable abbrev NS.pure (c : NS) : Str × Int × List Str := (c.root, c.above, c.xs)
noncomputable def NSPost (x : Str) (stored : List Str) (m₀ : Str → Option Value) (rest : List (Addr × Obj)) (ok : Addr → Prop) (P : Str × Int × List Str → Prop) (m' : Str → Option Value) (nx : List (Addr × Obj)) : Prop :=
  ∃ c : NS, nx = c.led rest ∧ ok c.a ∧ StrsAre c.ws c.xs ∧ P c.pure ∧ (∀ p ∈ c.ps, m' p.1 = some p.2) ∧ ∀ z, z ≠ x → (∀ p ∈ c.ps, z ≠ p.1) → stored.contains z = false → m' z = m₀ z
section
variable {prog : Program} {w : World} {A : Around} {E : Value → Shared → Prop} {s : Shared} {env : Env} {h₀ : Heap} {x : Str} {body : List Stmt} {Q : Flow → Shared → Prop}
theorem loop_nm {l : Addr} {vs : List Value} {ys : List Str} {nn : Nat} {m₀ : Str → Option Value} {rest : List (Addr × Obj)} (stored : List Str) (ok : Addr → Prop) (R : List Str → Str × Int × List Str → Prop) (c₀ : NS)
    (hh : A.handled = none) (hl : (l, listOf vs.toArray nn) ∈ rest) (hi : StrsAre vs ys) (F : Fr h₀ env.locals s.heap m₀) (N : News h₀ env.locals s.heap (c₀.led rest)) (h0 : StrsAre c₀.ws c₀.xs) (hok : ok c₀.a) (hR : R [] c₀.pure) (hk : c₀.In m₀)
    (turn : ∀ (c : NS) pre y post t (u : Str → Option Value) h tk I oI, ys = pre ++ y :: post → StrsAre c.ws c.xs → R pre c.pure → ok c.a → @Ne Nat c.a I → (∀ p ∈ rest, p.1 ≠ I) → (∀ p ∈ rest, p.1 < I) →
      Fr h₀ env.locals h (fun z => if z = x then some (.str y t) else kstB (fun z => if stored.contains z then u z else m₀ z) c.ps z) → News h₀ env.locals h ((I, oI) :: c.led rest) →
      wpAny (model prog w) A (execs body env) (TurnPost h₀ env.locals (NSPost x stored m₀ rest ok (R (pre ++ [y]))) I oI { s with heap := h, toks := tk } Q) E { s with heap := h, toks := tk })
    (done : ∀ (c : NS) (u : Str → Option Value) h tk, ok c.a → StrsAre c.ws c.xs → R ys c.pure → Fr h₀ env.locals h (fun z => if z = x then u z else kstB (fun z => if stored.contains z then u z else m₀ z) c.ps z) → News h₀ env.locals h (c.led rest) → Q .next { s with heap := h, toks := tk }) :
    wpAny (model prog w) A (pyIter (.ref l)) (fun it s₂ => LoopAtV prog w A h₀ env x body Q E it s₂) E s := by
  refine loop_list (fun i m nx => NSPost x stored m₀ rest ok (R (ys.take i)) m nx) hh (List.mem_cons_of_mem _ hl) F N ⟨c₀, rfl, hok, h0, by simpa using hR, hk, fun _ _ _ _ => rfl⟩ ?_ ?_
  · rintro i v m₁ nx h tk I oI hv hoff hlt _ ⟨c, rfl, hokc, hws, hR', h1, h2⟩ F₁ N₁
    obtain ⟨y, t, rfl, hy⟩ := strs_get hi hv
    have hs : ys.take (i + 1) = ys.take i ++ [y] := by simp [List.take_add_one, hy]
    have e : ys = ys.take i ++ y :: ys.drop (i + 1) := by
      have ht := List.take_append_drop (i + 1) ys
      rw [hs, List.append_assoc] at ht
      exact ht.symm
    refine wpAny_mono (turn c _ y _ t m₁ h tk I oI e hws hR' hokc (hoff _ (List.mem_cons_self ..)) (fun p hp => hoff p (List.mem_cons_of_mem _ hp)) (fun p hp => hlt p (List.mem_cons_of_mem _ hp)) (kst_fr h1 h2 F₁) N₁) (fun fl s₂ p => ?_) fun _ _ e => e
    have up : TurnEnd h₀ env.locals (NSPost x stored m₀ rest ok (R (ys.take i ++ [y]))) I oI { s with heap := h, toks := tk } s₂ →
        TurnEnd h₀ env.locals (fun m' nx' => (l, listOf vs.toArray nn) ∈ nx' ∧ NSPost x stored m₀ rest ok (R (ys.take (i + 1))) m' nx') I oI { s with heap := h, toks := tk } s₂ := by
      rintro ⟨h', tk', m', nx', e', F', N', ho', hp⟩
      rw [hs]
      refine ⟨h', tk', m', nx', e', F', N', ho', ?_, hp⟩
      obtain ⟨c', rfl, _⟩ := hp
      exact List.mem_cons_of_mem _ hl
    cases fl with
    | ret v => exact p
    | brk => exact p
    | next => exact up p
    | cont => exact up p
  · rintro m₁ nx h tk _ ⟨c, rfl, hokc, hws, hR', h1, h2⟩ F₁ N₁
    have hlen : vs.length = ys.length := hi.length
    rw [hlen, List.take_length] at hR'
    exact done c m₁ h tk hokc hws hR' (kst_frOut h1 h2 F₁) N₁
theorem turn_nm {L : Addr} {m₀ m' : Str → Option Value} {I : Addr} {oI : Obj} {stored : List Str} {ok : Addr → Prop} {P : Str × Int × List Str → Prop} {rest news' : List (Addr × Obj)} {s₁ : Shared} {h' : Heap} {tk : Nat} (c : NS)
    (F : Fr h₀ L h' m') (N : News h₀ L h' news') (hI : (I, oI) ∈ news') (hn : (c.a, listOf c.ws.toArray c.n) ∈ news') (hr : ∀ p ∈ rest, p ∈ news') (hlt : @Ne Nat c.a I) (ho : ∀ p ∈ rest, p.1 ≠ I) (hok : ok c.a) (hs : StrsAre c.ws c.xs) (hP : P c.pure) (hk : c.In m') (hm : ∀ z, z ≠ x → (∀ p ∈ c.ps, z ≠ p.1) → stored.contains z = false → m' z = m₀ z) :
    TurnEnd h₀ L (NSPost x stored m₀ rest ok P) I oI s₁ { s₁ with heap := h', toks := tk } := by
  refine ⟨h', tk, m', c.led rest, rfl, F, fun p hp => N p ?_, fun p hp => ?_, c, rfl, hok, hs, hP, hk, hm⟩
  · rcases List.mem_cons.mp hp with rfl | hp
    · exact hI
    · rcases List.mem_cons.mp hp with rfl | hp
      · exact hn
      · exact hr p hp
  · rcases List.mem_cons.mp hp with rfl | hp
    · exact hlt
    · exact ho p hp
end

end Mine
namespace Mine
open PySem PySem.W PyProof.Rows PySem.Calls
set_option maxRecDepth 100000
section
variable {prog : Program} {w : World} {A : Around} {E : Value → Shared → Prop} {s : Shared} {h₀ : Heap} {L : Addr} {m : Str → Option Value} {news : List (Addr × Obj)}
theorem strs_at {vs : List Value} {xs : List Str} (hi : StrsAre vs xs) {j : Nat} (h : j < vs.toArray.size) : ∃ t, vs.toArray[j] = .str (xs.getD j Str.empty) t := by
  have h1 : j < vs.length := by simpa using h
  obtain ⟨y, t, e, hy⟩ := strs_get hi (List.getElem?_eq_getElem h1)
  refine ⟨t, ?_⟩
  rw [List.getElem_toArray, e]
  congr 1
  simp [List.getD, hy]
theorem strs_eqAt {vs ws : List Value} {xs ys : List Str} (hi : StrsAre vs xs) (hj : StrsAre ws ys) (j : Nat) (h1 : j < vs.toArray.size) (h2 : j < ws.toArray.size) :
    SeqAt.EqAt A s vs.toArray[j] ws.toArray[j] (xs.getD j Str.empty == ys.getD j Str.empty) := by
  obtain ⟨t, e⟩ := strs_at hi h1
  obtain ⟨u, f⟩ := strs_at hj h2
  rw [e, f]
  exact SeqAt.EqAt.str_str _ _ _ _
theorem strs_all {xs ys : List Str} (e : xs.length = ys.length) : ((List.range xs.length).all fun j => xs.getD j Str.empty == ys.getD j Str.empty) = decide (xs = ys) := by
  rw [Bool.eq_iff_iff, List.all_eq_true, decide_eq_true_eq]
  constructor
  · intro h
    apply List.ext_getElem e
    intro i h1 h2
    have := eq_of_beq (h i (List.mem_range.mpr h1))
    simpa [List.getD, h1, h2] using this
  · rintro rfl i _
    exact beq_self_eq_true _
theorem txt_eq {a b : Addr} {vs ws : List Value} {n k : Nat} {xs ys : List Str} {Q : Value → Shared → Prop} (N : News h₀ L s.heap news) (hm : (a, listOf vs.toArray n) ∈ news) (hk : (b, listOf ws.toArray k) ∈ news) (hi : StrsAre vs xs) (hj : StrsAre ws ys) (hu : A.units < cLine)
    (h : Q (.bool (decide (xs = ys))) s) : wpAny (model prog w) A (compareOp .Eq (.ref a) (.ref b)) Q E s := by
  have h1 := hi.length
  have h2 := hj.length
  by_cases e : xs.length = ys.length
  · refine SeqAt.eq_listAt (txt_isl N hm) (txt_isl N hk) (by simp; omega) hu (strs_eqAt hi hj) ?_
    rw [show vs.toArray.size = xs.length by simpa using h1, strs_all e]
    exact h
  · refine SeqAt.eq_list_lengthsAt (txt_isl N hm) (txt_isl N hk) (by simp; omega) hu ?_
    rw [decide_eq_false (fun e' => e (congrArg List.length e'))] at h
    exact h
theorem txt_ne {a b : Addr} {vs ws : List Value} {n k : Nat} {xs ys : List Str} {Q : Value → Shared → Prop} (N : News h₀ L s.heap news) (hm : (a, listOf vs.toArray n) ∈ news) (hk : (b, listOf ws.toArray k) ∈ news) (hi : StrsAre vs xs) (hj : StrsAre ws ys) (hu : A.units < cLine)
    (h : Q (.bool (!decide (xs = ys))) s) : wpAny (model prog w) A (compareOp .NotEq (.ref a) (.ref b)) Q E s := by
  have h1 := hi.length
  have h2 := hj.length
  by_cases e : xs.length = ys.length
  · refine (SeqAt.RcNeAt.lists (txt_isl N hm) (txt_isl N hk) (by simp; omega) hu (strs_eqAt hi hj)) prog w E Q ?_
    rw [show vs.toArray.size = xs.length by simpa using h1, strs_all e]
    exact h
  · refine (SeqAt.RcNeAt.lists_lengths (txt_isl N hm) (txt_isl N hk) (by simp; omega) hu) prog w E Q ?_
    rw [decide_eq_false (fun e' => e (congrArg List.length e'))] at h
    exact h
theorem txt_add {a b : Addr} {vs ws : List Value} {n k : Nat} {Q : Value → Shared → Prop} (F : Fr h₀ L s.heap m) (N : News h₀ L s.heap news) (hm : (a, listOf vs.toArray n) ∈ news) (hk : (b, listOf ws.toArray k) ∈ news) (hsz : vs.length + ws.length ≤ sizeLine)
    (h : ∀ D h', Fr h₀ L h' m → News h₀ L h' ((D, listOf (vs ++ ws).toArray 0) :: news) → (∀ p ∈ news, p.1 < D) → Q (.ref D) { s with heap := h' }) :
    wpAny (model prog w) A (binaryOp .Add (.ref a) (.ref b)) Q E s :=
  add_lists F N (txt_isl N hm) (txt_isl N hk) (fun h' F' N' => h _ h' F' N' fun p hp => Heap.lt_size (N p hp).1) hsz
theorem strs_rep (k : Nat) (x : Str) (t : Tok) : StrsAre (List.replicate k [Value.str x t]).flatten (List.replicate k x) := by
  induction k with
  | zero => exact .nil
  | succ k ih => exact .cons _ _ ih
theorem txt_mul {a : Addr} {x : Str} {t u : Tok} {n : Nat} {z : Int} {Q : Value → Shared → Prop} (F : Fr h₀ L s.heap m) (N : News h₀ L s.heap news) (hm : (a, listOf #[Value.str x t] n) ∈ news) (hlo : 0 ≤ z) (hhi : z ≤ 256)
    (h : ∀ D ws h', Fr h₀ L h' m → News h₀ L h' ((D, listOf (List.toArray ws) 0) :: news) → (∀ p ∈ news, p.1 < D) → StrsAre ws (List.replicate z.toNat x) → ws.length ≤ 256 → Q (.ref D) { s with heap := h' }) :
    wpAny (model prog w) A (binaryOp .Mult (.ref a) (.int z u)) Q E s := by
  refine KMa.mul F N (vs := [Value.str x t]) (txt_isl (ws := [Value.str x t]) N hm) (by omega) (by omega) (by simp; omega) rfl fun D h' F' N' l1 => h D _ h' F' N' l1 (strs_rep _ _ _) ?_
  rw [(strs_rep z.toNat x t).length, List.length_replicate]
  omega
theorem strs_cut {vs : List Value} {xs : List Str} (hi : StrsAre vs xs) : StrsAre vs.dropLast xs.dropLast := by
  by_cases e : xs = []
  · subst e
    cases hi
    exact .nil
  · obtain ⟨_, _, _, _, e2, h⟩ := strs_snoc_of hi e
    rw [← e2]
    exact h
theorem txt_cut {a : Addr} {vs : List Value} {n : Nat} {xs : List Str} {value slice : Expr} {u : Tok} {Q : Value → Shared → Prop} (F : Fr h₀ L s.heap m) (N : News h₀ L s.heap news) (hm : (a, listOf vs.toArray n) ∈ news) (hi : StrsAre vs xs) (hsz : vs.length ≤ sizeLine)
    (h : ∀ D ws h', Fr h₀ L h' m → News h₀ L h' ((D, listOf (List.toArray ws) 0) :: news) → (∀ p ∈ news, p.1 < D) → StrsAre ws xs.dropLast → Q (.ref D) { s with heap := h' })
    (hs : subscripted slice false (.ref a) (.ref s.heap.objs.size) = operate [.ref s.heap.objs.size, .ref a] (getItem (.ref a) (.ref s.heap.objs.size))) (ht : ∀ r, letTemporaryGo value (.ref a) r = pure ()) :
    wpAny (model prog w) A (subscriptTail value slice (.ref a) (.ref s.heap.objs.size)) Q E { s with heap := s.heap.push { cls := .type "slice", data := .fields #[.none, .int (-1) u, .none] } } := by
  refine kms_slice_lit F N (txt_isl N hm) IsPart.none (IsPart.int _ _) rfl (fun D h' F' N' l1 => h D _ h' F' N' l1 ?_) hs ht (by simpa using hsz)
  unfold kms_pick kms_lo kms_hi
  simp only [List.drop_zero, Nat.sub_zero]
  rw [if_pos (by decide)]
  show StrsAre (List.take (vs.length - 1) vs) _
  rw [← List.dropLast_eq_take]
  exact strs_cut hi
end
end Mine
namespace Mine
open PySem PySem.W PyProof.Rows PySem.Calls
set_option maxRecDepth 100000

noncomputable def wtS (st : Str × Int × List Str) : Int := (wt st.2.2 : Int) + st.2.1
noncomputable def pieceStep (st : Str × Int × List Str) (c : Str) : Str × Int × List Str :=
  if (c == Str.ofString "..") = true then (if st.2.2 = [] then (st.1, st.2.1 + 1, st.2.2) else (st.1, st.2.1, st.2.2.dropLast)) else
  if [Str.ofString "", Str.ofString "."].any (fun y => y == c) = true then st else (st.1, st.2.1, st.2.2 ++ [c])
noncomputable def slashesOf (p : Str) : Int := (p.length : Int) - ((Txt.lstripChars p (Str.ofString "/")).length : Int)
noncomputable def rootStep (st : Str × Int × List Str) (p : Str) : Str × Int × List Str :=
  if slashesOf p > 0 then ((if slashesOf p = 2 then Str.ofString "//" else Str.ofString "/"), 0, []) else st
noncomputable def partStep (st : Str × Int × List Str) (p : Str) : Str × Int × List Str := (Txt.split p (Str.ofString "/")).foldl pieceStep (rootStep st p)
noncomputable def endStart : Str × Int × List Str := (Str.ofString "", 0, [Str.ofString "c"])
noncomputable def OutR (pre : List Str) (st : Str × Int × List Str) : Prop := st = pre.foldl partStep endStart ∧ 0 ≤ st.2.1 ∧ wtS st ≤ 2 + (wt pre : Int)
noncomputable def InR (st₀ : Str × Int × List Str) (b : Nat) (pre : List Str) (st : Str × Int × List Str) : Prop := st = pre.foldl pieceStep st₀ ∧ 0 ≤ st.2.1 ∧ wtS st ≤ (b : Int) + (wt pre : Int)
structure MarkE (l : Addr) (ws : List Value) (n : Nat) (ps : List Str) (news : List (Addr × Obj)) : Prop where
  mem : (l, listOf ws.toArray n) ∈ news
  txts : StrsAre ws ps
  le : wt ps ≤ 100
structure MarkI (y : Str) (b : Nat) : Prop where
  le : b + y.length + 1 ≤ 102
noncomputable abbrev markY {y : Str} {b : Nat} (_ : MarkI y b) : Str := y
noncomputable abbrev outPre {pre : List Str} {st : Str × Int × List Str} (_ : OutR pre st) : List Str := pre
noncomputable abbrev outSt {pre : List Str} {st : Str × Int × List Str} (_ : OutR pre st) : Str × Int × List Str := st
noncomputable abbrev neR {a b : Nat} (_ : @Ne Nat a b) : Addr := b
theorem wt_rep (k : Nat) : wt (List.replicate k (Str.ofString "..")) = 3 * k := by
  induction k with
  | zero => rfl
  | succ k ih => rw [List.replicate_succ, wt_cons, ih, show (Str.ofString "..").length = 2 by decide +kernel]; omega
theorem wt_dots {xs : List Str} {z : Int} (h1 : z ≤ 102) (h2 : wt xs ≤ 102) : wt (List.replicate z.toNat (Str.ofString "..") ++ xs) ≤ 1001 := by
  rw [wt_append, wt_rep]; omega
theorem out_start : OutR [] (endStart) := ⟨rfl, by decide, by decide +kernel⟩
theorem piece_root (st : Str × Int × List Str) (c : Str) : (pieceStep st c).1 = st.1 := by
  unfold pieceStep
  (repeat' split) <;> rfl
theorem pieces_root (cs : List Str) : ∀ st : Str × Int × List Str, (cs.foldl pieceStep st).1 = st.1 := by
  induction cs with
  | nil => intro st; rfl
  | cons c cs ih => intro st; rw [List.foldl_cons, ih, piece_root]
theorem part_root (st : Str × Int × List Str) (p : Str) (h : st.1.length ≤ 2) : (partStep st p).1.length ≤ 2 := by
  unfold partStep
  rw [pieces_root]
  unfold rootStep
  (repeat' split) <;> first | exact h | (dsimp only; decide +kernel)
theorem parts_root (ps : List Str) : ∀ st : Str × Int × List Str, st.1.length ≤ 2 → (ps.foldl partStep st).1.length ≤ 2 := by
  induction ps with
  | nil => intro st h; exact h
  | cons p ps ih => intro st h; exact ih _ (part_root st p h)
theorem root_le {ps : List Str} {c : NS} (h : OutR ps c.pure) : c.root.length ≤ 2 := by
  have := parts_root ps endStart (by decide +kernel)
  rw [← h.1] at this
  exact this
noncomputable def endOf (st : Str × Int × List Str) : Str :=
  if (st.1 != Str.ofString "") = true then st.1 ++ Txt.join (Str.ofString "/") st.2.2 else
  if st.2.1 = 0 ∧ st.2.2 = [] then Str.ofString "." else Txt.join (Str.ofString "/") (List.replicate st.2.1.toNat (Str.ofString "..") ++ st.2.2)
noncomputable def endF (ps : List Str) : Str := endOf (ps.foldl partStep endStart)
theorem endF_root {ps : List Str} {c : NS} (h : OutR ps c.pure) (h1 : (c.root != Str.ofString "") = true) : c.root ++ Txt.join (Str.ofString "/") c.xs = endF ps := by
  unfold endF; rw [← h.1]; unfold endOf; rw [if_pos h1]
theorem endF_dot {ps : List Str} {c : NS} (h : OutR ps c.pure) (h1 : (c.root != Str.ofString "") = false) (h2 : c.above = 0) (h3 : decide (c.xs = []) = true) : Str.ofString "." = endF ps := by
  unfold endF; rw [← h.1]; unfold endOf; rw [if_neg (ne_true_of_eq_false h1), if_pos ⟨h2, of_decide_eq_true h3⟩]
theorem endF_up {ps : List Str} {c : NS} (h : OutR ps c.pure) (h1 : (c.root != Str.ofString "") = false) (h2 : c.above ≠ 0) : Txt.join (Str.ofString "/") (List.replicate c.above.toNat (Str.ofString "..") ++ c.xs) = endF ps := by
  unfold endF; rw [← h.1]; unfold endOf; rw [if_neg (ne_true_of_eq_false h1), if_neg (fun e => h2 e.1)]
theorem endF_in {ps : List Str} {c : NS} (h : OutR ps c.pure) (h1 : (c.root != Str.ofString "") = false) (h3 : decide (c.xs = []) = false) : Txt.join (Str.ofString "/") (List.replicate c.above.toNat (Str.ofString "..") ++ c.xs) = endF ps := by
  unfold endF; rw [← h.1]; unfold endOf; rw [if_neg (ne_true_of_eq_false h1), if_neg (fun e => of_decide_eq_false h3 e.2)]
theorem out_len {l : Addr} {ws : List Value} {n : Nat} {ps pre post : List Str} {y : Str} {news : List (Addr × Obj)} (M : MarkE l ws n ps news) (e : ps = pre ++ y :: post) : y.length ≤ 100 ∧ MarkI y (2 + wt pre) := by
  have h := M.le
  rw [e, wt_append, wt_cons] at h
  exact ⟨by omega, ⟨by omega⟩⟩
theorem in_start0 {pre : List Str} {st : Str × Int × List Str} {y : Str} (h : OutR pre st) (hs : ¬ slashesOf y > 0) : InR (rootStep st y) (2 + wt pre) [] st := by
  refine ⟨?_, h.2.1, ?_⟩
  · unfold rootStep; rw [if_neg hs]; rfl
  · have := h.2.2
    show _ ≤ ((2 + wt pre : Nat) : Int) + ((0 : Nat) : Int)
    omega
theorem in_start1 {pre : List Str} {st : Str × Int × List Str} {y : Str} (_ : OutR pre st) (hs : slashesOf y > 0) (h2 : slashesOf y = 2) : InR (rootStep st y) (2 + wt pre) [] (Str.ofString "//", 0, []) := by
  refine ⟨?_, by decide, ?_⟩
  · unfold rootStep; rw [if_pos hs, if_pos h2]; rfl
  · show ((0 : Nat) : Int) + 0 ≤ ((2 + wt pre : Nat) : Int) + ((0 : Nat) : Int)
    omega
theorem in_start2 {pre : List Str} {st : Str × Int × List Str} {y : Str} (_ : OutR pre st) (hs : slashesOf y > 0) (h2 : ¬ slashesOf y = 2) : InR (rootStep st y) (2 + wt pre) [] (Str.ofString "/", 0, []) := by
  refine ⟨?_, by decide, ?_⟩
  · unfold rootStep; rw [if_pos hs, if_neg h2]; rfl
  · show ((0 : Nat) : Int) + 0 ≤ ((2 + wt pre : Nat) : Int) + ((0 : Nat) : Int)
    omega
theorem wt_split (y : Str) : wt (Txt.split y (Str.ofString "/")) ≤ y.length + 1 := split_weight y (Str.ofString "/") (by decide +kernel)
theorem in_size {st₀ : Str × Int × List Str} {b : Nat} {ys pre post : List Str} {y p : Str} {c : NS} (M : MarkI p b) (e : ys = Txt.split p (Str.ofString "/")) (hE : ys = pre ++ y :: post) (hR : InR st₀ b pre c.pure) (hS : StrsAre c.ws c.xs) : c.ws.length ≤ 102 := by
  have h1 := wt_split p
  rw [← e, hE, wt_append] at h1
  have h2 := M.le
  have h3 := hR.2.2
  have h4 := hR.2.1
  have h5 := wt_len c.xs
  have h6 := hS.length
  simp only [wtS, NS.pure] at h3 h4
  omega
theorem out_size {l : Addr} {ws : List Value} {n : Nat} {ps : List Str} {news : List (Addr × Obj)} {c : NS} (M : MarkE l ws n ps news) (hR : OutR ps c.pure) (hS : StrsAre c.ws c.xs) : c.ws.length ≤ 102 ∧ 0 ≤ c.above ∧ c.above ≤ 102 ∧ wt c.xs ≤ 102 ∧ (wt c.xs : Int) + c.above ≤ 102 := by
  have h2 := M.le
  have h3 := hR.2.2
  have h4 := hR.2.1
  have h5 := wt_len c.xs
  have h6 := hS.length
  simp only [wtS, NS.pure] at h3 h4
  omega
theorem wt_snoc (pre : List Str) (y : Str) : wt (pre ++ [y]) = wt pre + y.length + 1 := by rw [wt_append, wt_one]; omega
theorem foldl_snoc {α β : Type} (f : α → β → α) (a : α) (pre : List β) (y : β) : (pre ++ [y]).foldl f a = f (pre.foldl f a) y := by rw [List.foldl_append]; rfl
theorem out_turn {pre : List Str} {y : Str} {ys : List Str} {st st' : Str × Int × List Str} (h : OutR pre st) (hi : InR (rootStep st y) (2 + wt pre) ys st') (e : ys = Txt.split y (Str.ofString "/")) : OutR (pre ++ [y]) st' := by
  refine ⟨?_, hi.2.1, ?_⟩
  · rw [foldl_snoc, ← h.1, hi.1, e]; rfl
  · have h1 := hi.2.2
    have h2 := wt_split y
    rw [← e] at h2
    rw [wt_snoc]
    omega
section
variable {st₀ st : Str × Int × List Str} {b : Nat} {pre : List Str} {y : Str} {r : Str} {a : Int} {xs : List Str}
theorem in_step (h : InR st₀ b pre st) {st' : Str × Int × List Str} (e : pieceStep st y = st') (h0 : 0 ≤ st'.2.1) (hw : wtS st' ≤ wtS st + (y.length : Int) + 1) : InR st₀ b (pre ++ [y]) st' := by
  refine ⟨?_, h0, ?_⟩
  · rw [foldl_snoc, ← h.1, e]
  · have := h.2.2
    rw [wt_snoc]
    omega
theorem in_cut (h : InR st₀ b pre (r, a, xs)) (h1 : (y == Str.ofString "..") = true) (h2 : xs ≠ []) : InR st₀ b (pre ++ [y]) (r, a, xs.dropLast) := by
  refine in_step h ?_ h.2.1 ?_
  · unfold pieceStep; rw [if_pos h1, if_neg h2]
  · have := wt_dropLast xs
    simp only [wtS]
    omega
theorem in_above (h : InR st₀ b pre (r, a, xs)) (h1 : (y == Str.ofString "..") = true) (h2 : xs = []) : InR st₀ b (pre ++ [y]) (r, a + 1, xs) := by
  have h0 := h.2.1
  simp only at h0
  refine in_step h ?_ (by simp only; omega) ?_
  · unfold pieceStep; rw [if_pos h1, if_pos h2]
  · simp only [wtS]
    omega
theorem in_skip (h : InR st₀ b pre (r, a, xs)) (h1 : (y == Str.ofString "..") = false) (h2 : [Str.ofString "", Str.ofString "."].any (fun z => z == y) = true) : InR st₀ b (pre ++ [y]) (r, a, xs) := by
  refine in_step h ?_ h.2.1 ?_
  · unfold pieceStep; rw [if_neg (ne_true_of_eq_false h1), if_pos h2]
  · omega
theorem in_name (h : InR st₀ b pre (r, a, xs)) (h1 : (y == Str.ofString "..") = false) (h2 : [Str.ofString "", Str.ofString "."].any (fun z => z == y) = false) : InR st₀ b (pre ++ [y]) (r, a, xs ++ [y]) := by
  refine in_step h ?_ h.2.1 ?_
  · unfold pieceStep; rw [if_neg (ne_true_of_eq_false h1), if_neg (ne_true_of_eq_false h2)]
  · simp only [wtS, wt_snoc]
    omega
end
theorem len_short {prog : Program} {w : World} {A : Around} {E : Value → Shared → Prop} {s : Shared} {x : Str} {t : Tok} {Q : Value → Shared → Prop} (hx : x.length ≤ 1000) (h : Q (.int x.length (s.toks + 1)) { s with toks := s.toks + 1 + 1 }) : wpAny (model prog w) A (call (.builtin "len") [.str x t]) Q E s := PyProof.Rows.len_str (by omega) h
theorem in_cut' {st₀ : Str × Int × List Str} {b : Nat} {pre : List Str} {y : Str} {c : NS} (h : InR st₀ b pre c.pure) (h1 : (y == Str.ofString "..") = true) (h2 : decide (c.xs = []) = false) : InR st₀ b (pre ++ [y]) (c.root, c.above, c.xs.dropLast) := in_cut h h1 (of_decide_eq_false h2)
theorem in_above' {st₀ : Str × Int × List Str} {b : Nat} {pre : List Str} {y : Str} {c : NS} (h : InR st₀ b pre c.pure) (h1 : (y == Str.ofString "..") = true) (h2 : decide (c.xs = []) = true) : InR st₀ b (pre ++ [y]) (c.root, c.above + 1, c.xs) := in_above h h1 (of_decide_eq_true h2)
theorem ps3 {a : Addr} {ws : List Value} {n : Nat} {xs : List Str} {r : Str} {tr : Tok} {v : Int} {tv : Tok} {m : Str → Option Value} (h1 : m (Str.ofString "names") = some (.ref a)) (h2 : m (Str.ofString "root") = some (.str r tr)) (h3 : m (Str.ofString "above") = some (.int v tv)) : (NS.mk a ws n xs r tr v tv).In m :=
  List.forall_mem_cons.mpr ⟨h1, List.forall_mem_cons.mpr ⟨h2, List.forall_mem_cons.mpr ⟨h3, List.forall_mem_nil _⟩⟩⟩
theorem ps3_ne {c : NS} {z : Str} {P : Prop} (h : ∀ p ∈ c.ps, z ≠ p.1) (k : z ≠ Str.ofString "names" → z ≠ Str.ofString "root" → z ≠ Str.ofString "above" → P) : P :=
  k (h _ (.head _)) (h _ (.tail _ (.head _))) (h _ (.tail _ (.tail _ (.head _))))
theorem two_ne {a b z : Str} {P : Prop} (h : [a, b].contains z = false) (k : z ≠ a → z ≠ b → P) : P := by
  simp only [List.contains_cons, List.contains_nil, Bool.or_false, Bool.or_eq_false_iff, beq_eq_false_iff_ne] at h
  exact k h.1 h.2
theorem nil_not {z : Str} : ¬ ([] : List Str).contains z = true := Bool.false_ne_true
theorem ite_skip {α : Type} {c : Prop} [Decidable c] {a b r : α} (hc : ¬ c) (h : b = r) : (if c then a else b) = r := (if_neg hc).trans h
noncomputable def MidPost (h₀ : Heap) (L : Addr) (m : Str → Option Value) (news : List (Addr × Obj)) (I : Addr) (R : Str × Int × List Str → Prop) (s₁ : Shared) (fl : Flow) (s₂ : Shared) : Prop :=
  fl = .next ∧ ∃ (c : NS) (h : Heap) (tk : Nat), s₂ = { s₁ with heap := h, toks := tk } ∧ StrsAre c.ws c.xs ∧ R c.pure ∧ @Ne Nat c.a I ∧ Fr h₀ L h (kstB m c.ps) ∧ News h₀ L h (c.led news)
theorem mid_cut {prog : Program} {w : World} {A : Around} {E : Value → Shared → Prop} {s : Shared} {h₀ : Heap} {L I : Addr} {m : Str → Option Value} {news : List (Addr × Obj)} {t : Sem Flow} {Q : Flow → Shared → Prop} (R : Str × Int × List Str → Prop) (_F : Fr h₀ L s.heap m) (_N : News h₀ L s.heap news)
    (h1 : wpAny (model prog w) A t (MidPost h₀ L m news I R s) E s) (h2 : ∀ (c : NS) (h : Heap) (tk : Nat), StrsAre c.ws c.xs → R c.pure → @Ne Nat c.a I → Fr h₀ L h (kstB m c.ps) → News h₀ L h (c.led news) → Q .next { s with heap := h, toks := tk }) : wpAny (model prog w) A t Q E s := by
  refine wpAny_mono h1 (fun fl s₂ p => ?_) fun _ _ e => e
  obtain ⟨rfl, c, h, tk, rfl, a1, a2, a3, a4, a5⟩ := p
  exact h2 c h tk a1 a2 a3 a4 a5
theorem mid_end {h₀ : Heap} {L I : Addr} {m m' : Str → Option Value} {news news' : List (Addr × Obj)} {R : Str × Int × List Str → Prop} {s₁ : Shared} {h : Heap} {tk : Nat} (c : NS) (F : Fr h₀ L h m') (N : News h₀ L h news') (hk : c.In m') (hn : (c.a, listOf c.ws.toArray c.n) ∈ news') (hr : ∀ p ∈ news, p ∈ news')
    (hs : StrsAre c.ws c.xs) (hR : R c.pure) (hI : @Ne Nat c.a I) (hm : ∀ z, (∀ p ∈ c.ps, z ≠ p.1) → m' z = m z) : MidPost h₀ L m news I R s₁ .next { s₁ with heap := h, toks := tk } := by
  refine ⟨rfl, c, h, tk, rfl, hs, hR, hI, ?_, fun p hp => N p ?_⟩
  · have : kstB m c.ps = m' := by
      funext z
      exact kstB_eq hk fun hn => (hm z hn).symm
    rw [this]
    exact F
  · rcases List.mem_cons.mp hp with rfl | hp
    · exact hn
    · exact hr p hp
theorem news_dup {h₀ h : Heap} {L : Addr} {q : Addr × Obj} {news : List (Addr × Obj)} (N : News h₀ L h news) (hm : q ∈ news) : News h₀ L h (q :: news) := fun p hp => N p ((List.mem_cons.mp hp).elim (fun e => e ▸ hm) id)



set_option maxHeartbeats 8000000 in
theorem c_end (w : World) (l : Addr) (ws : List Value) (n : Nat) (ps : List Str) : Dfl w 174 4 (fun news => (l, listOf ws.toArray n) ∈ news ∧ StrsAre ws ps ∧ wt ps ≤ 100) [.ref l] (fun h₀ L m news s Q => CbRet h₀ L m news s Q (fun t => .str (endF ps) t)) := by
  unfold Dfl
  w_top off
  k_fill
  dsimp only [CbRet]
  intros
  rename_i hkf hpre hdp hun hret
  obtain ⟨hm, hi, hb⟩ := hpre
  have hMk := MarkE.mk hm hi hb
  have hM := kstMark
  refine wpAny_call ?_
  k_dflt cell_enter
  k_with_none
  (k_with "exec For Name Name cons nil" => ((k_here; (rename Fr _ _ _ _ => lF'); (with_unfolding_all refine' For_invVF lF' ?k1np ?k2np ?_; (case k1np => exact rfl); (case k2np => exact rfl); k_whole))))
  (k_with "exec For Name Call cons nil" => ((k_here; (rename Fr _ _ _ _ => lF'); (with_unfolding_all refine' For_invVF lF' ?k1nc ?k2nc ?_; (case k1nc => exact rfl); (case k2nc => exact rfl); k_whole))))
  (k_with "pyIter ref" => (((with_reducible show wpAny _ _ (pyIter (Value.ref _)) (fun it s₂ => LoopAtV _ _ _ _ _ (Str.ofString "part") _ _ _ it s₂) _ _); k_here; (rename Fr _ _ _ _ => lF'); (rename News _ _ _ _ => lN'); (rename MarkE _ _ _ _ _ => lR'); (with_unfolding_all refine' loop_nm [Str.ofString "slashes", Str.ofString "piece"] (fun _ => True) OutR (NS.mk _ _ _ [Str.ofString "c"] _ _ _ _) (by rfl) (MarkE.mem lR') (MarkE.txts lR') lF' lN' (.cons _ _ .nil) trivial out_start ?kaE ?_ ?_; (case kaE => (with_unfolding_all exact ps3 (by first | k_dflt (exact Eq.refl (some _)) | with_unfolding_all rfl) (by first | k_dflt (exact Eq.refl (some _)) | with_unfolding_all rfl) (by first | k_dflt (exact Eq.refl (some _)) | with_unfolding_all rfl)))); (all_goals (try clear lF' lN')); (rotate_left 1); (intro cE' u' h' tk' hok' hS' hR' F' N'; have hM' := kstMark; obtain ⟨hB1', hB2', hB3', hB4', hB5'⟩ := out_size lR' hR' hS'; have hB6' := root_le hR'; (try dsimp only [kstB] at F'); (try k_fold)); (rotate_left 1); (intro cE' pre' y' post' t' u' h' tk' I' oI' hE' hS' hR' hok' hlt' hoff' hgt' F' N'; have hM' := kstMark; obtain ⟨hy', hMI'⟩ := out_len lR' hE'; (try dsimp only [kstB] at F'); (try k_fold)))))
  (k_with "call builtin:len" => ((k_here; (with_reducible show wpAny _ _ (call (Value.builtin "len") [Value.str _ _]) _ _ _); refine len_short ?lenE ?_; (case lenE => first | omega | exact Nat.le_trans (len_lstripChars _ _) (by omega)))))
  (k_with "call builtin:str.split" => ((k_here; (with_reducible show wpAny _ _ (call _ [Value.str _ _, _]) _ _ _); k_dflt (refine KSpl.split1 (by k_asm) (by k_asm) (by decide +kernel) ?_ (by (rw [sizeLine_eq]; omega))); intro D' l' h' k' e' a' F' N' l1; (try k_lt l1))))
  (k_with "pyIter ref" => (((with_reducible show wpAny _ _ (pyIter (Value.ref _)) (fun it s₂ => LoopAtV _ _ _ _ _ (Str.ofString "piece") _ _ _ it s₂) _ _); k_here; (rename Fr _ _ _ _ => lF'); (rename News _ _ _ _ => lN'); (rename @Ne Nat _ _ => lI'); (rename _ = Txt.split _ _ => lE'); (rename MarkI _ _ => lMI'); (with_unfolding_all refine' loop_nm [] (fun a => @Ne Nat a _) (InR _ _) (NS.mk _ _ _ _ _ _ _ _) (by rfl) ?mMI ?iMI lF' (news_dup lN' ?nMI) ?sMI ?oMI ?rMI ?kMI ?_ ?_; (case kMI => (with_unfolding_all exact ps3 (by first | k_dflt (exact Eq.refl (some _)) | with_unfolding_all rfl) (by first | k_dflt (exact Eq.refl (some _)) | with_unfolding_all rfl) (by first | k_dflt (exact Eq.refl (some _)) | with_unfolding_all rfl))); (case nMI => k_mem); (case mMI => exact List.mem_cons_self ..); (case iMI => assumption); (case sMI => (try dsimp only); first | assumption | exact .nil); (case rMI => assumption); (case oMI => assumption)); (all_goals (try clear lF' lN')); (rotate_left 1); (intro cI' u' h' tk' hok' hS' hR' F' N'; have hM' := kstMark; (try dsimp only [kstB] at F'); (try k_fold)); (rotate_left 1); (intro cI' pre' y' post' t' u' h' tk' I' oI' hE' hS' hR' hok' hlt' hoff' hgt' F' N'; have hM' := kstMark; have hSz' := in_size lMI' lE' hE' hR' hS'; (try dsimp only [kstB] at F'); (try k_fold)))))
  (k_with "compareOp Eq ref ref" => ((k_here; (with_reducible show wpAny _ _ (compareOp CmpOp.Eq (Value.ref _) (Value.ref _)) _ _ _); refine' txt_eq ?neq ?meq ?keq ?seq .nil ?ueq ?_; (case neq => k_asm); (case meq => k_mem); (case keq => exact List.mem_cons_self ..); (case seq => assumption); (case ueq => first | ke_room | ktr_units))))
  (k_with "compareOp NotEq ref ref" => ((k_here; (with_reducible show wpAny _ _ (compareOp CmpOp.NotEq (Value.ref _) (Value.ref _)) _ _ _); refine' txt_ne ?neq ?meq ?keq ?seq .nil ?ueq ?_; (case neq => k_asm); (case meq => k_mem); (case keq => exact List.mem_cons_self ..); (case seq => assumption); (case ueq => first | ke_room | ktr_units))))
  (k_with "binaryOp Mult ref int" => ((k_here; (with_reducible show wpAny _ _ (binaryOp Operator.Mult (Value.ref _) (Value.int _ _)) _ _ _); k_dflt (refine' txt_mul ?fmu ?nmu ?mmu ?lmu ?hmu ?_; (case fmu => k_asm); (case nmu => k_asm); (case mmu => k_mem); (case lmu => omega); (case hmu => omega)); intro D' ws' h' F' N' l1 hS' hL'; (try k_lt l1))))
  (k_with "binaryOp Add ref ref" => ((k_here; (with_reducible show wpAny _ _ (binaryOp Operator.Add (Value.ref _) (Value.ref _)) _ _ _); k_dflt (refine' txt_add ?fad ?nad ?mad ?kad ?zad ?_; (case fad => k_asm); (case nad => k_asm); (case mad => k_mem); (case kad => k_mem); (case zad => (rw [sizeLine_eq]; first | (simp only [List.length_cons, List.length_nil]; omega) | omega))); intro D' h' F' N' l1; (try k_lt l1))))
  (k_with "subscriptTail Name Slice ref ref" => ((k_here; (with_reducible show wpAny _ _ (subscriptTail _ (PySem.Expr.Slice _ _ none _) (Value.ref _) (Value.ref _)) _ _ _); k_dflt (refine' txt_cut ?fcu ?ncu ?mcu ?icu ?zcu ?_ ?scu ?tcu; (case fcu => k_asm); (case ncu => k_asm); (case mcu => k_mem); (case icu => assumption); (case zcu => (rw [sizeLine_eq]; omega)); (case scu => with_unfolding_all rfl); (case tcu => kmk_pure)); intro D' ws' h' F' N' l1 hS'; (try k_lt l1))))
  (k_with "call builtin:str.join" => ((k_here; (with_reducible show wpAny _ _ (call _ [Value.str _ _, Value.ref _]) _ _ _); (refine join_npW (by k_asm) (by k_mem) (by first | assumption | exact strsAre_append (by assumption) (by assumption)) (by decide +kernel) (by first | omega | exact wt_dots (by assumption) (by assumption)) ?_ (by decide +kernel)); intro t' k' hJ')))
  (k_with "binaryOp Add str str" => ((k_here; (with_reducible show wpAny _ _ (binaryOp Operator.Add (Value.str _ _) (Value.str _ _)) _ _ _); (refine add_str ?_ (by rw [sizeLine_eq]; omega)); intro t' k')))
  (k_with "TurnPost" => ((dsimp only [TurnPost])))
  (k_with "exec If" => (((with_reducible show wpAny _ _ (PySem.exec (PySem.Stmt.If (PySem.Expr.Compare (PySem.Expr.Name (Str.ofString "slashes") _) _ _ _) _ _ _) _) _ _ _); (fail_if_success (with_reducible show wpAny _ _ _ (MidPost _ _ _ _ _ _ _) _ _)); k_here; (rename Fr _ _ _ _ => lF'); (rename News _ _ _ _ => lN'); (rename @Ne Nat _ _ => lI'); (rename OutR _ _ => lO'); (rename MarkI _ _ => lMI'); (refine' mid_cut (I := neR lI') (InR (rootStep (outSt lO') (markY lMI')) (2 + wt (outPre lO')) []) lF' lN' ?_ ?_); (rotate_left 1); (intro cM' h' tk' hS' hR' hok' F' N'; clear lF' lN'; have hM' := kstMark; (try dsimp only [kstB] at F'); (try k_fold)); (rotate_left 1))))
  (k_with "MidPost" => (((rename News _ _ _ _ => nE'); (rename @Ne Nat _ _ => lI'); (rename OutR _ _ => lO'); refine' mid_end (NS.mk _ _ _ _ _ _ _ _) ?fMP nE' ?kMP ?nMP ?rMP ?sMP ?RMP ?IMP ?mMP; (case fMP => k_asm); (case kMP => (with_unfolding_all exact ps3 (by first | k_dflt (exact Eq.refl (some _)) | with_unfolding_all rfl) (by first | k_dflt (exact Eq.refl (some _)) | with_unfolding_all rfl) (by first | k_dflt (exact Eq.refl (some _)) | with_unfolding_all rfl))); (case nMP => (repeat (first | exact List.mem_cons_self .. | apply List.mem_cons_of_mem))); (case rMP => (intro p hp; repeat (first | exact hp | apply List.mem_cons_of_mem))); (case sMP => (try dsimp only); first | assumption | exact .nil); (case RMP => first | exact in_start0 lO' (by assumption) | exact in_start1 lO' (by assumption) (by assumption) | exact in_start2 lO' (by assumption) (by assumption)); (case IMP => first | exact lI' | first | assumption | exact Nat.ne_of_gt (And.left (by assumption)) | exact Nat.ne_of_gt (And.left (And.right (by assumption))) | exact Nat.ne_of_gt (And.left (And.right (And.right (by assumption)))) | exact Nat.ne_of_gt (And.left (And.right (And.right (And.right (by assumption))))) | exact Nat.ne_of_gt (And.left (And.right (And.right (And.right (And.right (by assumption)))))) | exact Nat.ne_of_gt (And.left (And.right (And.right (And.right (And.right (And.right (by assumption))))))) | exact Nat.ne_of_gt (And.left (And.right (And.right (And.right (And.right (And.right (And.right (by assumption)))))))) | exact Nat.ne_of_gt (And.left (And.right (And.right (And.right (And.right (And.right (And.right (And.right (by assumption))))))))) | exact Nat.ne_of_gt (And.left (And.right (And.right (And.right (And.right (And.right (And.right (And.right (And.right (by assumption)))))))))) | exact Nat.ne_of_gt (And.left (And.right (And.right (And.right (And.right (And.right (And.right (And.right (And.right (And.right (by assumption))))))))))) | exact Nat.ne_of_gt (And.left (And.right (And.right (And.right (And.right (And.right (And.right (And.right (And.right (And.right (And.right (by assumption)))))))))))) | exact Nat.ne_of_gt (And.left (And.right (And.right (And.right (And.right (And.right (And.right (And.right (And.right (And.right (And.right (And.right (by assumption)))))))))))))); (case mMP => (intro z h2; refine ps3_ne h2 ?_; intro h3 h4 h5; (repeat (first | exact rfl | refine ite_skip (by first | assumption | exact nil_not | exact ne_true_of_eq_false (by assumption)) ?_)))))))
  (k_with "TurnEnd" => ((exact s_no (by assumption) (by assumption))))
  (k_with "TurnEnd" => (((rename InR _ _ _ _ => lR'); (with_reducible show TurnEnd _ _ (NSPost (Str.ofString "piece") _ _ _ _ _) _ _ _ _); (rename News _ _ _ _ => nE'); refine' turn_nm (NS.mk _ _ _ _ _ _ _ _) ?fNP nE' ?iNP ?nNP ?rNP ?lNP ?oNP ?okNP ?sNP ?RNP ?kNP ?mNP; (case fNP => k_asm); (case kNP => (with_unfolding_all exact ps3 (by first | k_dflt (exact Eq.refl (some _)) | with_unfolding_all rfl) (by first | k_dflt (exact Eq.refl (some _)) | with_unfolding_all rfl) (by first | k_dflt (exact Eq.refl (some _)) | with_unfolding_all rfl))); (case iNP => (repeat (first | exact List.mem_cons_self .. | apply List.mem_cons_of_mem))); (case nNP => (repeat (first | exact List.mem_cons_self .. | apply List.mem_cons_of_mem))); (case rNP => (intro p hp; repeat (first | exact hp | apply List.mem_cons_of_mem))); (case lNP => first | assumption | exact Nat.ne_of_gt (And.left (by assumption)) | exact Nat.ne_of_gt (And.left (And.right (by assumption))) | exact Nat.ne_of_gt (And.left (And.right (And.right (by assumption)))) | exact Nat.ne_of_gt (And.left (And.right (And.right (And.right (by assumption))))) | exact Nat.ne_of_gt (And.left (And.right (And.right (And.right (And.right (by assumption)))))) | exact Nat.ne_of_gt (And.left (And.right (And.right (And.right (And.right (And.right (by assumption))))))) | exact Nat.ne_of_gt (And.left (And.right (And.right (And.right (And.right (And.right (And.right (by assumption)))))))) | exact Nat.ne_of_gt (And.left (And.right (And.right (And.right (And.right (And.right (And.right (And.right (by assumption))))))))) | exact Nat.ne_of_gt (And.left (And.right (And.right (And.right (And.right (And.right (And.right (And.right (And.right (by assumption)))))))))) | exact Nat.ne_of_gt (And.left (And.right (And.right (And.right (And.right (And.right (And.right (And.right (And.right (And.right (by assumption))))))))))) | exact Nat.ne_of_gt (And.left (And.right (And.right (And.right (And.right (And.right (And.right (And.right (And.right (And.right (And.right (by assumption)))))))))))) | exact Nat.ne_of_gt (And.left (And.right (And.right (And.right (And.right (And.right (And.right (And.right (And.right (And.right (And.right (And.right (by assumption)))))))))))))); (case oNP => assumption); (case okNP => first | assumption | exact Nat.ne_of_gt (And.left (by assumption)) | exact Nat.ne_of_gt (And.left (And.right (by assumption))) | exact Nat.ne_of_gt (And.left (And.right (And.right (by assumption)))) | exact Nat.ne_of_gt (And.left (And.right (And.right (And.right (by assumption))))) | exact Nat.ne_of_gt (And.left (And.right (And.right (And.right (And.right (by assumption)))))) | exact Nat.ne_of_gt (And.left (And.right (And.right (And.right (And.right (And.right (by assumption))))))) | exact Nat.ne_of_gt (And.left (And.right (And.right (And.right (And.right (And.right (And.right (by assumption)))))))) | exact Nat.ne_of_gt (And.left (And.right (And.right (And.right (And.right (And.right (And.right (And.right (by assumption))))))))) | exact Nat.ne_of_gt (And.left (And.right (And.right (And.right (And.right (And.right (And.right (And.right (And.right (by assumption)))))))))) | exact Nat.ne_of_gt (And.left (And.right (And.right (And.right (And.right (And.right (And.right (And.right (And.right (And.right (by assumption))))))))))) | exact Nat.ne_of_gt (And.left (And.right (And.right (And.right (And.right (And.right (And.right (And.right (And.right (And.right (And.right (by assumption)))))))))))) | exact Nat.ne_of_gt (And.left (And.right (And.right (And.right (And.right (And.right (And.right (And.right (And.right (And.right (And.right (And.right (by assumption)))))))))))))); (case sNP => (try dsimp only); first | assumption | exact strsAre_append (by assumption) (.cons _ _ .nil)); (case RNP => first | exact in_cut' lR' (by assumption) (by assumption) | exact in_above' lR' (by assumption) (by assumption) | exact in_skip lR' (by assumption) (by assumption) | exact in_name lR' (by assumption) (by assumption)); (case mNP => (intro z h1 h2 h6; refine ps3_ne h2 ?_; intro h3 h4 h5; (repeat (first | exact rfl | refine ite_skip (by first | assumption | exact nil_not | exact ne_true_of_eq_false (by assumption)) ?_)))))))
  (k_with "TurnEnd" => (((with_reducible show TurnEnd _ _ (NSPost (Str.ofString "part") _ _ _ _ _) _ _ _ _); (rename InR _ _ _ _ => lR'); (rename OutR _ _ => lO'); (rename _ = Txt.split _ _ => lE'); (rename News _ _ _ _ => nE'); refine' turn_nm (NS.mk _ _ _ _ _ _ _ _) ?fNP2 nE' ?iNP2 ?nNP2 ?rNP2 ?lNP2 ?oNP2 trivial ?sNP2 ?RNP2 ?kNP2 ?mNP2; (case fNP2 => k_asm); (case kNP2 => (with_unfolding_all exact ps3 (by first | k_dflt (exact Eq.refl (some _)) | with_unfolding_all rfl) (by first | k_dflt (exact Eq.refl (some _)) | with_unfolding_all rfl) (by first | k_dflt (exact Eq.refl (some _)) | with_unfolding_all rfl))); (case iNP2 => (repeat (first | exact List.mem_cons_self .. | apply List.mem_cons_of_mem))); (case nNP2 => (repeat (first | exact List.mem_cons_self .. | apply List.mem_cons_of_mem))); (case rNP2 => (intro p hp; repeat (first | exact hp | apply List.mem_cons_of_mem))); (case lNP2 => first | assumption | exact Nat.ne_of_gt (And.left (by assumption)) | exact Nat.ne_of_gt (And.left (And.right (by assumption))) | exact Nat.ne_of_gt (And.left (And.right (And.right (by assumption)))) | exact Nat.ne_of_gt (And.left (And.right (And.right (And.right (by assumption))))) | exact Nat.ne_of_gt (And.left (And.right (And.right (And.right (And.right (by assumption)))))) | exact Nat.ne_of_gt (And.left (And.right (And.right (And.right (And.right (And.right (by assumption))))))) | exact Nat.ne_of_gt (And.left (And.right (And.right (And.right (And.right (And.right (And.right (by assumption)))))))) | exact Nat.ne_of_gt (And.left (And.right (And.right (And.right (And.right (And.right (And.right (And.right (by assumption))))))))) | exact Nat.ne_of_gt (And.left (And.right (And.right (And.right (And.right (And.right (And.right (And.right (And.right (by assumption)))))))))) | exact Nat.ne_of_gt (And.left (And.right (And.right (And.right (And.right (And.right (And.right (And.right (And.right (And.right (by assumption))))))))))) | exact Nat.ne_of_gt (And.left (And.right (And.right (And.right (And.right (And.right (And.right (And.right (And.right (And.right (And.right (by assumption)))))))))))) | exact Nat.ne_of_gt (And.left (And.right (And.right (And.right (And.right (And.right (And.right (And.right (And.right (And.right (And.right (And.right (by assumption)))))))))))))); (case oNP2 => assumption); (case sNP2 => assumption); (case RNP2 => exact out_turn lO' lR' lE'); (case mNP2 => (intro z h1 h2 h6; refine ps3_ne h2 ?_; intro h3 h4 h5; refine two_ne h6 ?_; intro h7 h8; (repeat (first | exact rfl | refine ite_skip (by first | assumption | exact nil_not | exact ne_true_of_eq_false (by assumption)) ?_)))))))
  (k_with "eval Constant str" => ((refine sm_str ?_; intro tA' tB')))
  (k_with "eval Constant int" => ((refine sm_int ?_; intro tA' tB')))
  (k_with "storeName" => ((k_here; k_dflt (refine' sm_store ?Fss ?Nss ?_ ?ass ?bss; (case Fss => k_asm); (case Nss => k_asm); (case ass => rfl); (case bss => rfl); k_whole; intro h' tk' F' N'; (try k_sweep)))))
  (k_with "truthy str" => ((k_here; (with_reducible show wpAny _ _ (truthy (Value.str _ _)) _ _ _); refine' sm_truthy ?bst ?_; (case bst => first | assumption | omega); intro tk')))
  (k_with "eval Name" => ((k_here; k_dflt (refine' nameX_L ?Fsn ?vsn ?_ ?asn ?bsn; (case Fsn => k_asm); (case asn => rfl); (case bsn => rfl); (case vsn => first | exact Eq.refl (some _) | assumption); k_whole))))
  (k_with "execs cons" => ((k_here; k_fold)))
  (k_with "exec Assign" => ((k_here; k_fold)))
  (k_with "exec If" => ((k_here; k_fold)))
  (k_with "exec Expr" => ((k_here; k_fold)))
  w_strict k_steps
  all_goals (refine' cb_retS hret ?e1 ?e2 ?e3; (case e2 => k_asm); (case e3 => first | k_asm | (refine' cb_drop ?cbN ?cbS; (case cbN => assumption); (case cbS => (intro p hp; repeat (first | exact hp | apply List.mem_cons_of_mem))))); (case e1 => first | exact endF_root (by assumption) (by assumption) | exact endF_dot (by assumption) (by assumption) (by assumption) (by assumption) | exact endF_up (by assumption) (by assumption) (by assumption) | exact endF_in (by assumption) (by assumption) (by assumption)))
end Mine
namespace Mine
open PySem PySem.W PyProof.Rows PySem.Calls
set_option maxRecDepth 100000
/-- the letters of a text -/
noncomputable def lt (x : Str) : List Nat := x.cps.toList
noncomputable abbrev sl : Str := Str.ofString "/"
theorem lt_inj {x y : Str} (h : lt x = lt y) : x = y := Str.ext' (Array.toList_inj.mp h)
theorem lt_app (x y : Str) : lt (x ++ y) = lt x ++ lt y := by unfold lt; rw [Str.cps_append, Array.toList_append]
theorem lt_sl : lt sl = [47] := by decide +kernel
theorem sl_mk : sl = ⟨#[47]⟩ := by decide +kernel
theorem lt_none : lt (Str.ofString "") = [] := by decide +kernel
theorem lt_empty : lt Str.empty = [] := rfl
theorem lt_len (x : Str) : x.length = (lt x).length := by unfold lt Str.length; simp
/-- texts glued by a slash, in letters -/
noncomputable def jl : List (List Nat) → List Nat
  | [] => []
  | [x] => x
  | x :: y :: r => x ++ 47 :: jl (y :: r)
theorem lt_join : ∀ xs : List Str, lt (Str.join sl xs) = jl (xs.map lt)
  | [] => rfl
  | [x] => rfl
  | x :: y :: r => by
    show lt (x ++ sl ++ Str.join sl (y :: r)) = _
    rw [lt_app, lt_app, lt_sl, lt_join (y :: r)]
    simp [jl]
theorem lt_tjoin (xs : List Str) : lt (Txt.join sl xs) = jl (xs.map lt) := by
  unfold Txt.join
  rw [StrLaws.glued_eq_join, lt_join]
noncomputable def Free (x : List Nat) : Prop := 47 ∉ x
theorem free_cut {x y u v : List Nat} (hx : Free x) (hy : Free y) (e : x ++ 47 :: u = y ++ 47 :: v) : x = y ∧ u = v := by
  induction x generalizing y with
  | nil =>
    cases y with
    | nil => simpa using e
    | cons b y => simp only [List.nil_append, List.cons_append, List.cons.injEq] at e; exact absurd (e.1 ▸ List.mem_cons_self ..) hy
  | cons a x ih =>
    cases y with
    | nil => simp only [List.nil_append, List.cons_append, List.cons.injEq] at e; exact absurd (e.1 ▸ List.mem_cons_self ..) hx
    | cons b y =>
      simp only [List.cons_append, List.cons.injEq] at e
      obtain ⟨h1, h2⟩ := ih (fun h => hx (List.mem_cons_of_mem _ h)) (fun h => hy (List.mem_cons_of_mem _ h)) e.2
      exact ⟨by rw [e.1, h1], h2⟩
theorem jl_inj : ∀ {A B : List (List Nat)}, A ≠ [] → B ≠ [] → (∀ x ∈ A, Free x) → (∀ x ∈ B, Free x) → jl A = jl B → A = B
  | [], _, h, _, _, _, _ => absurd rfl h
  | _, [], _, h, _, _, _ => absurd rfl h
  | [x], [y], _, _, _, _, e => by rw [show x = y from e]
  | [x], y :: z :: r, _, _, hA, _, e => by
    have e : x = y ++ 47 :: jl (z :: r) := e
    have hx := hA x (List.mem_cons_self ..)
    rw [e] at hx
    exact absurd (List.mem_append_right _ (List.mem_cons_self ..)) hx
  | x :: z :: r, [y], _, _, _, hB, e => by
    have e : x ++ 47 :: jl (z :: r) = y := e
    have hy := hB y (List.mem_cons_self ..)
    rw [← e] at hy
    exact absurd (List.mem_append_right _ (List.mem_cons_self ..)) hy
  | x :: z :: r, y :: u :: s, _, _, hA, hB, e => by
    have e : x ++ 47 :: jl (z :: r) = y ++ 47 :: jl (u :: s) := e
    obtain ⟨h1, h2⟩ := free_cut (hA x (List.mem_cons_self ..)) (hB y (List.mem_cons_self ..)) e
    rw [h1, jl_inj (List.cons_ne_nil _ _) (List.cons_ne_nil _ _) (fun v hv => hA v (List.mem_cons_of_mem _ hv)) (fun v hv => hB v (List.mem_cons_of_mem _ hv)) h2]
theorem jl_app : ∀ {A B : List (List Nat)}, A ≠ [] → B ≠ [] → jl (A ++ B) = jl A ++ 47 :: jl B
  | [], _, h, _ => absurd rfl h
  | _, [], _, h => absurd rfl h
  | [x], y :: r, _, _ => rfl
  | x :: z :: s, y :: r, _, h => by
    show x ++ 47 :: jl ((z :: s) ++ (y :: r)) = (x ++ 47 :: jl (z :: s)) ++ 47 :: jl (y :: r)
    rw [jl_app (List.cons_ne_nil _ _) h]
    simp
theorem lt_map_inj : ∀ {xs ys : List Str}, xs.map lt = ys.map lt → xs = ys
  | [], [], _ => rfl
  | [], _ :: _, h => by simp at h
  | _ :: _, [], h => by simp at h
  | x :: xs, y :: ys, h => by
    simp only [List.map_cons, List.cons.injEq] at h
    rw [lt_inj h.1, lt_map_inj h.2]
noncomputable abbrev sp (x : Str) : List Str := Txt.split x sl
theorem sp_free (x : Str) : ∀ p ∈ sp x, Free (lt p) := by
  unfold sp
  rw [sl_mk]
  exact StrLaws.split_free x 47
theorem sp_ne (x : Str) : sp x ≠ [] := by
  intro h
  have := split_pos x sl
  rw [show Txt.split x sl = [] from h] at this
  simp at this
theorem sp_jl (x : Str) : jl ((sp x).map lt) = lt x := by
  rw [← lt_join]
  exact congrArg lt (StrLaws.join_split x sl)
theorem sp_eq {x : Str} {xs : List Str} (h : xs ≠ []) (hf : ∀ p ∈ xs, Free (lt p)) (e : jl (xs.map lt) = lt x) : sp x = xs := by
  apply lt_map_inj
  apply jl_inj
  · simpa using sp_ne x
  · simpa using h
  · intro p hp
    obtain ⟨q, hq, rfl⟩ := List.mem_map.mp hp
    exact sp_free x q hq
  · intro p hp
    obtain ⟨q, hq, rfl⟩ := List.mem_map.mp hp
    exact hf q hq
  · rw [sp_jl, e]
theorem sp_join {xs : List Str} (h : xs ≠ []) (hf : ∀ p ∈ xs, Free (lt p)) : sp (Txt.join sl xs) = xs := sp_eq h hf (lt_tjoin xs).symm
theorem sp_app (x y : Str) : sp (x ++ (sl ++ y)) = sp x ++ sp y := by
  refine sp_eq (by simp [sp_ne]) ?_ ?_
  · intro p hp
    rcases List.mem_append.mp hp with h | h
    · exact sp_free x p h
    · exact sp_free y p h
  · rw [List.map_append, jl_app (by simpa using sp_ne x) (by simpa using sp_ne y), sp_jl, sp_jl, lt_app, lt_app, lt_sl]
    rfl
theorem sp_free1 {x : Str} (h : Free (lt x)) : sp x = [x] := sp_eq (by simp) (by simpa using h) rfl
theorem sp_none : sp (Str.ofString "") = [Str.ofString ""] := sp_free1 (by rw [lt_none]; intro h; cases h)
theorem sp_slash (y : Str) : sp (sl ++ y) = Str.ofString "" :: sp y := by
  have h := sp_app (Str.ofString "") y
  rw [sp_none] at h
  have e : Str.ofString "" ++ (sl ++ y) = sl ++ y := lt_inj (by rw [lt_app, lt_none]; rfl)
  rw [e] at h
  exact h
end Mine
namespace Mine
open PySem PySem.W PyProof.Rows PySem.Calls
set_option maxRecDepth 100000
theorem nn_int (k : Nat) : ¬ ((k : Int) < 0) := Int.not_lt.mpr (Int.natCast_nonneg k)
theorem clamp_min (k n : Nat) : max 0 (min (k : Int) (n : Int)) = max 0 (min ((min k n : Nat) : Int) (n : Int)) := by
  by_cases h : k ≤ n
  · rw [Nat.min_eq_left h]
  · have h' := Nat.le_of_not_le h
    rw [Nat.min_eq_right h', Int.min_eq_right (Int.ofNat_le.mpr h'), Int.min_eq_right (Int.le_refl _)]
open PySem.Builtin.Str in
theorem idx_min (a b : Nat) (n : Nat) : strSliceIndices (some (a : Int)) (some (b : Int)) 1 n = strSliceIndices (some ((min a n : Nat) : Int)) (some ((min b n : Nat) : Int)) 1 n := by
  simp only [strSliceIndices, nn_int a, nn_int b, nn_int (min a n), nn_int (min b n), if_false, show (1 : Int) > 0 by decide, if_true, clamp_min a n, clamp_min b n]
theorem lt_slice (x : Str) {a b : Nat} (h : a ≤ b) : lt (Txt.slice x (some (a : Int)) (some (b : Int))) = ((lt x).drop a).take (b - a) := by
  have e : Txt.slice x (some (a : Int)) (some (b : Int)) = StrLaws.sliceText x (some ((min a x.length : Nat) : Int)) (some ((min b x.length : Nat) : Int)) := by
    unfold Txt.slice StrLaws.sliceText
    rw [idx_min]
  rw [e, StrLaws.sliceText_nat x (by omega) (by omega)]
  show List.take _ (List.drop _ (lt x)) = _
  have hl := lt_len x
  by_cases h1 : a ≤ x.length
  · rw [Nat.min_eq_left h1]
    by_cases h2 : b ≤ x.length
    · rw [Nat.min_eq_left h2]
    · rw [Nat.min_eq_right (by omega), List.take_of_length_le (by simp; omega), List.take_of_length_le (by simp; omega)]
  · rw [Nat.min_eq_right (by omega : x.length ≤ a), List.drop_of_length_le (by omega), List.drop_of_length_le (by omega)]
    simp
theorem lt_slice_to (x : Str) (b : Nat) : lt (Txt.slice x none (some (b : Int))) = (lt x).take b := by
  have e : Txt.slice x none (some (b : Int)) = Txt.slice x (some ((0 : Nat) : Int)) (some (b : Int)) := by
    unfold Txt.slice
    rw [StrLaws.sliceIdx_none_lo]
    rfl
  rw [e, lt_slice x (Nat.zero_le _)]
  simp
theorem lt_slice_from (x : Str) (a : Nat) : lt (Txt.slice x (some (a : Int)) none) = (lt x).drop a := by
  have hl := lt_len x
  have e : Txt.slice x (some (a : Int)) none = Txt.slice x (some (a : Int)) (some ((x.length + a : Nat) : Int)) := by
    have : ∀ n : Nat, PySem.Builtin.Str.strSliceIndices (some (a : Int)) none 1 n = PySem.Builtin.Str.strSliceIndices (some (a : Int)) (some ((n + a : Nat) : Int)) 1 n := by
      intro n
      rw [StrLaws.sliceIdx_none_hi, idx_min a (n + a), Nat.min_eq_right (by omega : n ≤ n + a), idx_min a n, Nat.min_self]
    unfold Txt.slice
    rw [this]
  rw [e, lt_slice x (by omega)]
  rw [List.take_of_length_le (by simp; omega)]
theorem str_eq (x y : Str) : (x == y) = decide (lt x = lt y) := by
  by_cases h : x = y
  · subst h; simp
  · rw [beq_eq_false_iff_ne.mpr h, decide_eq_false (fun e => h (lt_inj e))]
theorem str_ne (x y : Str) : (x != y) = !decide (lt x = lt y) := by rw [bne, str_eq]
theorem slashes_lt (x : Str) : slashesOf x = (((lt x).takeWhile (· == 47)).length : Int) := by
  have hl := lt_len x
  have hle : ((lt x).takeWhile (· == 47)).length ≤ (lt x).length := (List.takeWhile_sublist _).length_le
  have e : (Txt.lstripChars x sl).length = x.length - ((lt x).takeWhile (· == 47)).length := by
    unfold Txt.lstripChars
    rw [PyProof.Rows.stripBy_eq, lt_len]
    show (List.length (PySem.Builtin.Str.strSub x _ _).cps.toList) = _
    rw [StrLaws.strSub_toList]
    have e1 : PySem.stripLo sl.cps.contains true x = ((lt x).takeWhile (· == 47)).length := by
      unfold PySem.stripLo
      rw [if_pos rfl]
      congr 2
      funext c
      rw [sl_mk]
      by_cases h : c = 47
      · subst h; simp
      · have h' : ¬ 47 = c := fun e => h e.symm
        simp [h]
    rw [e1]
    unfold PySem.stripHi
    simp only [Bool.false_eq_true, if_false, List.length_take, List.length_drop]
    show min (x.length - _) ((lt x).length - _) = _
    omega
  unfold slashesOf
  rw [e]
  omega
theorem starts_lt (x : Str) : Txt.startswith x sl = ((lt x).head? == some 47) := by
  have hl := lt_len x
  unfold Txt.startswith PySem.Builtin.Str.subAt
  rw [sl_mk]
  show (decide (0 + 1 ≤ x.length) && (x.cps.extract 0 (0 + 1) == #[47])) = _
  cases h : lt x with
  | nil => 
    rw [h] at hl
    have : ¬ (0 + 1 ≤ x.length) := by simp at hl; omega
    rw [decide_eq_false this]
    rfl
  | cons a r =>
    rw [h] at hl
    have : 0 + 1 ≤ x.length := by simp at hl; omega
    rw [decide_eq_true this, Bool.true_and]
    have e : x.cps.extract 0 (0 + 1) = #[a] := by
      apply Array.toList_inj.mp
      rw [Array.toList_extract]
      have h' : x.cps.toList = a :: r := h
      rw [h']
      simp [List.extract]
    rw [e]
    simp
theorem ends_lt (x : Str) : Txt.endswith x sl = ((lt x).getLast? == some 47) := by
  have hl := lt_len x
  unfold Txt.endswith PySem.Builtin.Str.subAt
  rw [sl_mk]
  show (decide (0 + 1 ≤ x.length) && (x.cps.extract (x.length - 1) (x.length - 1 + 1) == #[47])) = _
  rcases List.eq_nil_or_concat (lt x) with h | ⟨r, a, h⟩
  · rw [h] at hl
    have : ¬ (0 + 1 ≤ x.length) := by simp at hl; omega
    rw [decide_eq_false this, h]
    rfl
  · rw [h] at hl
    have hl' : x.length = r.length + 1 := by simpa using hl
    rw [decide_eq_true (by omega), Bool.true_and]
    have e : x.cps.extract (x.length - 1) (x.length - 1 + 1) = #[a] := by
      apply Array.toList_inj.mp
      rw [Array.toList_extract, List.extract_eq_take_drop, hl']
      have h' : x.cps.toList = r ++ [a] := by rw [← List.concat_eq_append]; exact h
      rw [h']
      simp
    rw [e, h]
    simp
theorem sl2 : lt (Str.ofString "//") = [47, 47] := by decide +kernel
theorem root0 {x : Str} (h : (lt x).head? ≠ some 47) : srRoot x = Str.ofString "" ∧ srRest x = x ∧ slashesOf x = 0 ∧ Txt.startswith x sl = false := by
  have h1 : (Txt.slice x none (some 1) != sl) = true := by
    rw [str_ne, show (some (1 : Int)) = some ((1 : Nat) : Int) from rfl, lt_slice_to, lt_sl]
    cases e : lt x with
    | nil => rfl
    | cons a r => rw [e] at h; simp at h; simpa using h
  refine ⟨?_, ?_, ?_, ?_⟩
  · unfold srRoot; rw [if_pos h1]
  · unfold srRest; rw [if_pos h1]
  · rw [slashes_lt]
    cases e : lt x with
    | nil => rfl
    | cons a r => rw [e] at h; simp at h; simp [h]
  · rw [starts_lt]; simpa using h
theorem root1 {x y : Str} (e : lt x = 47 :: lt y) (h : (lt y).head? ≠ some 47) : srRoot x = sl ∧ srRest x = y ∧ slashesOf x = 1 ∧ Txt.startswith x sl = true := by
  have h1 : ¬ (Txt.slice x none (some 1) != sl) = true := by
    rw [str_ne, show (some (1 : Int)) = some ((1 : Nat) : Int) from rfl, lt_slice_to, lt_sl, e]
    simp
  have h2 : (Txt.slice x (some 1) (some 2) != sl) = true := by
    rw [str_ne, show (some (1 : Int)) = some ((1 : Nat) : Int) from rfl, show (some (2 : Int)) = some ((2 : Nat) : Int) from rfl, lt_slice x (by omega), lt_sl, e]
    cases e2 : lt y with
    | nil => rfl
    | cons a r => rw [e2] at h; simp at h; simpa using h
  refine ⟨?_, ?_, ?_, ?_⟩
  · unfold srRoot; rw [if_neg h1, if_pos h2]
  · unfold srRest; rw [if_neg h1, if_pos h2]
    apply lt_inj
    rw [show (some (1 : Int)) = some ((1 : Nat) : Int) from rfl, lt_slice_from, e]
    rfl
  · rw [slashes_lt, e]
    cases e2 : lt y with
    | nil => rfl
    | cons a r => rw [e2] at h; simp at h; simp [h]
  · rw [starts_lt, e]; rfl
theorem root2 {x y : Str} (e : lt x = 47 :: 47 :: lt y) (h : (lt y).head? ≠ some 47) : srRoot x = Str.ofString "//" ∧ srRest x = y ∧ slashesOf x = 2 ∧ Txt.startswith x sl = true := by
  have h1 : ¬ (Txt.slice x none (some 1) != sl) = true := by
    rw [str_ne, show (some (1 : Int)) = some ((1 : Nat) : Int) from rfl, lt_slice_to, lt_sl, e]
    simp
  have h2 : ¬ (Txt.slice x (some 1) (some 2) != sl) = true := by
    rw [str_ne, show (some (1 : Int)) = some ((1 : Nat) : Int) from rfl, show (some (2 : Int)) = some ((2 : Nat) : Int) from rfl, lt_slice x (by omega), lt_sl, e]
    simp
  have h3 : ¬ (Txt.slice x (some 2) (some 3) == sl) = true := by
    rw [str_eq, show (some (3 : Int)) = some ((3 : Nat) : Int) from rfl, show (some (2 : Int)) = some ((2 : Nat) : Int) from rfl, lt_slice x (by omega), lt_sl, e]
    cases e2 : lt y with
    | nil => simp
    | cons a r => rw [e2] at h; simp at h; simpa using h
  refine ⟨?_, ?_, ?_, ?_⟩
  · unfold srRoot; rw [if_neg h1, if_neg h2, if_neg h3]
    apply lt_inj
    rw [show (some (2 : Int)) = some ((2 : Nat) : Int) from rfl, lt_slice_to, e, sl2]
    rfl
  · unfold srRest; rw [if_neg h1, if_neg h2, if_neg h3]
    apply lt_inj
    rw [show (some (2 : Int)) = some ((2 : Nat) : Int) from rfl, lt_slice_from, e]
    rfl
  · rw [slashes_lt, e]
    cases e2 : lt y with
    | nil => rfl
    | cons a r => rw [e2] at h; simp at h; simp [h]
  · rw [starts_lt, e]; rfl
theorem root3 {x y : Str} (e : lt x = 47 :: 47 :: 47 :: lt y) : srRoot x = sl ∧ lt (srRest x) = 47 :: 47 :: lt y ∧ slashesOf x > 2 ∧ Txt.startswith x sl = true := by
  have h1 : ¬ (Txt.slice x none (some 1) != sl) = true := by
    rw [str_ne, show (some (1 : Int)) = some ((1 : Nat) : Int) from rfl, lt_slice_to, lt_sl, e]
    simp
  have h2 : ¬ (Txt.slice x (some 1) (some 2) != sl) = true := by
    rw [str_ne, show (some (1 : Int)) = some ((1 : Nat) : Int) from rfl, show (some (2 : Int)) = some ((2 : Nat) : Int) from rfl, lt_slice x (by omega), lt_sl, e]
    simp
  have h3 : (Txt.slice x (some 2) (some 3) == sl) = true := by
    rw [str_eq, show (some (3 : Int)) = some ((3 : Nat) : Int) from rfl, show (some (2 : Int)) = some ((2 : Nat) : Int) from rfl, lt_slice x (by omega), lt_sl, e]
    simp
  refine ⟨?_, ?_, ?_, ?_⟩
  · unfold srRoot; rw [if_neg h1, if_neg h2, if_pos h3]
  · unfold srRest; rw [if_neg h1, if_neg h2, if_pos h3]
    rw [show (some (1 : Int)) = some ((1 : Nat) : Int) from rfl, lt_slice_from, e]
    rfl
  · rw [slashes_lt, e]
    simp only [List.takeWhile_cons, beq_self_eq_true, if_true, List.length_cons]
    omega
  · rw [starts_lt, e]; rfl
end Mine
namespace Mine
open PySem PySem.W PyProof.Rows PySem.Calls
set_option maxRecDepth 100000
noncomputable abbrev dd : Str := Str.ofString ".."
noncomputable abbrev dt : Str := Str.ofString "."
noncomputable abbrev no : Str := Str.ofString ""
theorem lt_dd : lt dd = [46, 46] := by decide +kernel
theorem lt_dt : lt dt = [46] := by decide +kernel
theorem dd_ne_dt : dd ≠ dt := by intro h; have := congrArg lt h; rw [lt_dd, lt_dt] at this; simp at this
theorem no_ne {x : Str} (h : lt x ≠ []) : x ≠ no := by rintro rfl; exact h lt_none
structure Nm (n : Str) : Prop where
  free : Free (lt n)
  some : lt n ≠ []
  dot : n ≠ dt
  dots : n ≠ dd
  d : n ≠ Str.ofString "d"
structure OkS (st : Str × Int × List Str) : Prop where
  root : st.1 = no ∨ st.1 = sl ∨ st.1 = Str.ofString "//"
  above : 0 ≤ st.2.1
  names : ∀ n ∈ st.2.2, Nm n
noncomputable def Nst (st : Str × Int × List Str) : List Str := if st.1 = no then List.replicate st.2.1.toNat dd ++ st.2.2 else st.2.2
theorem len0 {x : Str} : (x.length : Int) = 0 ↔ lt x = [] := by
  rw [lt_len]
  constructor
  · intro h; exact List.eq_nil_of_length_eq_zero (by omega)
  · intro h; rw [h]; rfl
theorem len_no {x : Str} : (x.length : Int) = 0 ↔ x = no := len0.trans ⟨fun h => lt_inj (h.trans lt_none.symm), fun h => by rw [h, lt_none]⟩
theorem any2 (c : Str) : [no, dt].any (fun y => y == c) = true ↔ c = no ∨ c = dt := by
  simp only [List.any_cons, List.any_nil, Bool.or_false, Bool.or_eq_true, beq_iff_eq]
  exact ⟨fun h => h.imp Eq.symm Eq.symm, fun h => h.imp Eq.symm Eq.symm⟩
theorem np_skip (r : Str) (xs : List Str) {c : Str} (h : c = no ∨ c = dt) : npStep r xs c = xs := by
  rw [npStep_def]
  rcases h with rfl | rfl
  · rw [if_pos (len_no.mpr rfl)]
  · rw [if_neg (fun h => by rw [len0, lt_dt] at h; cases h), if_pos (beq_self_eq_true _)]
theorem np_name (r : Str) (xs : List Str) {c : Str} (h1 : ¬ (c = no ∨ c = dt)) (h2 : c ≠ dd) : npStep r xs c = xs ++ [c] := by
  rw [npStep_def, if_neg (fun h => h1 (.inl (len_no.mp h))), if_neg (fun h => h1 (.inr (eq_of_beq h))), if_pos (bne_iff_ne.mpr h2)]
theorem np_dd (r : Str) (xs : List Str) : npStep r xs dd = if r = no then (if xs = [] then [dd] else if xs.getLastD Str.empty = dd then xs ++ [dd] else xs.dropLast) else (if xs = [] then [] else if xs.getLastD Str.empty = dd then xs ++ [dd] else xs.dropLast) := by
  rw [npStep_def, if_neg (fun h => by rw [len0, lt_dd] at h; cases h), if_neg (fun h => dd_ne_dt (eq_of_beq h)), if_neg (by simp)]
  simp only [len_no, List.isEmpty_iff, beq_iff_eq]
  by_cases h : xs = []
  · subst h; rfl
  · simp only [if_neg h]
theorem last_app {xs : List Str} (a : List Str) (h : xs ≠ []) : (a ++ xs).getLastD Str.empty = xs.getLastD Str.empty := by
  rw [List.getLastD_eq_getLast?, List.getLastD_eq_getLast?, List.getLast?_append, List.getLast?_eq_some_getLast h]
  rfl
theorem last_mem {xs : List Str} (h : xs ≠ []) : xs.getLastD Str.empty ∈ xs := by
  rw [List.getLastD_eq_getLast?, List.getLast?_eq_some_getLast h]
  exact List.getLast_mem h
theorem piece_ok {st : Str × Int × List Str} {c : Str} (h : OkS st) (hf : Free (lt c)) (hd : c ≠ Str.ofString "d") : OkS (pieceStep st c) ∧ npStep st.1 (Nst st) c = Nst (pieceStep st c) := by
  obtain ⟨r, a, ns⟩ := st
  obtain ⟨h1, h2, h3⟩ := h
  simp only at h1 h2 h3
  unfold pieceStep
  by_cases e1 : c = dd
  · subst e1
    rw [if_pos (beq_self_eq_true _)]
    by_cases e2 : ns = []
    · subst e2
      simp only [if_true]
      refine ⟨⟨h1, by simp only; omega, h3⟩, ?_⟩
      unfold Nst
      simp only [List.append_nil]
      rw [np_dd]
      by_cases e3 : r = no
      · simp only [if_pos e3]
        have ea : (a + 1).toNat = a.toNat + 1 := by omega
        rw [ea]
        cases hk : a.toNat with
        | zero => rfl
        | succ k =>
          have : (List.replicate (k + 1) dd).getLastD Str.empty = dd := by
            have hm := last_mem (xs := List.replicate (k + 1) dd) (by simp)
            exact List.eq_of_mem_replicate hm
          rw [if_neg (by simp), if_pos this]
          exact List.replicate_succ'.symm
      · simp only [if_neg e3, if_true]
    · simp only [if_neg e2]
      refine ⟨⟨h1, h2, fun n hn => h3 n (List.dropLast_subset _ hn)⟩, ?_⟩
      have hl : ns.getLastD Str.empty ≠ dd := (h3 _ (last_mem e2)).dots
      unfold Nst
      simp only
      rw [np_dd]
      by_cases e3 : r = no
      · simp only [if_pos e3]
        rw [if_neg (by simp [e2]), last_app _ e2, if_neg hl, List.dropLast_append_of_ne_nil e2]
      · simp only [if_neg e3, if_neg e2, if_neg hl]
  · rw [if_neg (fun h => e1 (eq_of_beq h))]
    by_cases e2 : c = no ∨ c = dt
    · rw [if_pos ((any2 c).mpr e2)]
      exact ⟨⟨h1, h2, h3⟩, np_skip _ _ e2⟩
    · rw [if_neg (fun h => e2 ((any2 c).mp h))]
      refine ⟨⟨h1, h2, fun n hn => ?_⟩, ?_⟩
      · rcases List.mem_append.mp hn with hn | hn
        · exact h3 n hn
        · rw [List.mem_singleton.mp hn]
          exact ⟨hf, fun h => e2 (.inl (lt_inj (h.trans lt_none.symm))), fun h => e2 (.inr h), e1, hd⟩
      · rw [np_name _ _ e2 e1]
        unfold Nst
        simp only
        split <;> simp
theorem pieces_ok : ∀ (cs : List Str) {st : Str × Int × List Str}, OkS st → (∀ c ∈ cs, Free (lt c) ∧ c ≠ Str.ofString "d") → OkS (cs.foldl pieceStep st) ∧ cs.foldl (npStep st.1) (Nst st) = Nst (cs.foldl pieceStep st)
  | [], st, h, _ => ⟨h, rfl⟩
  | c :: cs, st, h, hc => by
    obtain ⟨h1, h2⟩ := piece_ok h (hc c (List.mem_cons_self ..)).1 (hc c (List.mem_cons_self ..)).2
    obtain ⟨h3, h4⟩ := pieces_ok cs h1 (fun d hd => hc d (List.mem_cons_of_mem _ hd))
    refine ⟨h3, ?_⟩
    rw [List.foldl_cons, List.foldl_cons, h2, ← h4, piece_root]
theorem fold_names (r : Str) : ∀ (ns xs : List Str), (∀ n ∈ ns, Nm n) → ns.foldl (npStep r) xs = xs ++ ns
  | [], xs, _ => by simp
  | n :: ns, xs, h => by
    have hn := h n (List.mem_cons_self ..)
    rw [List.foldl_cons, np_name _ _ (fun e => e.elim (no_ne hn.some) hn.dot) hn.dots, fold_names r ns _ (fun m hm => h m (List.mem_cons_of_mem _ hm))]
    simp
theorem fold_dots : ∀ (k j : Nat), (List.replicate k dd).foldl (npStep no) (List.replicate j dd) = List.replicate (j + k) dd
  | 0, j => rfl
  | k + 1, j => by
    rw [List.replicate_succ, List.foldl_cons, np_dd, if_pos rfl]
    have e : (if List.replicate j dd = [] then [dd] else if (List.replicate j dd).getLastD Str.empty = dd then List.replicate j dd ++ [dd] else (List.replicate j dd).dropLast) = List.replicate (j + 1) dd := by
      cases j with
      | zero => rfl
      | succ j =>
        have : (List.replicate (j + 1) dd).getLastD Str.empty = dd := List.eq_of_mem_replicate (last_mem (by simp))
        rw [if_neg (by simp), if_pos this]
        exact List.replicate_succ'.symm
    rw [e, fold_dots k (j + 1)]
    congr 1
    omega
end Mine
namespace Mine
open PySem PySem.W PyProof.Rows PySem.Calls
set_option maxRecDepth 100000
theorem jl_head : ∀ {A : List (List Nat)}, A ≠ [] → (∀ x ∈ A, Free x ∧ x ≠ []) → (jl A).head? ≠ some 47 ∧ (jl A).getLast? ≠ some 47 ∧ jl A ≠ []
  | [], h, _ => absurd rfl h
  | [x], _, h => by
    obtain ⟨h1, h2⟩ := h x (List.mem_cons_self ..)
    refine ⟨fun e => h1 (List.mem_of_mem_head? e), fun e => h1 (List.mem_of_getLast? e), h2⟩
  | x :: y :: r, _, h => by
    obtain ⟨h1, h2⟩ := h x (List.mem_cons_self ..)
    obtain ⟨_, h4, h5⟩ := jl_head (A := y :: r) (List.cons_ne_nil _ _) (fun z hz => h z (List.mem_cons_of_mem _ hz))
    show (x ++ 47 :: jl (y :: r)).head? ≠ some 47 ∧ (x ++ 47 :: jl (y :: r)).getLast? ≠ some 47 ∧ _
    refine ⟨?_, ?_, by simp [jl]⟩
    · cases x with
      | nil => exact absurd rfl h2
      | cons a x => exact fun e => h1 (by simp at e; rw [e]; exact List.mem_cons_self ..)
    · rw [List.getLast?_append, List.getLast?_cons_of_ne_nil h5]
      intro e
      cases hg : (jl (y :: r)).getLast? with
      | none => exact h5 (List.getLast?_eq_none_iff.mp hg)
      | some v => rw [hg] at e; simp at e; exact h4 (by rw [hg, e])
theorem nm_dd_free : Free (lt dd) ∧ lt dd ≠ [] := by rw [lt_dd]; exact ⟨by intro h; simp at h, by simp⟩
theorem nst_free {st : Str × Int × List Str} (h : OkS st) : ∀ x ∈ (Nst st).map lt, Free x ∧ x ≠ [] := by
  intro x hx
  obtain ⟨n, hn, rfl⟩ := List.mem_map.mp hx
  unfold Nst at hn
  split at hn
  · rcases List.mem_append.mp hn with hn | hn
    · rw [List.eq_of_mem_replicate hn]; exact nm_dd_free
    · exact ⟨(h.names n hn).free, (h.names n hn).some⟩
  · exact ⟨(h.names n hn).free, (h.names n hn).some⟩
theorem nst_split {st : Str × Int × List Str} (h : OkS st) (hn : Nst st ≠ []) : sp (Txt.join sl (Nst st)) = Nst st :=
  sp_join hn fun p hp => (nst_free h (lt p) (List.mem_map.mpr ⟨p, hp, rfl⟩)).1
theorem join_nil : Txt.join sl [] = no := lt_inj (by rw [lt_tjoin, lt_none]; rfl)
theorem join_ends {st : Str × Int × List Str} (h : OkS st) (hn : Nst st ≠ []) : (lt (Txt.join sl (Nst st))).head? ≠ some 47 ∧ (lt (Txt.join sl (Nst st))).getLast? ≠ some 47 ∧ lt (Txt.join sl (Nst st)) ≠ [] := by
  rw [lt_tjoin]
  exact jl_head (by simpa using hn) (nst_free h)
theorem nst_fold {st : Str × Int × List Str} (h : OkS st) : (Nst st).foldl (npStep st.1) [] = Nst st := by
  unfold Nst
  split
  · rename_i e
    rw [e, List.foldl_append]
    have := fold_dots st.2.1.toNat 0
    simp only [List.replicate_zero, Nat.zero_add] at this
    rw [this, fold_names _ _ _ h.names]
  · rw [fold_names _ _ _ h.names]; rfl
theorem no_app (x : Str) : no ++ x = x := lt_inj (by rw [lt_app, lt_none]; rfl)
theorem app_no (x : Str) : x ++ no = x := lt_inj (by rw [lt_app, lt_none]; simp)
/-- the text of a state, by its parts -/
theorem end_out {st : Str × Int × List Str} (h : OkS st) : endOf st = if ((st.1 ++ Txt.join sl (Nst st)).length : Int) = 0 then dt else st.1 ++ Txt.join sl (Nst st) := by
  obtain ⟨r, a, ns⟩ := st
  unfold endOf
  by_cases e : r = no
  · subst e
    rw [if_neg (by simp)]
    rw [no_app]
    by_cases e2 : a = 0 ∧ ns = []
    · rw [if_pos e2, if_pos]
      rw [len0, e2.1, e2.2]
      show lt (Txt.join sl (Nst (no, 0, []))) = []
      rw [show Nst (no, 0, []) = [] from rfl, join_nil, lt_none]
    · rw [if_neg e2]
      have hn : Nst (no, a, ns) ≠ [] := by
        unfold Nst
        simp only [if_true]
        intro hc
        have h1 := List.append_eq_nil_iff.mp hc
        have h2 : a.toNat = 0 := by simpa using h1.1
        have h3 := h.above
        simp only at h3
        exact e2 ⟨by omega, h1.2⟩
      rw [if_neg (fun hc => (join_ends h hn).2.2 (len0.mp hc))]
      rfl
  · rw [if_pos (bne_iff_ne.mpr e)]
    have hl : lt (r ++ Txt.join sl (Nst (r, a, ns))) ≠ [] := by
      rw [lt_app]
      intro hc
      have := (List.append_eq_nil_iff.mp hc).1
      exact e (lt_inj (this.trans lt_none.symm))
    simp only
    rw [if_neg (fun hc => hl (len0.mp hc))]
    unfold Nst
    simp only [if_neg e]
theorem end_ne {st : Str × Int × List Str} (h : OkS st) : lt (endOf st) ≠ [] := by
  rw [end_out h]
  split
  · rw [lt_dt]; simp
  · rename_i e; exact fun hc => e (len0.mpr hc)
/-- normpath of a text whose root and pieces are known -/
theorem np_end {x : Str} {st : Str × Int × List Str} (h : OkS st) (hx : lt x ≠ []) (hr : srRoot x = st.1) (hf : (sp (srRest x)).foldl (npStep st.1) [] = Nst st) : npF x = endOf st := by
  unfold npF
  rw [if_neg (fun e => hx (len0.mp e)), hr]
  have hf' : (Txt.split (srRest x) (Str.ofString "/")).foldl (npStep st.1) [] = Nst st := hf
  rw [hf', end_out h]
theorem ok_root {r : Str} (h : r = sl ∨ r = Str.ofString "//") : OkS (r, 0, []) ∧ Nst (r, 0, []) = [] := by
  refine ⟨⟨.inr h, by simp, by simp⟩, ?_⟩
  unfold Nst
  rcases h with rfl | rfl
  · rfl
  · rfl
theorem sl_ne : sl ≠ no := by intro h; have := congrArg lt h; rw [lt_sl, lt_none] at this; cases this
theorem sl2_ne : Str.ofString "//" ≠ no := by intro h; have := congrArg lt h; rw [sl2, lt_none] at this; cases this
theorem skip_no (st : Str × Int × List Str) : pieceStep st no = st := by
  unfold pieceStep
  rw [if_neg (by intro h; have := congrArg lt (eq_of_beq h); rw [lt_none, lt_dd] at this; cases this), if_pos ((any2 no).mpr (.inl rfl))]
noncomputable def Fine (p : Str) : Prop := ∀ c ∈ sp p, c ≠ Str.ofString "d"
theorem fine_pieces {p : Str} (h : Fine p) : ∀ c ∈ sp p, Free (lt c) ∧ c ≠ Str.ofString "d" := fun c hc => ⟨sp_free p c hc, h c hc⟩
theorem head_ne {y : Str} (h : (lt y).head? = some 47) : ∃ z : Str, lt y = 47 :: lt z := by
  cases e : lt y with
  | nil => rw [e] at h; cases h
  | cons a r =>
    rw [e] at h
    refine ⟨⟨r.toArray⟩, ?_⟩
    simp at h
    rw [h]
    simp [lt]
theorem eq_slash {x y : Str} (h : lt x = 47 :: lt y) : x = sl ++ y := lt_inj (by rw [lt_app, lt_sl, h]; rfl)
theorem part_abs {st : Str × Int × List Str} {p : Str} (_ : OkS st) (hp : Fine p) (hs : (lt p).head? = some 47) : npF p = endOf (partStep st p) ∧ OkS (partStep st p) := by
  have hne : lt p ≠ [] := by intro e; rw [e] at hs; cases hs
  have key : ∀ (r y : Str), (r = sl ∨ r = Str.ofString "//") → srRoot p = r → srRest p = y → rootStep st p = (r, 0, []) → (∀ st' : Str × Int × List Str, (sp p).foldl pieceStep st' = (sp y).foldl pieceStep st') → (∀ c ∈ sp y, c ∈ sp p) → npF p = endOf (partStep st p) ∧ OkS (partStep st p) := by
    intro r y hr h1 h2 h3 h4 h5
    obtain ⟨hk, hn⟩ := ok_root hr
    obtain ⟨hk', hf⟩ := pieces_ok (sp y) hk (fun c hc => fine_pieces hp c (h5 c hc))
    have e : partStep st p = (sp y).foldl pieceStep (r, 0, []) := by
      unfold partStep
      rw [h3]
      exact h4 _
    rw [e]
    refine ⟨np_end hk' hne ?_ ?_, hk'⟩
    · rw [h1, pieces_root]
    · rw [h2, pieces_root]
      rw [hn] at hf
      exact hf
  obtain ⟨y, hy⟩ := head_ne hs
  have e1 := eq_slash hy
  have s1 : sp p = no :: sp y := by rw [e1]; exact sp_slash y
  by_cases h1 : (lt y).head? = some 47
  · obtain ⟨z, hz⟩ := head_ne h1
    have e2 := eq_slash hz
    have s2 : sp y = no :: sp z := by rw [e2]; exact sp_slash z
    by_cases h2 : (lt z).head? = some 47
    · obtain ⟨u, hu⟩ := head_ne h2
      obtain ⟨r1, r2, r3, _⟩ := root3 (x := p) (y := u) (by rw [hy, hz, hu])
      have ey : srRest p = y := lt_inj (by rw [r2, hz, hu])
      refine key sl y (.inl rfl) r1 ey ?_ ?_ ?_
      · unfold rootStep; rw [if_pos (by omega), if_neg (by omega)]
      · intro st'; rw [s1, List.foldl_cons, skip_no]
      · intro c hc; rw [s1]; exact List.mem_cons_of_mem _ hc
    · obtain ⟨r1, r2, r3, _⟩ := root2 (x := p) (y := z) (by rw [hy, hz]) h2
      refine key (Str.ofString "//") z (.inr rfl) r1 r2 ?_ ?_ ?_
      · unfold rootStep; rw [if_pos (by omega), if_pos (by omega)]
      · intro st'; rw [s1, s2, List.foldl_cons, skip_no, List.foldl_cons, skip_no]
      · intro c hc; rw [s1, s2]; exact List.mem_cons_of_mem _ (List.mem_cons_of_mem _ hc)
  · obtain ⟨r1, r2, r3, _⟩ := root1 (x := p) (y := y) hy h1
    refine key sl y (.inl rfl) r1 r2 ?_ ?_ ?_
    · unfold rootStep; rw [if_pos (by omega), if_neg (by omega)]
    · intro st'; rw [s1, List.foldl_cons, skip_no]
    · intro c hc; rw [s1]; exact List.mem_cons_of_mem _ hc
end Mine
namespace Mine
open PySem PySem.W PyProof.Rows PySem.Calls
set_option maxRecDepth 100000
theorem head_app {a b : List Nat} (h : a ≠ []) : (a ++ b).head? = a.head? := by
  cases a with
  | nil => exact absurd rfl h
  | cons x a => rfl
theorem last_app' {a b : List Nat} (h : b ≠ []) : (a ++ b).getLast? = b.getLast? := by
  rw [List.getLast?_append, List.getLast?_eq_some_getLast h]; rfl
theorem dt_free : Free (lt dt) := by rw [lt_dt]; intro h; simp at h
theorem join_rel {T p : Str} (hs : (lt p).head? ≠ some 47) (hT : lt T ≠ []) : joinF T p = if (lt T).getLast? = some 47 then T ++ p else T ++ (sl ++ p) := by
  unfold joinF
  rw [if_neg (by rw [(root0 hs).2.2.2]; simp), if_neg (fun e => hT (len0.mp e))]
  by_cases h : (lt T).getLast? = some 47
  · rw [if_pos h, if_pos (by rw [ends_lt, h]; rfl)]
  · rw [if_neg h, if_neg (by rw [ends_lt]; simpa using h)]
theorem join_abs {T p : Str} (hs : (lt p).head? = some 47) : joinF T p = p := by
  unfold joinF
  rw [if_pos (by rw [starts_lt, hs]; rfl)]
theorem step_rel {st : Str × Int × List Str} {p : Str} (hs : (lt p).head? ≠ some 47) : partStep st p = (sp p).foldl pieceStep st := by
  unfold partStep rootStep
  rw [if_neg (by rw [(root0 hs).2.2.1]; omega)]
theorem part_rel {st : Str × Int × List Str} {p : Str} (h : OkS st) (hp : Fine p) (hs : (lt p).head? ≠ some 47) : npF (joinF (endOf st) p) = endOf (partStep st p) ∧ OkS (partStep st p) := by
  obtain ⟨hk, hf⟩ := pieces_ok (sp p) h (fine_pieces hp)
  rw [step_rel hs]
  refine ⟨?_, hk⟩
  have hT := end_ne h
  rw [join_rel hs hT]
  have hrt : ((sp p).foldl pieceStep st).1 = st.1 := pieces_root _ _
  by_cases e : st.1 = no
  · have key : (lt (endOf st)).head? ≠ some 47 ∧ (lt (endOf st)).getLast? ≠ some 47 ∧ (sp (endOf st)).foldl (npStep st.1) [] = Nst st := by
      rw [end_out h, e, no_app]
      by_cases e2 : Nst st = []
      · rw [if_pos (by rw [e2, join_nil, len0, lt_none]), e2, sp_free1 dt_free, lt_dt]
        refine ⟨by simp, by simp, ?_⟩
        rw [List.foldl_cons, np_skip _ _ (.inr rfl)]
        rfl
      · have hj := join_ends h e2
        rw [if_neg (fun hc => hj.2.2 (len0.mp hc)), nst_split h e2]
        refine ⟨hj.1, hj.2.1, ?_⟩
        have := nst_fold h
        rw [e] at this
        exact this
    obtain ⟨k1, k2, k3⟩ := key
    rw [if_neg k2]
    have hx : (lt (endOf st ++ (sl ++ p))).head? ≠ some 47 := by rw [lt_app, head_app hT]; exact k1
    obtain ⟨r1, r2, _⟩ := root0 hx
    refine np_end hk ?_ ?_ ?_
    · rw [lt_app]; intro hc; exact hT (List.append_eq_nil_iff.mp hc).1
    · rw [r1, hrt, e]
    · rw [r2, sp_app, List.foldl_append, hrt, k3, hf]
  · have hr : st.1 = sl ∨ st.1 = Str.ofString "//" := h.root.resolve_left e
    have hT2 : endOf st = st.1 ++ Txt.join sl (Nst st) := by
      rw [end_out h, if_neg]
      intro hc
      have hc := len0.mp hc
      rw [lt_app] at hc
      exact e (lt_inj ((List.append_eq_nil_iff.mp hc).1.trans lt_none.symm))
    have roots : ∀ y : Str, (lt y).head? ≠ some 47 → srRoot (st.1 ++ y) = st.1 ∧ srRest (st.1 ++ y) = y ∧ lt (st.1 ++ y) ≠ [] := by
      intro y hy
      rcases hr with hr | hr
      · rw [hr]
        obtain ⟨r1, r2, _⟩ := root1 (x := sl ++ y) (y := y) (by rw [lt_app, lt_sl]; rfl) hy
        exact ⟨r1, r2, by rw [lt_app, lt_sl]; simp⟩
      · rw [hr]
        obtain ⟨r1, r2, _⟩ := root2 (x := Str.ofString "//" ++ y) (y := y) (by rw [lt_app, sl2]; rfl) hy
        exact ⟨r1, r2, by rw [lt_app, sl2]; simp⟩
    by_cases e2 : Nst st = []
    · have hT3 : endOf st = st.1 := by rw [hT2, e2, join_nil, app_no]
      have hlast : (lt (endOf st)).getLast? = some 47 := by
        rw [hT3]
        rcases hr with hr | hr
        · rw [hr, lt_sl]; rfl
        · rw [hr, sl2]; rfl
      rw [if_pos hlast, hT3]
      obtain ⟨r1, r2, r3⟩ := roots p hs
      refine np_end hk r3 ?_ ?_
      · rw [r1, hrt]
      · rw [r2, hrt, ← hf, e2]
    · have hj := join_ends h e2
      have hlast : (lt (endOf st)).getLast? ≠ some 47 := by
        rw [hT2, lt_app, last_app' hj.2.2]
        exact hj.2.1
      rw [if_neg hlast, hT2, Str.append_assoc]
      have hy : (lt (Txt.join sl (Nst st) ++ (sl ++ p))).head? ≠ some 47 := by rw [lt_app, head_app hj.2.2]; exact hj.1
      obtain ⟨r1, r2, r3⟩ := roots _ hy
      refine np_end hk r3 ?_ ?_
      · rw [r1, hrt]
      · rw [r2, sp_app, List.foldl_append, nst_split h e2, hrt, nst_fold h, hf]
/-- what the reduce's step makes of an end is the end of the longer walk -/
theorem part_end {st : Str × Int × List Str} {p : Str} (h : OkS st) (hp : Fine p) : npF (joinF (endOf st) p) = endOf (partStep st p) ∧ OkS (partStep st p) := by
  by_cases hs : (lt p).head? = some 47
  · rw [join_abs hs]; exact part_abs h hp hs
  · exact part_rel h hp hs
theorem lt_c : lt (Str.ofString "c") = [99] := by decide +kernel
theorem lt_d : lt (Str.ofString "d") = [100] := by decide +kernel
theorem ok_start : OkS endStart ∧ endOf endStart = Str.ofString "c" := by
  have hc : Nm (Str.ofString "c") := ⟨by rw [lt_c]; intro h; simp at h, by rw [lt_c]; simp, by intro h; have := congrArg lt h; rw [lt_c, lt_dt] at this; simp at this, by intro h; have := congrArg lt h; rw [lt_c, lt_dd] at this; simp at this, by intro h; have := congrArg lt h; rw [lt_c, lt_d] at this; simp at this⟩
  refine ⟨⟨.inl rfl, Int.le_refl 0, ?_⟩, ?_⟩
  · intro n hn
    rw [List.mem_singleton.mp hn]
    exact hc
  · decide +kernel
theorem parts_ok : ∀ (ps : List Str) {st : Str × Int × List Str}, OkS st → (∀ p ∈ ps, Fine p) → OkS (ps.foldl partStep st)
  | [], _, h, _ => h
  | p :: ps, st, h, hp => parts_ok ps (part_end h (hp p (List.mem_cons_self ..))).2 (fun q hq => hp q (List.mem_cons_of_mem _ hq))
/-- no end is the text d -/
theorem end_d {st : Str × Int × List Str} (h : OkS st) : endOf st ≠ Str.ofString "d" := by
  intro hd
  rw [end_out h] at hd
  split at hd
  · have := congrArg lt hd; rw [lt_dt, lt_d] at this; simp at this
  · by_cases e : st.1 = no
    · rw [e, no_app] at hd
      by_cases e2 : Nst st = []
      · rw [e2, join_nil] at hd
        have := congrArg lt hd; rw [lt_none, lt_d] at this; cases this
      · have h1 := nst_split h e2
        rw [hd, sp_free1 (by rw [lt_d]; intro h; simp at h)] at h1
        have hm : Str.ofString "d" ∈ Nst st := by rw [← h1]; exact List.mem_cons_self ..
        unfold Nst at hm
        rw [if_pos e] at hm
        rcases List.mem_append.mp hm with hm | hm
        · have := congrArg lt (List.eq_of_mem_replicate hm); rw [lt_d, lt_dd] at this; simp at this
        · exact (h.names _ hm).d rfl
    · have hr : st.1 = sl ∨ st.1 = Str.ofString "//" := h.root.resolve_left e
      have := congrArg lt hd
      rw [lt_app, lt_d] at this
      rcases hr with hr | hr
      · rw [hr, lt_sl] at this; simp at this
      · rw [hr, sl2] at this; simp at this
end Mine
namespace Mine
open PySem PySem.W PyProof.Rows PySem.Calls
set_option maxRecDepth 100000
noncomputable def dsx (a : List Str) (x : Str) : List Str := if x ∈ a then a else a ++ [x]
theorem dedup_app (acc xs ys : List Str) : dedupF acc (xs ++ ys) = dedupF (dedupF acc xs) ys := by unfold dedupF; rw [List.foldl_append]
theorem dedup_one (acc : List Str) (x : Str) : dedupF acc [x] = if x ∈ acc then acc else acc ++ [x] := rfl
theorem dedup_cons (acc : List Str) (x : Str) (xs : List Str) : dedupF acc (x :: xs) = dedupF (dedupF acc [x]) xs := rfl
theorem mem_dedup : ∀ (xs acc : List Str) (y : Str), y ∈ dedupF acc xs ↔ y ∈ acc ∨ y ∈ xs
  | [], acc, y => by simp [dedupF]
  | x :: xs, acc, y => by
    rw [dedup_cons, mem_dedup xs, dedup_one]
    split
    · rename_i h
      constructor
      · rintro (h1 | h1)
        · exact .inl h1
        · exact .inr (List.mem_cons_of_mem _ h1)
      · rintro (h1 | h1)
        · exact .inl h1
        · rcases List.mem_cons.mp h1 with rfl | h1
          · exact .inl h
          · exact .inr h1
    · simp only [List.mem_append, List.mem_cons, List.not_mem_nil, or_false]
      constructor
      · rintro ((h1 | h1) | h1)
        · exact .inl h1
        · exact .inr (.inl h1)
        · exact .inr (.inr h1)
      · rintro (h1 | h1 | h1)
        · exact .inl (.inl h1)
        · exact .inl (.inr h1)
        · exact .inr h1
theorem nodup_dedup : ∀ (xs acc : List Str), acc.Nodup → (dedupF acc xs).Nodup
  | [], acc, h => h
  | x :: xs, acc, h => by
    rw [dedup_cons]
    apply nodup_dedup
    rw [dedup_one]
    split
    · exact h
    · rename_i hx
      rw [List.nodup_append]
      refine ⟨h, by simp, ?_⟩
      intro a ha b hb
      rw [List.mem_singleton.mp hb]
      exact fun e => hx (e ▸ ha)
theorem dedup_in {acc : List Str} {x : Str} (h : x ∈ acc) : dedupF acc [x] = acc := by rw [dedup_one, if_pos h]
theorem rev_ind {P : List Str → Prop} (h0 : P []) (h1 : ∀ xs x, P xs → P (xs ++ [x])) (xs : List Str) : P xs := by
  have : ∀ ys : List Str, P ys.reverse := by
    intro ys
    induction ys with
    | nil => exact h0
    | cons y ys ih => rw [List.reverse_cons]; exact h1 _ _ ih
  have := this xs.reverse
  rwa [List.reverse_reverse] at this
theorem dedup_map (f : Str → Str) (acc : List Str) (xs : List Str) : dedupF acc ((dedupF [] xs).map f) = dedupF acc (xs.map f) := by
  induction xs using rev_ind with
  | h0 => rfl
  | h1 xs x ih =>
    rw [dedup_app, dedup_one]
    split
    · rename_i h
      have hx : x ∈ xs := ((mem_dedup xs [] x).mp h).resolve_left (by simp)
      rw [ih, List.map_append, dedup_app, List.map_cons, List.map_nil, dedup_in]
      exact (mem_dedup _ _ _).mpr (.inr (List.mem_map.mpr ⟨x, hx, rfl⟩))
    · rw [List.map_append, dedup_app, ih, List.map_append, dedup_app]
theorem dedup_dedup (acc xs : List Str) : dedupF acc (dedupF [] xs) = dedupF acc xs := by
  have := dedup_map id acc xs
  simpa using this
noncomputable def hstep (xs : List Str) (p : Str) : List Str := dedupF [] (xs ++ xs.map fun t => npF (joinF t p))
noncomputable abbrev WS := Str × Int × List Str
noncomputable def grow (S : List WS) (p : Str) : List WS := S ++ S.map fun st => partStep st p
theorem hstep_dedup (E : List Str) (p : Str) : hstep (dedupF [] E) p = dedupF [] (E ++ E.map fun t => npF (joinF t p)) := by
  unfold hstep
  rw [dedup_app, dedup_dedup, dedup_map, ← dedup_app]
theorem grow_ok {S : List WS} {p : Str} (h : ∀ st ∈ S, OkS st) (hp : Fine p) : ∀ st ∈ grow S p, OkS st := by
  intro st hst
  rcases List.mem_append.mp hst with hst | hst
  · exact h st hst
  · obtain ⟨u, hu, rfl⟩ := List.mem_map.mp hst
    exact (part_end (h u hu) hp).2
theorem told_walks : ∀ (ps : List Str) (S : List WS), (∀ st ∈ S, OkS st) → (∀ p ∈ ps, Fine p) → ps.foldl hstep (dedupF [] (S.map endOf)) = dedupF [] ((ps.foldl grow S).map endOf)
  | [], S, _, _ => rfl
  | p :: ps, S, h, hp => by
    have hp0 := hp p (List.mem_cons_self ..)
    rw [List.foldl_cons, List.foldl_cons, hstep_dedup, ← told_walks ps (grow S p) (grow_ok h hp0) (fun q hq => hp q (List.mem_cons_of_mem _ hq))]
    congr 2
    unfold grow
    rw [List.map_append, List.map_map, List.map_map]
    congr 1
    apply List.map_congr_left
    intro st hst
    exact (part_end (h st hst) hp0).1
noncomputable def subP (ps : List Str) (c : Nat) : List Str := ((List.range ps.length).filter fun k => c / 2 ^ k % 2 = 1).map fun k => ps.getD k Str.empty
theorem sub_low (ps : List Str) (p : Str) {c : Nat} (h : c < 2 ^ ps.length) : subP (ps ++ [p]) c = subP ps c := by
  unfold subP
  rw [List.length_append, List.length_singleton, List.range_succ, List.filter_append, List.map_append]
  have e : (List.filter (fun k => decide (c / 2 ^ k % 2 = 1)) [ps.length]) = [] := by
    rw [List.filter_cons, if_neg (by simp [Nat.div_eq_of_lt h])]
    rfl
  rw [e, List.map_nil, List.append_nil]
  apply List.map_congr_left
  intro k hk
  have hk' := List.mem_range.mp (List.mem_filter.mp hk).1
  simp [List.getD, List.getElem?_append_left hk']
theorem bit_add {n k c : Nat} (hk : k < n) : (2 ^ n + c) / 2 ^ k % 2 = c / 2 ^ k % 2 := by
  have e : 2 ^ n = 2 ^ k * (2 * 2 ^ (n - k - 1)) := by
    rw [← Nat.pow_succ', ← Nat.pow_add]
    congr 1
    omega
  rw [e, Nat.mul_add_div (Nat.two_pow_pos k), Nat.mul_add_mod]
theorem sub_high (ps : List Str) (p : Str) {c : Nat} (h : c < 2 ^ ps.length) : subP (ps ++ [p]) (2 ^ ps.length + c) = subP ps c ++ [p] := by
  unfold subP
  rw [List.length_append, List.length_singleton, List.range_succ, List.filter_append, List.map_append]
  have e : (List.filter (fun k => decide ((2 ^ ps.length + c) / 2 ^ k % 2 = 1)) [ps.length]) = [ps.length] := by
    have h1 : (2 ^ ps.length + c) / 2 ^ ps.length = 1 := by
      rw [Nat.add_div_left _ (Nat.two_pow_pos _), Nat.div_eq_of_lt h]
    rw [List.filter_cons, if_pos (by simp [h1])]
    rfl
  rw [e, List.map_cons, List.map_nil]
  congr 1
  · rw [List.filter_congr (q := fun k => decide (c / 2 ^ k % 2 = 1)) (fun k hk => by rw [bit_add (List.mem_range.mp hk)])]
    apply List.map_congr_left
    intro k hk
    have hk' := List.mem_range.mp (List.mem_filter.mp hk).1
    simp [List.getD, List.getElem?_append_left hk']
  · simp [List.getD]
theorem counts (ps : List Str) : (List.range (2 ^ ps.length)).map (fun c => (subP ps c).foldl partStep endStart) = ps.foldl grow [endStart] := by
  induction ps using rev_ind with
  | h0 => rfl
  | h1 ps p ih =>
    rw [List.foldl_append, ← ih, List.length_append, List.length_singleton, Nat.pow_succ, Nat.mul_two, List.range_add, List.map_append]
    show _ = grow _ p
    unfold grow
    congr 1
    · apply List.map_congr_left
      intro c hc
      rw [sub_low ps p (List.mem_range.mp hc)]
    · rw [List.map_map, List.map_map]
      apply List.map_congr_left
      intro c hc
      simp only [Function.comp]
      rw [sub_high ps p (List.mem_range.mp hc), List.foldl_append]
      rfl
/-- all ends, in the order of count -/
noncomputable def endsOf (ps : List Str) : List Str := (List.range (2 ^ ps.length)).map fun c => endF (subP ps c)
theorem ends_walks (ps : List Str) : endsOf ps = (ps.foldl grow [endStart]).map endOf := by
  rw [← counts, List.map_map]; rfl
/-- what reduce tells is the ends without repeats -/
theorem told_is (ps : List Str) (hp : ∀ p ∈ ps, Fine p) : ps.foldl hstep [Str.ofString "c"] = dedupF [] (endsOf ps) := by
  have h := told_walks ps [endStart] (by intro st hst; rw [List.mem_singleton.mp hst]; exact ok_start.1) hp
  rw [ends_walks, ← h]
  have e : dedupF [] ([endStart].map endOf) = [Str.ofString "c"] := by
    show dedupF [] [endOf endStart] = _
    rw [ok_start.2]
    rfl
  rw [e]
theorem walks_ok : ∀ (ps : List Str) (S : List WS), (∀ st ∈ S, OkS st) → (∀ p ∈ ps, Fine p) → ∀ st ∈ ps.foldl grow S, OkS st
  | [], _, h, _ => h
  | p :: ps, S, h, hp => walks_ok ps (grow S p) (grow_ok h (hp p (List.mem_cons_self ..))) (fun q hq => hp q (List.mem_cons_of_mem _ hq))
theorem ends_d (ps : List Str) (hp : ∀ p ∈ ps, Fine p) : Str.ofString "d" ∉ endsOf ps := by
  rw [ends_walks]
  intro h
  obtain ⟨st, hst, e⟩ := List.mem_map.mp h
  exact end_d (walks_ok ps [endStart] (by intro st hst; rw [List.mem_singleton.mp hst]; exact ok_start.1) hp st hst) e
theorem ends_ne (ps : List Str) : endsOf ps ≠ [] := by
  unfold endsOf
  intro h
  have := congrArg List.length h
  simp at this
end Mine
namespace Mine
open PySem PySem.W PyProof.Rows PySem.Calls
set_option maxRecDepth 100000
theorem rem_same : ∀ (F S : List Str), F.Nodup → S.Nodup → (remAll F S = true ↔ (∀ x ∈ F, x ∈ S) ∧ ∀ x ∈ S, x ∈ F)
  | [], S, _, _ => by
    show S.isEmpty = true ↔ _
    rw [List.isEmpty_iff]
    constructor
    · rintro rfl; exact ⟨by simp, by simp⟩
    · rintro ⟨_, h⟩
      cases S with
      | nil => rfl
      | cons x S => exact absurd (h x (List.mem_cons_self ..)) (by simp)
  | e :: r, S, hF, hS => by
    have hF' := List.nodup_cons.mp hF
    show (if e ∈ S then remAll r (S.erase e) else false) = true ↔ _
    by_cases he : e ∈ S
    · rw [if_pos he, rem_same r (S.erase e) hF'.2 (hS.erase e)]
      constructor
      · rintro ⟨h1, h2⟩
        refine ⟨fun x hx => ?_, fun x hx => ?_⟩
        · rcases List.mem_cons.mp hx with rfl | hx
          · exact he
          · exact List.mem_of_mem_erase (h1 x hx)
        · by_cases hxe : x = e
          · rw [hxe]; exact List.mem_cons_self ..
          · exact List.mem_cons_of_mem _ (h2 x ((List.mem_erase_of_ne hxe).mpr hx))
      · rintro ⟨h1, h2⟩
        refine ⟨fun x hx => ?_, fun x hx => ?_⟩
        · have hxe : x ≠ e := fun e' => hF'.1 (e' ▸ hx)
          exact (List.mem_erase_of_ne hxe).mpr (h1 x (List.mem_cons_of_mem _ hx))
        · have hxe : x ≠ e := (hS.mem_erase_iff.mp hx).1
          exact (List.mem_cons.mp (h2 x (List.mem_of_mem_erase hx))).resolve_left hxe
    · rw [if_neg he]
      constructor
      · intro h; cases h
      · rintro ⟨h1, _⟩; exact absurd (h1 e (List.mem_cons_self ..)) he
theorem cmp_same (A B : List Str) : cmpF A B = true ↔ (∀ x ∈ A, x ∈ B) ∧ ∀ x ∈ B, x ∈ A := by
  show remAll (dedupF [] A) (dedupF [] B) = true ↔ _
  rw [rem_same _ _ (nodup_dedup A [] (by simp)) (nodup_dedup B [] (by simp))]
  constructor
  · rintro ⟨h1, h2⟩
    refine ⟨fun x hx => ?_, fun x hx => ?_⟩
    · exact ((mem_dedup B [] x).mp (h1 x ((mem_dedup A [] x).mpr (.inr hx)))).resolve_left (by simp)
    · exact ((mem_dedup A [] x).mp (h2 x ((mem_dedup B [] x).mpr (.inr hx)))).resolve_left (by simp)
  · rintro ⟨h1, h2⟩
    refine ⟨fun x hx => ?_, fun x hx => ?_⟩
    · exact (mem_dedup B [] x).mpr (.inr (h1 x (((mem_dedup A [] x).mp hx).resolve_left (by simp))))
    · exact (mem_dedup A [] x).mpr (.inr (h2 x (((mem_dedup B [] x).mp hx).resolve_left (by simp))))
theorem cmp_off {A B : List Str} {x : Str} (h : x ∈ A) (hn : x ∉ B) : cmpF A B = false := by
  cases e : cmpF A B with
  | false => rfl
  | true => exact absurd (((cmp_same A B).mp e).1 x h) hn
theorem cmp_off' {A B : List Str} {x : Str} (h : x ∈ B) (hn : x ∉ A) : cmpF A B = false := by
  cases e : cmpF A B with
  | false => rfl
  | true => exact absurd (((cmp_same A B).mp e).2 x h) hn
theorem cmp_rev (E : List Str) : cmpF E.reverse (dedupF [] E) = true ∧ cmpF (dedupF [] E) E.reverse = true := by
  rw [cmp_same, cmp_same]
  refine ⟨⟨fun x hx => ?_, fun x hx => ?_⟩, fun x hx => ?_, fun x hx => ?_⟩
  · exact (mem_dedup E [] x).mpr (.inr (List.mem_reverse.mp hx))
  · exact List.mem_reverse.mpr (((mem_dedup E [] x).mp hx).resolve_left (by simp))
  · exact List.mem_reverse.mpr (((mem_dedup E [] x).mp hx).resolve_left (by simp))
  · exact (mem_dedup E [] x).mpr (.inr (List.mem_reverse.mp hx))
/-- told without the place k -/
noncomputable def fewer (T : List Str) (k : Nat) : List Str := T.take k ++ T.drop (k + 1)
theorem fewer_out {T : List Str} {k : Nat} (hn : T.Nodup) (hk : k < T.length) : T[k] ∉ fewer T k := by
  unfold fewer
  intro h
  have e : T = T.take k ++ T[k] :: T.drop (k + 1) := by
    rw [← List.drop_eq_getElem_cons hk, List.take_append_drop]
  rw [e] at hn
  have hn' := List.nodup_append.mp hn
  rcases List.mem_append.mp h with h | h
  · exact hn'.2.2 _ h _ (List.mem_cons_self ..) rfl
  · exact (List.nodup_cons.mp hn'.2.1).1 h
theorem few_cmp (E : List Str) (hd : Str.ofString "d" ∉ E) {k : Nat} (hk : k < (dedupF [] E).length) :
    cmpF (fewer (dedupF [] E) k) E = false ∧ cmpF E (fewer (dedupF [] E) k) = false ∧ cmpF (fewer (dedupF [] E) k ++ [Str.ofString "d"]) E = false ∧ cmpF E (fewer (dedupF [] E) k ++ [Str.ofString "d"]) = false := by
  have ho := fewer_out (nodup_dedup E [] (by simp)) hk
  have hm : (dedupF [] E)[k] ∈ E := ((mem_dedup E [] _).mp (List.getElem_mem hk)).resolve_left (by simp)
  have hne : (dedupF [] E)[k] ≠ Str.ofString "d" := fun e => hd (e ▸ hm)
  refine ⟨cmp_off' hm ho, cmp_off hm ho, cmp_off (List.mem_append_right _ (List.mem_singleton.mpr rfl)) hd, cmp_off hm ?_⟩
  intro h
  rcases List.mem_append.mp h with h | h
  · exact ho h
  · exact hne (List.mem_singleton.mp h)
theorem join_sub : ∀ (A : List (List Nat)) (x : List Nat), x ∈ A → ∀ c ∈ x, c ∈ jl A
  | [], _, h, _, _ => by cases h
  | [y], x, h, c, hc => by rw [List.mem_singleton.mp h] at hc; exact hc
  | y :: z :: r, x, h, c, hc => by
    show c ∈ y ++ 47 :: jl (z :: r)
    rcases List.mem_cons.mp h with rfl | h
    · exact List.mem_append_left _ hc
    · exact List.mem_append_right _ (List.mem_cons_of_mem _ (join_sub (z :: r) x h c hc))
theorem fine_of {p : Str} (h : 100 ∉ lt p) : Fine p := by
  intro c hc e
  subst e
  apply h
  rw [← sp_jl p]
  exact join_sub _ (lt (Str.ofString "d")) (List.mem_map.mpr ⟨_, hc, rfl⟩) 100 (by rw [lt_d]; exact List.mem_cons_self ..)
noncomputable def okPart (p : Str) : Bool := !(lt p).contains 100 && decide (p.length ≤ 7)
theorem okPart_fine {p : Str} (h : okPart p = true) : Fine p ∧ p.length ≤ 7 := by
  unfold okPart at h
  rw [Bool.and_eq_true, Bool.not_eq_true', decide_eq_true_eq] at h
  refine ⟨fine_of ?_, h.2⟩
  intro hm
  have := List.contains_iff_mem.mpr hm
  rw [h.1] at this
  cases this
theorem parts_all : ∀ n : Fin 216, okPart (partF (n.val : Int)) = true := by decide +kernel
noncomputable def partX (x : Int) : Str := partF ((if x < 0 then -x else x).fmod 216)
theorem partX_ok (x : Int) : okPart (partX x) = true := by
  unfold partX
  have h0 : 0 ≤ (if x < 0 then -x else x).fmod 216 := Int.fmod_nonneg_of_pos _ (by decide)
  have h1 : (if x < 0 then -x else x).fmod 216 < 216 := Int.fmod_lt_of_pos _ (by decide)
  generalize (if x < 0 then -x else x).fmod 216 = n at h0 h1
  have h := parts_all ⟨n.toNat, by omega⟩
  simp only at h
  rwa [show ((n.toNat : Nat) : Int) = n by omega] at h
noncomputable abbrev spare : List Str := [Str.ofString "a", Str.ofString "../..", Str.ofString "/b"]
theorem spare_ok : ∀ p ∈ spare, okPart p = true := by decide +kernel
/-- the law's parts -/
noncomputable def partsOf (xs : List Int) : List Str := (xs.take 5).map partX ++ spare.drop (xs.take 5).length
theorem parts_good (xs : List Int) : ∀ p ∈ partsOf xs, okPart p = true := by
  intro p hp
  rcases List.mem_append.mp hp with hp | hp
  · obtain ⟨x, _, rfl⟩ := List.mem_map.mp hp
    exact partX_ok x
  · exact spare_ok p (List.mem_of_mem_drop hp)
theorem parts_fine (xs : List Int) : ∀ p ∈ partsOf xs, Fine p := fun p hp => (okPart_fine (parts_good xs p hp)).1
theorem parts_len (xs : List Int) : 3 ≤ (partsOf xs).length ∧ (partsOf xs).length ≤ 5 := by
  unfold partsOf
  rw [List.length_append, List.length_map, List.length_drop, List.length_take]
  show 3 ≤ min 5 xs.length + (3 - min 5 xs.length) ∧ min 5 xs.length + (3 - min 5 xs.length) ≤ 5
  omega
theorem wt_good : ∀ (ps : List Str), (∀ p ∈ ps, okPart p = true) → wt ps ≤ 8 * ps.length
  | [], _ => Nat.le_refl _
  | p :: ps, h => by
    have h1 := (okPart_fine (h p (List.mem_cons_self ..))).2
    have h2 := wt_good ps (fun q hq => h q (List.mem_cons_of_mem _ hq))
    rw [wt_cons, List.length_cons]
    omega
theorem sub_good (ps : List Str) (c : Nat) (h : ∀ p ∈ ps, okPart p = true) : (∀ p ∈ subP ps c, okPart p = true) ∧ (subP ps c).length ≤ ps.length := by
  refine ⟨?_, ?_⟩
  · intro p hp
    obtain ⟨k, hk, rfl⟩ := List.mem_map.mp hp
    have hk' := List.mem_range.mp (List.mem_filter.mp hk).1
    refine h _ ?_
    simp [List.getD, hk']
  · unfold subP
    rw [List.length_map]
    exact Nat.le_trans (List.length_filter_le _ _) (by simp)
end Mine
namespace Mine
open PySem PySem.W PyProof.Rows PySem.Calls
set_option maxRecDepth 100000
noncomputable def ElS (news : List (Addr × Obj)) (r : Str) (y : Value) (news' : List (Addr × Obj)) : Prop := news' = news ∧ ∃ t : Tok, y = .str r t
noncomputable def ElT (news : List (Addr × Obj)) (b : Bool) (r : Str) (y : Value) (news' : List (Addr × Obj)) : Prop := news' = news ∧ b = true ∧ ∃ t : Tok, y = .str r t
noncomputable def ElF (news : List (Addr × Obj)) (b : Bool) (news' : List (Addr × Obj)) : Prop := news' = news ∧ b = false
section
variable {prog : Program} {w : World} {A : Around} {h₀ : Heap} {L : Addr} {m : Str → Option Value} {env : Env} {ct elt : Expr} {x : Str} {scope : Scope} {cl : List (Str × Addr)} {s : Shared} {S : List (Addr × Obj) → Prop} {P : Nat → Value → Prop} {Fin : List Value → List (Addr × Obj) → Prop} {news : List (Addr × Obj)} {α : Type}
theorem comp_any {n : Nat} {ks : List α} (Rel : α → Value → Prop) (g : α → Str) (hks : ks.length = n) (hP : ∀ i v, i < n → P i v → ∃ k, ks[i]? = some k ∧ Rel k v)
    (turn : ∀ k v I oI C oC D m₂ ys h tk (E' : Value → Shared → Prop), k ∈ ks → Rel k v → LCg.NsObj oC m₂ → m₂ x = some v → Fr h₀ L h m → News h₀ L h ((I, oI) :: (C, oC) :: (D, LCg.lst ys) :: news) → LCg.Off3 I C D news → ((@Ne Nat I C) ∧ (@Ne Nat I D) ∧ (@Ne Nat C D)) →
      wpAny (model prog w) A (eval elt (compEnvC scope cl C env)) (LCg.CompEnd h₀ L m { s with heap := h, toks := tk } I oI C oC D (LCg.lst ys) S (fun y news' => ElS news (g k) y news')) E' { s with heap := h, toks := tk })
    (fin : ∀ ys, StrsAre ys (ks.map g) → Fin ys news) : LCg.CompRest prog w A h₀ L m env elt x scope cl s S P Fin n 0 [] news := by
  have key : ∀ (j i : Nat) (ys : List Value), i + j = n → StrsAre ys ((ks.take i).map g) → LCg.CompRest prog w A h₀ L m env elt x scope cl s S P Fin j i ys news := by
    intro j
    induction j with
    | zero =>
      intro i ys hi hy
      have e : i = ks.length := by omega
      subst e
      rw [List.take_length] at hy
      exact LCg.CompRest.zero (fin ys hy)
    | succ j ih =>
      intro i ys hi hy
      refine LCg.CompRest.succ ?_
      intro v I oI C oC D m₂ h tk E' hv hC hx F N off ne
      obtain ⟨k, hk, hv'⟩ := hP i v (by omega) hv
      refine wpAny_mono (turn k v I oI C oC D m₂ ys h tk E' (List.mem_of_getElem? hk) hv' hC hx F N off ne) (fun y s₂ hq => ?_) fun _ _ e => e
      obtain ⟨h', tk', nw, e, F', N', off', hS, hn, t', hy'⟩ := hq
      rw [hn] at N' off' hS
      refine ⟨h', tk', news, e, F', N', off', hS, ?_⟩
      rw [hy']
      refine ih (i + 1) _ (by omega) ?_
      rw [List.take_add_one, hk]
      simpa using strsAre_append hy (.cons (g k) t' .nil)
  exact key n 0 [] (by omega) (by simp only [List.take_zero, List.map_nil]; exact .nil)
theorem comp_test {n : Nat} {ks : List α} (Rel : α → Value → Prop) (sel : α → Bool) (g : α → Str) (hks : ks.length = n) (hP : ∀ i v, i < n → P i v → ∃ k, ks[i]? = some k ∧ Rel k v)
    (turn : ∀ k v I oI C oC D m₂ ys h tk (E' : Value → Shared → Prop), k ∈ ks → Rel k v → LCg.NsObj oC m₂ → m₂ x = some v → Fr h₀ L h m → News h₀ L h ((I, oI) :: (C, oC) :: (D, LCg.lst ys) :: news) → LCg.Off3 I C D news → ((@Ne Nat I C) ∧ (@Ne Nat I D) ∧ (@Ne Nat C D)) →
      wpAny (model prog w) A (isTrue ct (compEnvC scope cl C env) (eval ct (compEnvC scope cl C env))) (fun b s' => if b = true then wpAny (model prog w) A (eval elt (compEnvC scope cl C env)) (LCg.CompEnd h₀ L m { s with heap := h, toks := tk } I oI C oC D (LCg.lst ys) S (fun y news' => ElT news (sel k) (g k) y news')) E' s'
        else LCg.CompEnd h₀ L m { s with heap := h, toks := tk } I oI C oC D (LCg.lst ys) S (fun _ news' => ElF news (sel k) news') Value.none s') E' { s with heap := h, toks := tk })
    (fin : ∀ ys, StrsAre ys ((ks.filter sel).map g) → Fin ys news) : LCt.CompRestT prog w A h₀ L m env ct elt x scope cl s S P Fin n 0 [] news := by
  have key : ∀ (j i : Nat) (ys : List Value), i + j = n → StrsAre ys (((ks.take i).filter sel).map g) → LCt.CompRestT prog w A h₀ L m env ct elt x scope cl s S P Fin j i ys news := by
    intro j
    induction j with
    | zero =>
      intro i ys hi hy
      have e : i = ks.length := by omega
      subst e
      rw [List.take_length] at hy
      exact LCt.CompRestT.zero (fin ys hy)
    | succ j ih =>
      intro i ys hi hy
      refine LCt.CompRestT.succ ?_
      intro v I oI C oC D m₂ h tk E' hv hC hx F N off ne
      obtain ⟨k, hk, hv'⟩ := hP i v (by omega) hv
      have hs : (ks.take (i + 1)).filter sel = (ks.take i).filter sel ++ (if sel k = true then [k] else []) := by
        rw [List.take_add_one, hk, List.filter_append]
        congr 1
        show List.filter sel [k] = _
        rw [List.filter_cons]
        rfl
      refine wpAny_mono (turn k v I oI C oC D m₂ ys h tk E' (List.mem_of_getElem? hk) hv' hC hx F N off ne) (fun b s₂ hq => ?_) fun _ _ e => e
      cases b with
      | true =>
        simp only [if_true] at hq ⊢
        refine wpAny_mono hq (fun y s₃ hr => ?_) fun _ _ e => e
        obtain ⟨h', tk', nw, e, F', N', off', hS, hn, hb, t', hy'⟩ := hr
        rw [hn] at N' off' hS
        refine ⟨h', tk', news, e, F', N', off', hS, ?_⟩
        rw [hy']
        refine ih (i + 1) _ (by omega) ?_
        rw [hs, if_pos hb, List.map_append]
        exact strsAre_append hy (.cons (g k) t' .nil)
      | false =>
        simp only [Bool.false_eq_true, if_false] at hq ⊢
        obtain ⟨h', tk', nw, e, F', N', off', hS, hn, hb⟩ := hq
        rw [hn] at N' off' hS
        refine ⟨h', tk', news, e, F', N', off', hS, ih (i + 1) _ (by omega) ?_⟩
        rw [hs, if_neg (ne_true_of_eq_false hb), List.append_nil]
        exact hy
  exact key n 0 [] (by omega) (by simp only [List.take_zero, List.filter_nil, List.map_nil]; exact .nil)
noncomputable abbrev IsI (k : Int) (v : Value) : Prop := ∃ t, v = .int k t
noncomputable abbrev IsS (k : Str) (v : Value) : Prop := ∃ t, v = .str k t
theorem kpfMark : KPfMark := True.intro
theorem src_ints {vs : List Value} {ns : List Int} (hi : IntsAre vs ns) : ns.length = vs.toArray.size ∧ ∀ i v, i < vs.toArray.size → vs.toArray[i]? = some v → ∃ k, ns[i]? = some k ∧ IsI k v :=
  ⟨by rw [List.size_toArray]; exact hi.length.symm, fun i v _ hv => by
    obtain ⟨k, t, e, hk⟩ := IntsAre.at hi i v (by simpa using hv)
    exact ⟨k, hk, t, e⟩⟩
theorem src_strs {vs : List Value} {ns : List Str} (hi : StrsAre vs ns) : ns.length = vs.toArray.size ∧ ∀ i v, i < vs.toArray.size → vs.toArray[i]? = some v → ∃ k, ns[i]? = some k ∧ IsS k v :=
  ⟨by rw [List.size_toArray]; exact hi.length.symm, fun i v _ hv => by
    obtain ⟨k, t, e, hk⟩ := strs_get hi (i := i) (v := v) (by simpa using hv)
    exact ⟨k, hk, t, e⟩⟩
theorem src_range (n : Nat) : (List.range n).length = n ∧ ∀ i v, i < n → (∃ t, v = Value.int (0 + (i : Int)) t) → ∃ k, (List.range n)[i]? = some k ∧ IsI (k : Int) v :=
  ⟨by simp, fun i v hi hv => by
    obtain ⟨t, e⟩ := hv
    exact ⟨i, by simp [hi], t, by rw [e]; simp⟩⟩
theorem comp_ints {vs : List Value} {ks : List Int} (g : Int → Str) (hi : IntsAre vs ks)
    (turn : ∀ k t I oI C oC D m₂ ys h tk (E' : Value → Shared → Prop), k ∈ ks → LCg.NsObj oC m₂ → m₂ x = some (.int k t) → Fr h₀ L h m → News h₀ L h ((I, oI) :: (C, oC) :: (D, LCg.lst ys) :: news) → LCg.Off3 I C D news → ((@Ne Nat I C) ∧ (@Ne Nat I D) ∧ (@Ne Nat C D)) → KPfMark →
      wpAny (model prog w) A (eval elt (compEnvC scope cl C env)) (LCg.CompEnd h₀ L m { s with heap := h, toks := tk } I oI C oC D (LCg.lst ys) S (fun y news' => ElS news (g k) y news')) E' { s with heap := h, toks := tk })
    (fin : ∀ ys, StrsAre ys (ks.map g) → Fin ys news) : LCg.CompRest prog w A h₀ L m env elt x scope cl s S (fun i v => vs.toArray[i]? = some v) Fin vs.toArray.size 0 [] news :=
  comp_any IsI g (src_ints hi).1 (src_ints hi).2 (fun k v I oI C oC D m₂ ys h tk E' hk hv hC hx F N off ne => by
    obtain ⟨t, rfl⟩ := hv
    exact turn k t I oI C oC D m₂ ys h tk E' hk hC hx F N off ne kpfMark) fin
theorem comp_strs {vs : List Value} {ks : List Str} (g : Str → Str) (hi : StrsAre vs ks)
    (turn : ∀ k t I oI C oC D m₂ ys h tk (E' : Value → Shared → Prop), k ∈ ks → LCg.NsObj oC m₂ → m₂ x = some (.str k t) → Fr h₀ L h m → News h₀ L h ((I, oI) :: (C, oC) :: (D, LCg.lst ys) :: news) → LCg.Off3 I C D news → ((@Ne Nat I C) ∧ (@Ne Nat I D) ∧ (@Ne Nat C D)) → KPfMark →
      wpAny (model prog w) A (eval elt (compEnvC scope cl C env)) (LCg.CompEnd h₀ L m { s with heap := h, toks := tk } I oI C oC D (LCg.lst ys) S (fun y news' => ElS news (g k) y news')) E' { s with heap := h, toks := tk })
    (fin : ∀ ys, StrsAre ys (ks.map g) → Fin ys news) : LCg.CompRest prog w A h₀ L m env elt x scope cl s S (fun i v => vs.toArray[i]? = some v) Fin vs.toArray.size 0 [] news :=
  comp_any IsS g (src_strs hi).1 (src_strs hi).2 (fun k v I oI C oC D m₂ ys h tk E' hk hv hC hx F N off ne => by
    obtain ⟨t, rfl⟩ := hv
    exact turn k t I oI C oC D m₂ ys h tk E' hk hC hx F N off ne kpfMark) fin
end
end Mine
namespace Mine
open PySem PySem.W PyProof.Rows PySem.Calls
set_option maxRecDepth 100000
theorem len_add (x y : Str) : (x ++ y).length = x.length + y.length := by first | exact Str.length_append x y | simp [Str.length]
theorem np_len (x : Str) : (npF x).length ≤ 2 * x.length + 1 := by
  unfold npF
  split
  · rw [show (Str.ofString ".").length = 1 by decide +kernel]; omega
  · split
    · rw [show (Str.ofString ".").length = 1 by decide +kernel]; omega
    · have h1 := split_weight (srRest x) (Str.ofString "/") (by decide +kernel)
      have h2 := srRest_short x
      have h3 := srRoot_short x
      have h4 := wt_fold (srRoot x) (Txt.split (srRest x) (Str.ofString "/")) []
      have h5 : wt ([] : List Str) = 0 := rfl
      have h6 : wt (Txt.split (srRest x) (Str.ofString "/")) ≤ (srRest x).length + 1 := h1
      have h7 := join_wt (Str.ofString "/") (by decide +kernel) ((Txt.split (srRest x) (Str.ofString "/")).foldl (npStep (srRoot x)) [])
      rw [len_add]
      omega
theorem join_len (x y : Str) : (joinF x y).length ≤ x.length + y.length + 1 := by
  unfold joinF
  have h : (Str.ofString "/").length = 1 := by decide +kernel
  (repeat' split) <;> (try simp only [len_add]) <;> omega
/-- how long the texts, how many of them -/
structure Small (b c : Nat) (xs : List Str) : Prop where
  le : ∀ x ∈ xs, x.length ≤ b
  num : xs.length ≤ c
theorem dedup_num (xs : List Str) : (dedupF [] xs).length ≤ xs.length := by
  have := dedup_len xs []
  rw [dedupF_eq]
  simpa using this
theorem small_step {b c : Nat} {xs : List Str} {y : Str} (h : Small b c xs) (hy : y.length ≤ 7) : Small (2 * b + 17) (2 * c) (hstep xs y) := by
  refine ⟨fun x hx => ?_, ?_⟩
  · unfold hstep at hx
    have hx' := ((mem_dedup _ [] x).mp hx).resolve_left (by simp)
    rcases List.mem_append.mp hx' with hx' | hx'
    · have := h.le x hx'; omega
    · obtain ⟨t, ht, rfl⟩ := List.mem_map.mp hx'
      have h1 := h.le t ht
      have h2 := np_len (joinF t y)
      have h3 := join_len t y
      omega
  · unfold hstep
    refine Nat.le_trans (dedup_num _) ?_
    rw [List.length_append, List.length_map]
    have := h.num
    omega
theorem small_fold : ∀ (n : Nat) (ps : List Str), ps.length = n → (∀ p ∈ ps, p.length ≤ 7) → Small (18 * 2 ^ n - 17) (2 ^ n) (ps.foldl hstep [Str.ofString "c"])
  | 0, ps, hn, _ => by
    have : ps = [] := List.eq_nil_of_length_eq_zero hn
    subst this
    refine ⟨fun x hx => ?_, by simp⟩
    rw [List.foldl_nil] at hx
    rw [List.mem_singleton.mp hx, show (Str.ofString "c").length = 1 by decide +kernel]
    decide
  | n + 1, ps, hn, h => by
    have hne : ps ≠ [] := by intro e; rw [e] at hn; simp at hn
    have e := List.dropLast_concat_getLast hne
    have h1 := small_fold n ps.dropLast (by rw [List.length_dropLast]; omega) (fun p hp => h p (List.dropLast_subset _ hp))
    have h2 := small_step h1 (h _ (List.getLast_mem hne))
    have e2 : ps.foldl hstep [Str.ofString "c"] = hstep (ps.dropLast.foldl hstep [Str.ofString "c"]) (ps.getLast hne) := by
      conv => lhs; rw [← e, List.foldl_append]
      rfl
    rw [e2]
    refine ⟨fun x hx => ?_, ?_⟩
    · have := h2.le x hx
      have hp : 1 ≤ 2 ^ n := Nat.one_le_two_pow
      rw [Nat.pow_succ]
      omega
    · have := h2.num
      rw [Nat.pow_succ]
      omega
theorem small_take {ps pre post : List Str} {y : Str} (e : ps = pre ++ y :: post) (h : ∀ p ∈ ps, okPart p = true) (hn : ps.length ≤ 5) : Small 288 16 (pre.foldl hstep [Str.ofString "c"]) ∧ y.length ≤ 7 := by
  have h7 : ∀ p ∈ ps, p.length ≤ 7 := fun p hp => (okPart_fine (h p hp)).2
  subst e
  have h1 := small_fold pre.length pre rfl (fun p hp => h7 p (List.mem_append_left _ hp))
  have h2 : pre.length ≤ 4 := by simp only [List.length_append, List.length_cons] at hn; omega
  have h3 : 2 ^ pre.length ≤ 2 ^ 4 := Nat.pow_le_pow_right (by decide) h2
  exact ⟨⟨fun x hx => by have := h1.le x hx; omega, by have := h1.num; omega⟩, h7 y (List.mem_append_right _ (List.mem_cons_self ..))⟩
theorem small_all {ps : List Str} (h : ∀ p ∈ ps, okPart p = true) (hn : ps.length ≤ 5) : (ps.foldl hstep [Str.ofString "c"]).length ≤ 32 := by
  have h1 := small_fold ps.length ps rfl (fun p hp => (okPart_fine (h p hp)).2)
  have h3 : 2 ^ ps.length ≤ 2 ^ 5 := Nat.pow_le_pow_right (by decide) hn
  have := h1.num
  omega
end Mine
namespace Mine
open PySem PySem.W PyProof.Rows PySem.Calls PySem.Spec
set_option maxRecDepth 100000
/-- the end of a turn of the law's loop over count: count a cell, two lists of texts grow -/
noncomputable def LEnd (h₀ : Heap) (L : Addr) (m₀ : Str → Option Value) (c e d : Addr) (es ds : List Str) (rest : List (Addr × Obj)) (I : Addr) (oI : Obj) (s₁ s₂ : Shared) : Prop :=
  ∃ h' tk oc v we ne wd nd, s₂ = { s₁ with heap := h', toks := tk } ∧ Fr h₀ L h' m₀ ∧ News h₀ L h' ((I, oI) :: (c, oc) :: (e, listOf (List.toArray we) ne) :: (d, listOf (List.toArray wd) nd) :: rest) ∧ oc.data = .cell v ∧ StrsAre we es ∧ StrsAre wd ds
noncomputable def LPost (h₀ : Heap) (L : Addr) (m₀ : Str → Option Value) (c e d : Addr) (es ds : List Str) (rest : List (Addr × Obj)) (I : Addr) (oI : Obj) (s₁ : Shared) (Q : Flow → Shared → Prop) (f : Flow) (s₂ : Shared) : Prop :=
  match f with
  | .ret v => Q (.ret v) s₂
  | .brk => Q .next s₂
  | _ => LEnd h₀ L m₀ c e d es ds rest I oI s₁ s₂
/-- what is left of a for behind its iterator -/
noncomputable def LoopAtC (prog : Program) (w : World) (A : Around) (env : Env) (x : Str) (px : Pos) (body : List Stmt) (Q : Flow → Shared → Prop) (E : Value → Shared → Prop) (it : Value) (s₂ : Shared) : Prop :=
  codeAny (model prog w) A (.forLoop (.Name x px) it body [] env) (fun r s' => match r with | .ok f => Q f s' | .error e => cameBackBy (model prog w) A env E e s') s₂
/-- what holds between the turns of the law's loop -/
noncomputable abbrev EInv (s : Shared) (I : Addr) (n : Nat) (h₀ : Heap) (L : Addr) (m₀ : Str → Option Value) (c e d : Addr) (rest : List (Addr × Obj)) (f g : Nat → List Str) (k : Nat) (s' : Shared) : Prop :=
  ∃ h' tk oc v we ne wd nd i, s' = { s with heap := h', toks := tk } ∧ IsRangeIter h' I (0 + (i : Nat) * 1) ((n : Int) - (i : Nat)) 1 ∧ Fr h₀ L h' m₀ ∧ News h₀ L h' ((c, oc) :: (e, listOf (List.toArray we) ne) :: (d, listOf (List.toArray wd) nd) :: rest) ∧ oc.data = .cell v ∧ StrsAre we (f i) ∧ StrsAre wd (g i) ∧ i ≤ n ∧ k = n + 1 - i
section
variable {prog : Program} {w : World} {A : Around} {E : Value → Shared → Prop} {s : Shared} {env : Env} {h₀ : Heap} {x : Str} {px : Pos} {body : List Stmt} {Q : Flow → Shared → Prop}
theorem For_cell {pos : Pos} {iter : Expr} (_hx : env.kindOf x = some .cell) (h : wpAny (model prog w) A (eval iter env) (fun xv s₁ => wpAny (model prog w) A (pyIter xv) (fun it s₂ => LoopAtC prog w A env x px body Q E it s₂) E s₁) E s)
    (hs : ∀ x, foldedSetIterable iter env x = pure x := by intro _; rfl) : wpAny (model prog w) A (exec (.For (.Name x px) iter body [] pos) env) Q E s :=
  wpAny_For (wpAny_mono h (fun _ _ h₁ => wpAny_mono h₁ (fun _ _ h₂ => h₂) fun _ _ e => e) fun _ _ e => e) hs

theorem ends_loop {r c e d : Addr} {b : Int} {n : Nat} {t₀ u₀ v₀ : Tok} {m₀ : Str → Option Value} {oc₀ : Obj} {v₁ : Option Value} {we₀ wd₀ : List Value} {ne₀ nd₀ : Nat} {rest : List (Addr × Obj)} (f g : Nat → List Str)
    (hh : A.handled = none) (hk : env.scope.kind = .function) (hx : env.kindOf x = some .cell) (hc : env.cells.lookup x = some c)
    (hr : IsRange s.heap r 0 b 1 t₀ u₀ v₀) (hb : b = (n : Int)) (hsm : n ≤ 1000)
    (F : Fr h₀ env.locals s.heap m₀) (N : News h₀ env.locals s.heap ((c, oc₀) :: (e, listOf we₀.toArray ne₀) :: (d, listOf wd₀.toArray nd₀) :: rest)) (hd : oc₀.data = .cell v₁)
    (hce : @Ne Nat e c) (hcd : @Ne Nat d c) (hcr : ∀ p ∈ rest, p.1 ≠ c) (hE0 : StrsAre we₀ (f 0)) (hD0 : StrsAre wd₀ (g 0))
    (turn : ∀ (i : Nat) t h tk I oI oc we ne wd nd, i < n → (∀ p ∈ (c, oc) :: (e, listOf (List.toArray we) ne) :: (d, listOf (List.toArray wd) nd) :: rest, p.1 < I) → oc.data = .cell (some (.int (i : Int) t)) → StrsAre we (f i) → StrsAre wd (g i) →
      Fr h₀ env.locals h m₀ → News h₀ env.locals h ((I, oI) :: (c, oc) :: (e, listOf (List.toArray we) ne) :: (d, listOf (List.toArray wd) nd) :: rest) →
      wpAny (model prog w) A (execs body env) (LPost h₀ env.locals m₀ c e d (f (i + 1)) (g (i + 1)) rest I oI { s with heap := h, toks := tk } Q) E { s with heap := h, toks := tk })
    (done : ∀ h tk oc v we ne wd nd, oc.data = .cell v → StrsAre we (f n) → StrsAre wd (g n) → Fr h₀ env.locals h m₀ → News h₀ env.locals h ((c, oc) :: (e, listOf (List.toArray we) ne) :: (d, listOf (List.toArray wd) nd) :: rest) → Q .next { s with heap := h, toks := tk })
    (hE : PassesOwn (model prog w) A env E := by passes_own) :
    wpAny (model prog w) A (pyIter (.ref r)) (fun it s₂ => LoopAtC prog w A env x px body Q E it s₂) E s := by
  subst hb
  have hrs : Builtin.Range.rangeSize 0 (n : Int) 1 = (n : Int) := by simpa using rangeSize_nat 0 (n : Int)
  refine wpAny_pyIter_range hr (small_one (by omega) (by omega) (by omega) (by omega)) ?_
  have W := Walks.range (prog := prog) (w := w) hh s.heap.objs.size 0 1 n
  generalize hI : s.heap.objs.size = I at W
  have hIn : h₀.get? I = none := hI ▸ next_is_new F
  have hIL : env.locals < I := hI ▸ F.ns.lt
  have hlt : ∀ p ∈ (c, oc₀) :: (e, listOf we₀.toArray ne₀) :: (d, listOf wd₀.toArray nd₀) :: rest, p.1 < I := fun p hp => hI ▸ Heap.lt_size (N p hp).1
  have hcI : c < I := hlt _ (List.mem_cons_self ..)
  have heI : e < I := hlt _ (List.mem_cons_of_mem _ (List.mem_cons_self ..))
  have hdI : d < I := hlt _ (List.mem_cons_of_mem _ (List.mem_cons_of_mem _ (List.mem_cons_self ..)))
  have hrI : ∀ p ∈ rest, p.1 < I := fun p hp => hlt _ (List.mem_cons_of_mem _ (List.mem_cons_of_mem _ (List.mem_cons_of_mem _ hp)))
  have hoI : ∀ oc we ne wd nd, ∀ p ∈ (c, oc) :: (e, listOf (List.toArray we) ne) :: (d, listOf (List.toArray wd) nd) :: rest, p.1 < I := by
    intro oc we ne wd nd p hp
    rcases List.mem_cons.mp hp with rfl | hp
    · exact hcI
    rcases List.mem_cons.mp hp with rfl | hp
    · exact heI
    rcases List.mem_cons.mp hp with rfl | hp
    · exact hdI
    exact hrI p hp
  refine codeAny_forLoop
    (EInv s I n h₀ env.locals m₀ c e d rest f g) ?_ (n + 1)
    ⟨s.heap.push { cls := .type "range_iterator", data := .fields #[rawInt 0, rawInt (Builtin.Range.rangeSize 0 (n : Int) 1), rawInt 1] }, s.toks, oc₀, v₁, we₀, ne₀, wd₀, nd₀, 0, rfl, by (rw [hrs]; subst hI; show IsRangeIter _ _ _ _ _; simpa using Heap.get?_push_size _ rfl), F.push _, fun p hp => ⟨Heap.get?_push_of_some _ (N p hp).1, (N p hp).2⟩, hd, hE0, hD0, Nat.zero_le _, rfl⟩
  rintro k s' ⟨h', tk, oc, v, we, ne, wd, nd, i, rfl, hst', F', N', hd', hwe, hwd, hi, rfl⟩
  have old : ∀ b o, h₀.get? b = some o → b ∉ [I] := fun b o e hb => by rw [List.mem_singleton.mp hb, hIn] at e; cases e
  have next : ∀ h₁ : Heap, (∀ b o, b ∉ [I] → h'.get? b = some o → h₁.get? b = some o) → Fr h₀ env.locals h₁ m₀ ∧ News h₀ env.locals h₁ ((c, oc) :: (e, listOf (List.toArray we) ne) :: (d, listOf (List.toArray wd) nd) :: rest) := fun h₁ hk₁ =>
    ⟨⟨F'.ns.at' fun o e => hk₁ _ o (fun hb => absurd hIL (by rw [List.mem_singleton.mp hb]; exact Nat.lt_irrefl _)) e, fun b o e => hk₁ b o (old b o e) (F'.keep b o e), F'.above⟩,
      fun p hp => ⟨hk₁ _ _ (fun hb => absurd (hoI oc we ne wd nd p hp) (by rw [List.mem_singleton.mp hb]; exact Nat.lt_irrefl _)) (N' p hp).1, (N' p hp).2⟩⟩
  by_cases hin : i < n
  · refine W.item i _ _ _ hin hst' fun v' h₁ tk₁ hP hst₁ hk₁ => ?_
    obtain ⟨F₁, N₁⟩ := next h₁ hk₁
    obtain ⟨t, rfl⟩ := hP
    have hcell := N₁ (c, oc) (List.mem_cons_self ..)
    refine wpAny_assign_Name (wpAny_storeName_cell hk hx hc ⟨oc, hcell.1, hd'⟩ fun h₂ hv₂ hs₂ => ?_)
    obtain ⟨oc₂, ho₂, hd₂⟩ := hv₂
    have F₂ : Fr h₀ env.locals h₂ m₀ := ⟨F₁.ns.sameBut hs₂ (Ne.symm hcell.2.1), fun b ob e => (hs₂.2 b (fun q => by rw [q, hcell.2.2] at e; cases e)).trans (F₁.keep b ob e), F₁.above⟩
    have N₂ : News h₀ env.locals h₂ ((c, oc₂) :: (e, listOf (List.toArray we) ne) :: (d, listOf (List.toArray wd) nd) :: rest) := News.setAt (own := []) (rest := (e, listOf (List.toArray we) ne) :: (d, listOf (List.toArray wd) nd) :: rest) N₁ (by simp) (by
      intro p hp
      rcases List.mem_cons.mp hp with rfl | hp
      · exact hce
      rcases List.mem_cons.mp hp with rfl | hp
      · exact hcd
      exact hcr p hp) hs₂ ho₂
    have hI₂ : h₂.get? I = h₁.get? I := hs₂.2 I (Nat.ne_of_gt hcI)
    have hst₂ : IsRangeIter h₂ I (0 + ((i + 1 : Nat) : Int) * 1) ((n : Int) - ((i + 1 : Nat) : Int)) 1 := hI₂.trans hst₁
    have N₃ := fun oI (hoI' : h₂.get? I = some oI) => (show News h₀ env.locals h₂ ((I, oI) :: (c, oc₂) :: (e, listOf (List.toArray we) ne) :: (d, listOf (List.toArray wd) nd) :: rest) from fun p hp => by
      rcases List.mem_cons.mp hp with rfl | hp
      · exact ⟨hoI', Nat.ne_of_gt hIL, hIn⟩
      · exact N₂ p hp)
    have e1 : (0 : Int) + (i : Int) * 1 = (i : Int) := by omega
    rw [e1] at hd₂
    refine wpAny_passesOwn hE (wpAny_mono (turn i t h₂ _ I _ oc₂ we ne wd nd hin (hoI _ _ _ _ _) hd₂ hwe hwd F₂ (N₃ _ hst₂)) (fun fl s₃ h₃ => ?_) fun _ _ e => e)
    cases fl with
    | ret v => exact h₃
    | brk => exact h₃
    | next =>
      obtain ⟨h₄, tk₄, oc₄, v₄, we₄, ne₄, wd₄, nd₄, rfl, F₄, N₄, hd₄, hwe₄, hwd₄⟩ := h₃
      exact ⟨n + 1 - (i + 1), by omega, h₄, tk₄, oc₄, v₄, we₄, ne₄, wd₄, nd₄, i + 1, rfl, (N₄ _ (List.mem_cons_self ..)).1, F₄, fun p hp => N₄ p (List.mem_cons_of_mem _ hp), hd₄, hwe₄, hwd₄, hin, rfl⟩
    | cont =>
      obtain ⟨h₄, tk₄, oc₄, v₄, we₄, ne₄, wd₄, nd₄, rfl, F₄, N₄, hd₄, hwe₄, hwd₄⟩ := h₃
      exact ⟨n + 1 - (i + 1), by omega, h₄, tk₄, oc₄, v₄, we₄, ne₄, wd₄, nd₄, i + 1, rfl, (N₄ _ (List.mem_cons_self ..)).1, F₄, fun p hp => N₄ p (List.mem_cons_of_mem _ hp), hd₄, hwe₄, hwd₄, hin, rfl⟩
  · have hin : i = n := by omega
    subst hin
    refine W.done _ _ _ hst' fun h₁ tk₁ hk₁ => wpAny_execs_nil ?_
    obtain ⟨F₁, N₁⟩ := next h₁ hk₁
    exact done h₁ tk₁ oc v we ne wd nd hd' hwe hwd F₁ N₁
/-- the law's loop over count: of the ledger there stay told's row, the parts, their cell and the code's table -/
theorem law_loop {r c e d T l pc tb : Addr} {b : Int} {n : Nat} {t₀ u₀ v₀ : Tok} {m₀ : Str → Option Value} {oc₀ opc otb : Obj} {v₁ : Option Value} {pw tw : List Value} {ne₀ nd₀ np nt : Nat} {news : List (Addr × Obj)} (f g : Nat → List Str)
    (hh : A.handled = none) (hk : env.scope.kind = .function) (hx : env.kindOf x = some .cell) (hc : env.cells.lookup x = some c) (hpc : env.cells.lookup (Str.ofString "parts") = some pc)
    (hr : IsRange s.heap r 0 b 1 t₀ u₀ v₀) (hb : b = (n : Int)) (hsm : n ≤ 1000)
    (F : Fr h₀ env.locals s.heap m₀) (N : News h₀ env.locals s.heap news) (he : m₀ (Str.ofString "ends") = some (.ref e)) (hdu : m₀ (Str.ofString "due") = some (.ref d)) (hT : m₀ (Str.ofString "told") = some (.ref T))
    (hmc : (c, oc₀) ∈ news) (hd : oc₀.data = .cell v₁) (hme : (e, listOf #[] ne₀) ∈ news) (hmd : (d, listOf #[] nd₀) ∈ news) (hmT : (T, listOf tw.toArray nt) ∈ news) (hmp : (pc, opc) ∈ news) (hdp : opc.data = .cell (some (.ref l))) (hml : (l, listOf pw.toArray np) ∈ news) (hmt : (tb, otb) ∈ news)
    (hord : @LT.lt Nat _ tb pc ∧ @LT.lt Nat _ pc c ∧ @LT.lt Nat _ c l ∧ @LT.lt Nat _ l T ∧ @LT.lt Nat _ T e ∧ @LT.lt Nat _ e d) (hE0 : f 0 = []) (hD0 : g 0 = [])
    (turn : ∀ (i : Nat) t h tk I oI oc we ne wd nd, (@LT.lt Nat _ tb pc ∧ @LT.lt Nat _ pc c ∧ @LT.lt Nat _ c l ∧ @LT.lt Nat _ l T ∧ @LT.lt Nat _ T e ∧ @LT.lt Nat _ e d) → i < n → (∀ p ∈ (c, oc) :: (e, listOf (List.toArray we) ne) :: (d, listOf (List.toArray wd) nd) :: [(T, listOf tw.toArray nt), (l, listOf pw.toArray np), (pc, opc), (tb, otb)], p.1 < I) → oc.data = .cell (some (.int (i : Int) t)) → StrsAre we (f i) → StrsAre wd (g i) →
      Fr h₀ env.locals h m₀ → News h₀ env.locals h ((I, oI) :: (c, oc) :: (e, listOf (List.toArray we) ne) :: (d, listOf (List.toArray wd) nd) :: [(T, listOf tw.toArray nt), (l, listOf pw.toArray np), (pc, opc), (tb, otb)]) →
      wpAny (model prog w) A (execs body env) (LPost h₀ env.locals m₀ c e d (f (i + 1)) (g (i + 1)) [(T, listOf tw.toArray nt), (l, listOf pw.toArray np), (pc, opc), (tb, otb)] I oI { s with heap := h, toks := tk } Q) E { s with heap := h, toks := tk })
    (done : ∀ h tk oc v we ne wd nd, (@LT.lt Nat _ tb pc ∧ @LT.lt Nat _ pc c ∧ @LT.lt Nat _ c l ∧ @LT.lt Nat _ l T ∧ @LT.lt Nat _ T e ∧ @LT.lt Nat _ e d) → oc.data = .cell v → StrsAre we (f n) → StrsAre wd (g n) → Fr h₀ env.locals h m₀ → News h₀ env.locals h ((c, oc) :: (e, listOf (List.toArray we) ne) :: (d, listOf (List.toArray wd) nd) :: [(T, listOf tw.toArray nt), (l, listOf pw.toArray np), (pc, opc), (tb, otb)]) → Q .next { s with heap := h, toks := tk })
    (hE : PassesOwn (model prog w) A env E := by passes_own) :
    wpAny (model prog w) A (pyIter (.ref r)) (fun it s₂ => LoopAtC prog w A env x px body Q E it s₂) E s := by
  obtain ⟨o1, o2, o3, o4, o5, o6⟩ := id hord
  have h1 : @Ne Nat e c := Nat.ne_of_gt (Nat.lt_trans o3 (Nat.lt_trans o4 o5))
  have h2 : @Ne Nat d c := Nat.ne_of_gt (Nat.lt_trans o3 (Nat.lt_trans o4 (Nat.lt_trans o5 o6)))
  have h3 : @Ne Nat T c := Nat.ne_of_gt (Nat.lt_trans o3 o4)
  have h4 : @Ne Nat l c := Nat.ne_of_gt o3
  have h5 : @Ne Nat pc c := Nat.ne_of_lt o2
  have h6 : @Ne Nat tb c := Nat.ne_of_lt (Nat.lt_trans o1 o2)
  refine ends_loop (c := c) (e := e) (d := d) (we₀ := []) (wd₀ := []) (ne₀ := ne₀) (nd₀ := nd₀) (rest := [(T, listOf tw.toArray nt), (l, listOf pw.toArray np), (pc, opc), (tb, otb)]) f g hh hk hx hc hr hb hsm F (fun p hp => N p ?_) hd h1 h2 ?_ (hE0 ▸ .nil) (hD0 ▸ .nil) (fun i t h tk I oI oc we ne wd nd => turn i t h tk I oI oc we ne wd nd hord) (fun h tk oc v we ne wd nd => done h tk oc v we ne wd nd hord) hE
  · simp only [List.mem_cons, List.not_mem_nil, or_false] at hp
    rcases hp with rfl | rfl | rfl | rfl | rfl | rfl | rfl <;> assumption
  · intro p hp
    simp only [List.mem_cons, List.not_mem_nil, or_false] at hp
    rcases hp with rfl | rfl | rfl | rfl <;> assumption
/-- a comprehension over range with a test, whose elements are texts -/
theorem comp_rt {L : Addr} {m : Str → Option Value} {ct elt : Expr} {scope : Scope} {cl : List (Str × Addr)} {S : List (Addr × Obj) → Prop} {Fin : List Value → List (Addr × Obj) → Prop} {news : List (Addr × Obj)} {n : Nat} (sel : Nat → Bool) (g : Nat → Str)
    (turn : ∀ (k : Nat) t I oI C oC D m₂ ys h tk (E' : Value → Shared → Prop), k < n → LCg.NsObj oC m₂ → m₂ x = some (.int (k : Int) t) → Fr h₀ L h m → News h₀ L h ((I, oI) :: (C, oC) :: (D, LCg.lst ys) :: news) → LCg.Off3 I C D news → ((@Ne Nat I C) ∧ (@Ne Nat I D) ∧ (@Ne Nat C D)) → KPfMark →
      wpAny (model prog w) A (isTrue ct (compEnvC scope cl C env) (eval ct (compEnvC scope cl C env))) (fun b s' => if b = true then wpAny (model prog w) A (eval elt (compEnvC scope cl C env)) (LCg.CompEnd h₀ L m { s with heap := h, toks := tk } I oI C oC D (LCg.lst ys) S (fun y news' => ElT news (sel k) (g k) y news')) E' s'
        else LCg.CompEnd h₀ L m { s with heap := h, toks := tk } I oI C oC D (LCg.lst ys) S (fun _ news' => ElF news (sel k) news') Value.none s') E' { s with heap := h, toks := tk })
    (fin : ∀ ys, StrsAre ys (((List.range n).filter sel).map g) → Fin ys news) : LCt.CompRestT prog w A h₀ L m env ct elt x scope cl s S (fun i v => ∃ t, v = .int (0 + (i : Int)) t) Fin n 0 [] news :=
  comp_test (fun (k : Nat) v => IsI (k : Int) v) sel g (src_range n).1 (src_range n).2 (fun k v I oI C oC D m₂ ys h tk E' hk hv hC hx F N off ne => by
    obtain ⟨t, rfl⟩ := hv
    exact turn k t I oI C oC D m₂ ys h tk E' (List.mem_range.mp hk) hC hx F N off ne kpfMark) fin
end
end Mine
namespace Mine
open PySem PySem.W PyProof.Rows PySem.Calls
set_option maxRecDepth 100000
theorem strs_rev : ∀ {vs : List Value} {xs : List Str}, StrsAre vs xs → StrsAre vs.reverse xs.reverse
  | _, _, .nil => .nil
  | _, _, .cons m t h => by rw [List.reverse_cons, List.reverse_cons]; exact strsAre_append (strs_rev h) (.cons m t .nil)
section
variable {prog : Program} {w : World} {A : Around} {E : Value → Shared → Prop} {s : Shared} {h₀ : Heap} {L a : Addr} {m : Str → Option Value} {news : List (Addr × Obj)} {n : Nat} {vs : List Value} {xs : List Str}
theorem txt_len {Q : Value → Shared → Prop} (N : News h₀ L s.heap news) (hm : (a, listOf vs.toArray n) ∈ news) (hi : StrsAre vs xs) (hb : xs.length ≤ 1000)
    (h : ∀ t tk, Q (.int xs.length t) { s with toks := tk }) : wpAny (model prog w) A (call (.builtin "len") [.ref a]) Q E s := by
  have e : vs.toArray.size = xs.length := by rw [List.size_toArray, hi.length]
  refine PyProof.Rows.len_list (txt_isl N hm) (by rw [e]; omega) ?_
  rw [e]
  exact h _ _
theorem txt_at {value slice : Expr} {k : Int} {u : Tok} {Q : Value → Shared → Prop} (N : News h₀ L s.heap news) (hm : (a, listOf vs.toArray n) ∈ news) (hi : StrsAre vs xs) (h0 : 0 ≤ k) (hk : k < xs.length) (hb : xs.length ≤ 1000)
    (h : ∀ t, Q (.str (xs.getD k.toNat Str.empty) t) s)
    (hs : subscripted slice false (.ref a) (.int k u) = operate [.ref a, .int k u] (getItem (.ref a) (.int k u)) := by with_unfolding_all rfl) :
    wpAny (model prog w) A (subscriptTail value slice (.ref a) (.int k u)) Q E s := by
  have hlt : k.toNat < vs.length := by rw [hi.length]; omega
  obtain ⟨y, t, e, hy⟩ := strs_get hi (List.getElem?_eq_getElem hlt)
  refine tail_any (txt_isl N hm).typeIs slot_list_getitem.lookup (wpAny_getItem_list (txt_isl N hm) h0 (by omega) (x := .str y t) (by simp [hlt, e]) ?_) hs
  have := h t
  rwa [show xs.getD k.toNat Str.empty = y by simp [List.getD, hy]] at this
theorem txt_slice {value slice : Expr} {vl vu vk : Value} {lo hi st : Option Int} {ops : List Value} {Q : Value → Shared → Prop} (F : Fr h₀ L s.heap m) (N : News h₀ L s.heap news) (hm : (a, listOf vs.toArray n) ∈ news) (pl : IsPart vl lo) (pu : IsPart vu hi) (pk : IsPart vk st) (h0 : st ≠ some 0)
    (hsz : vs.length ≤ sizeLine)
    (h : ∀ D h', Fr h₀ L h' m → News h₀ L h' ((D, listOf (slicePick vs.toArray lo hi st) 0) :: news) → (∀ p ∈ news, p.1 < D) → Q (.ref D) { s with heap := h' })
    (hs : subscripted slice false (.ref a) (.ref s.heap.objs.size) = operate ops (getItem (.ref a) (.ref s.heap.objs.size))) :
    wpAny (model prog w) A (subscriptTail value slice (.ref a) (.ref s.heap.objs.size)) Q E { s with heap := s.heap.push { cls := .type "slice", data := .fields #[vl, vu, vk] } } := by
  have hl := txt_isl N hm
  refine tail_any (Heap.IsList.typeIs (s := { s with heap := s.heap.push { cls := .type "slice", data := .fields #[vl, vu, vk] } }) (hl.push _)) slot_list_getitem.lookup
    (wpAny_getItem_list_slice (hl.push _) (Heap.IsSliceOf.new ..) pl pu pk h0 ?_ (by rw [List.size_toArray]; exact hsz)) hs
  have N1 := News.push (F.push { cls := .type "slice", data := .fields #[vl, vu, vk] }) (N.grown fun _ _ e => Heap.get?_push_of_some _ e) { cls := .type "list", data := .seq (slicePick vs.toArray lo hi st) }
  rw [Heap.size_push] at N1
  show Q (.ref (s.heap.push _).objs.size) _
  rw [Heap.size_push]
  exact h _ _ ((F.push _).push _) N1 fun p hp => Nat.lt_succ_of_lt (Heap.lt_size (N p hp).1)
theorem txt_from {value slice : Expr} {k : Int} {u : Tok} {ops : List Value} {Q : Value → Shared → Prop} (F : Fr h₀ L s.heap m) (N : News h₀ L s.heap news) (hm : (a, listOf vs.toArray n) ∈ news) (hi : StrsAre vs xs) (h0 : 0 ≤ k) (hb : xs.length ≤ 1000)
    (h : ∀ D ws h', Fr h₀ L h' m → News h₀ L h' ((D, listOf (List.toArray ws) 0) :: news) → (∀ p ∈ news, p.1 < D) → StrsAre ws (xs.drop k.toNat) → Q (.ref D) { s with heap := h' })
    (hs : subscripted slice false (.ref a) (.ref s.heap.objs.size) = operate ops (getItem (.ref a) (.ref s.heap.objs.size))) :
    wpAny (model prog w) A (subscriptTail value slice (.ref a) (.ref s.heap.objs.size)) Q E { s with heap := s.heap.push { cls := .type "slice", data := .fields #[.int k u, .none, .none] } } := by
  refine txt_slice F N hm (.int k u) .none .none (by decide) (by rw [sizeLine_eq, hi.length]; omega) (fun D h' F' N' l1 => h D ((vs.drop (kms_lo (some k) vs.length)).take (vs.length - kms_lo (some k) vs.length)) h' F' ?_ l1 ?_) hs
  · rw [kms_pick_eq] at N'
    simpa [kms_pick, kms_hi] using N'
  · rw [List.take_of_length_le (by rw [List.length_drop]; omega)]
    unfold kms_lo
    simp only [if_neg (show ¬ (k < 0) by omega), kmk_drop_min]
    exact hi.drop' _
theorem txt_to {value slice : Expr} {k : Int} {u : Tok} {ops : List Value} {Q : Value → Shared → Prop} (F : Fr h₀ L s.heap m) (N : News h₀ L s.heap news) (hm : (a, listOf vs.toArray n) ∈ news) (hi : StrsAre vs xs) (h0 : 0 ≤ k) (hb : xs.length ≤ 1000)
    (h : ∀ D ws h', Fr h₀ L h' m → News h₀ L h' ((D, listOf (List.toArray ws) 0) :: news) → (∀ p ∈ news, p.1 < D) → StrsAre ws (xs.take k.toNat) → Q (.ref D) { s with heap := h' })
    (hs : subscripted slice false (.ref a) (.ref s.heap.objs.size) = operate ops (getItem (.ref a) (.ref s.heap.objs.size))) :
    wpAny (model prog w) A (subscriptTail value slice (.ref a) (.ref s.heap.objs.size)) Q E { s with heap := s.heap.push { cls := .type "slice", data := .fields #[.none, .int k u, .none] } } := by
  refine txt_slice F N hm .none (.int k u) .none (by decide) (by rw [sizeLine_eq, hi.length]; omega) (fun D h' F' N' l1 => h D (vs.take (kms_hi (some k) vs.length)) h' F' ?_ l1 ?_) hs
  · rw [kms_pick_eq] at N'
    simpa [kms_pick, kms_lo] using N'
  · unfold kms_hi
    simp only [if_neg (show ¬ (k < 0) by omega), kmk_take_min]
    exact hi.take' _
theorem txt_rev {value slice : Expr} {u : Tok} {ops : List Value} {Q : Value → Shared → Prop} (F : Fr h₀ L s.heap m) (N : News h₀ L s.heap news) (hm : (a, listOf vs.toArray n) ∈ news) (hi : StrsAre vs xs) (hb : xs.length ≤ 1000)
    (h : ∀ D ws h', Fr h₀ L h' m → News h₀ L h' ((D, listOf (List.toArray ws) 0) :: news) → (∀ p ∈ news, p.1 < D) → StrsAre ws xs.reverse → Q (.ref D) { s with heap := h' })
    (hs : subscripted slice false (.ref a) (.ref s.heap.objs.size) = operate ops (getItem (.ref a) (.ref s.heap.objs.size))) :
    wpAny (model prog w) A (subscriptTail value slice (.ref a) (.ref s.heap.objs.size)) Q E { s with heap := s.heap.push { cls := .type "slice", data := .fields #[.none, .none, .int (-1) u] } } := by
  refine txt_slice F N hm .none .none (.int (-1) u) (by decide) (by rw [sizeLine_eq, hi.length]; omega) (fun D h' F' N' l1 => h D vs.reverse h' F' ?_ l1 (strs_rev hi)) hs
  rw [krv_pick] at N'
  simpa using N'
end
end Mine
namespace Mine
open PySem PySem.W PyProof.Rows PySem.Calls PySem.Spec
set_option maxRecDepth 100000
section
variable {prog : Program} {w : World} {A A₀ : Around} {s : Shared} {K : Frag} {L : Addr} {h₀ base : Heap} {m mg mb : Str → Option Value} {news : List (Addr × Obj)} {p : Program} {loose : List Str} {mean : ExcName → Option Value}
/-- a lambda with cells of its own is called -/
theorem lam_codeC {env : Env} {outer : List Env} {R : Result → Shared → Prop} {name qual : Str} {params : Arguments} {body : Expr} {scope : Scope} {pm ctv : Value} {c' : Addr} {f : Addr} {args : Args} {binds : List (Str × Value)}
    (B : Below A₀ base outer h₀) (F : Fr h₀ L s.heap m) (X₀ : K.In h₀) (N : News h₀ L s.heap news) (T : Top p loose mean mg mb h₀) (hA : A.frames = some (env :: outer)) (hf : env.frame = some L) (hke : env.scope.kind = .function)
    (ho : (f, kla_obj name qual params body scope [] pm c' ctv) ∈ news) (hcd : s.heap.CodeRec (.ref c') qual) (hroom : A.depth < recursionLimit)
    (hbind : bindArgs (kla_fn name qual params body scope [] pm (.ref c') ctv) args = pure binds) (hkind : (binds.all fun y => scope.names.lookup y.1 == some .local || scope.names.lookup y.1 == some .cell) = true)
    (hnd : ((cellsFrom 0 scope.names []).map (·.1)).Nodup)
    (h : ∀ g L' h₁ tk cells, Fr h₀ L g m → Fr g L' h₁ (bindL (envOfC qual scope L' f (.ref c')).kindOf binds fun _ => none) → News g L' h₁ (cells ++ news) →
      CellsAre (bindC (envOfC qual scope L' f (.ref c')).kindOf binds fun _ => none) (cellsFrom (L' + 1) scope.names []) cells → Below A base (env :: outer) g → K.In g → Top p loose mean mg mb g → (∀ p ∈ news, p.1 < L') →
      wpAny (model prog w) (A.deeper (envOfC qual scope L' f (.ref c'))) (eval body (envOfC qual scope L' f (.ref c')))
        (fun v s' => LeaveK h₀ L m g R v s')
        (fun e s' => wpAny (model prog w) (A.deeper (envOfC qual scope L' f (.ref c'))) (leaving (envOfC qual scope L' f (.ref c')) e) (fun _ s'' => R (.error e) s'') (fun e' s'' => R (.error e') s'') s')
        { s with heap := h₁, toks := tk })
    (hco : scope.isCoroutine = false) (hgen : scope.isGenerator = false) (hk : scope.kind = .function) : codeAny (model prog w) A (.call (.ref f) args) R s := by
  obtain ⟨FG, BG, st, lv⟩ := groundX (R := R) B F N hA hf hke
  refine kla_callFunE hroom (N _ ho).1 rfl hco hgen rfl hcd ?_
  rw [hbind]
  refine wpAny_pure (wpAny_newFunctionEnv_cells hk (kindsX hkind _) fun env' he s' x => ?_)
  subst he
  refine ⟨((T.nolimit).keeps F.keep).keeps x.toInCall.keep, ?_⟩
  obtain ⟨h₁, tk, rfl, _⟩ := x.done
  have hk₁ := x.toInCall.keep
  obtain ⟨cells, NC, Y⟩ := Cl.news (h₀ := s.heap) (Nat.le_refl _) fun n c hm => ⟨x.cell n c (lookup_of_mem_nodup (cellsFrom_names scope.names 0 (s.heap.objs.size + 1) [] [] rfl ▸ hnd) hm), x.above n c hm⟩
  refine kla_codeExpr (wpAny_mono (h _ s.heap.objs.size h₁ tk cells FG ⟨x.toInCall.ns, fun b o e => hk₁ b o (of_hideAll _ e), Nat.le_of_eq (hideAll_size _ _)⟩ (fun p hp => ?_) Y BG (X₀.keeps st) (T.keeps st) (fun p hp => Heap.lt_size (N p hp).1)) (fun v s' hl => lv _ _ hl) fun _ _ y => y)
  rcases List.mem_append.mp hp with hp | hp
  · refine ⟨(NC p hp).1, (NC p hp).2.1, ?_⟩
    cases q : (hideAll s.heap (news.map (·.1))).get? p.1 with
    | none => rfl
    | some o => have := of_hideAll _ q; rw [(NC p hp).2.2] at this; cases this
  · exact ⟨hk₁ _ _ (N p hp).1, Nat.ne_of_lt (Heap.lt_size (N p hp).1), hideAll_none _ (List.mem_map_of_mem hp)⟩
end
/-- the law's lambda, read off the program -/
noncomputable def bodyOf : Stmt → List Stmt
  | .FunctionDef _ _ b _ _ _ _ _ _ _ => b
  | _ => []
noncomputable def valOf : Stmt → Expr
  | .Assign _ (.Call _ (e :: _) _ _) _ => e
  | _ => .Constant .none 0 default
noncomputable def lamE : Expr := valOf ((bodyOf (PySem.Challenge.rw_ik0183_01.prog.main.body.getLastD (.Pass default))).getD 2 (.Pass default))
structure LamAt (f c' : Addr) (qual : Str) (P : Arguments) (B : Expr) (S : Scope) (pm ctv : Value) (oc : Obj) (vs : Array Value) (t : Tok) (news : List (Addr × Obj)) : Prop where
  fn : (f, kla_obj "<lambda>" qual P B S [] pm c' ctv) ∈ news
  code : (c', oc) ∈ news
  data : oc.data = .fields vs
  name : vs[1]? = some (.str qual t)
theorem LamAt.codeRec {f c' : Addr} {qual : Str} {P : Arguments} {B : Expr} {S : Scope} {pm ctv : Value} {oc : Obj} {vs : Array Value} {t : Tok} {news : List (Addr × Obj)} {h₀ h : Heap} {L : Addr} (l : LamAt f c' qual P B S pm ctv oc vs t news) (N : News h₀ L h news) : h.CodeRec (.ref c') qual := codeRec_news N l.code l.data l.name
theorem LamAt.sub {f c' : Addr} {qual : Str} {P : Arguments} {B : Expr} {S : Scope} {pm ctv : Value} {oc : Obj} {vs : Array Value} {t : Tok} {news news' : List (Addr × Obj)} (l : LamAt f c' qual P B S pm ctv oc vs t news) (h : ∀ p ∈ news, p ∈ news') : LamAt f c' qual P B S pm ctv oc vs t news' := ⟨h _ l.fn, h _ l.code, l.data, l.name⟩
/-- list of a dict whose keys are texts -/
theorem list_of_dict {prog : Program} {w : World} {A : Around} {E : Value → Shared → Prop} {s : Shared} {h₀ : Heap} {L D : Addr} {m : Str → Option Value} {news : List (Addr × Obj)} {o : Obj} {xs : List Str} {Q : Value → Shared → Prop} (hh : A.handled = none) (F : Fr h₀ L s.heap m) (N : News h₀ L s.heap news) (hm : (D, o) ∈ news)
    (hd : o.IsDictOf (PySem.strKind prog w) (xs.map fun x => (x, Value.none))) (hlim : h₀.NoLimit) (hLD : @LT.lt Nat _ L D) (hb : xs.length ≤ 1000)
    (h : ∀ B ws c h' tk, Fr h₀ L h' m → News h₀ L h' ((B, listOf (List.toArray ws) c) :: news) → (∀ q ∈ news, q.1 < B) → StrsAre ws xs → Q (.ref B) { s with heap := h', toks := tk }) :
    wpAny (model prog w) A (call (.type "list") [.ref D]) Q E s := by
  obtain ⟨ep, hat⟩ := (kda_dict N hm hd).dictAt
  have lo : (D == sysModules) = false := by
    have h1 := modules_low hlim
    have h2 := F.above
    rw [beq_eq_false_iff_ne]
    intro e
    subst e
    exact absurd (Nat.lt_of_lt_of_le h1 h2) (Nat.not_lt.mpr (Nat.le_of_lt hLD))
  refine kdl_N (kdl_dict (knd := PySem.strKind prog w) (kvs := xs.map fun x => (x, Value.none)) (ep := ep) lo) hh F N hat (kdl_size (by rw [List.length_map]; omega)) fun B c h' tk vs F' N' l1 hl hv => h B vs c h' tk F' N' l1 ?_
  rw [List.length_map] at hl
  have key : ∀ (vs : List Value) (xs : List Str), vs.length = xs.length → (∀ (j : Nat) (v : Value), vs[j]? = some v → ∃ (x : Str) (t : Tok), xs[j]? = some x ∧ v = Value.str x t) → StrsAre vs xs := by
    intro vs
    induction vs with
    | nil => intro xs hl _; cases xs with
      | nil => exact .nil
      | cons _ _ => simp at hl
    | cons v vs ih => intro xs hl hv; cases xs with
      | nil => simp at hl
      | cons x xs =>
        obtain ⟨x', t, hx, e⟩ := hv 0 v rfl
        simp at hx
        subst hx; subst e
        exact .cons _ _ (ih xs (by simpa using hl) fun j u hu => by simpa using hv (j + 1) u (by simpa using hu))
  refine key vs xs hl fun j v hj => ?_
  obtain ⟨k, x, hx, hk⟩ := hv j v hj
  obtain ⟨t, rfl⟩ := Value.isStrOf_shape hk
  rw [List.getElem?_map] at hx
  cases hxj : xs[j]? with
  | none => rw [hxj] at hx; cases hx
  | some y =>
    rw [hxj] at hx
    simp at hx
    exact ⟨_, t, rfl, by rw [hx.1]⟩
end Mine
namespace Mine
open PySem PySem.W PyProof.Rows PySem.Calls
set_option maxRecDepth 100000

structure MarkP (y : Str) : Prop where
  le : y.length ≤ 7
noncomputable abbrev partV {y : Str} (_ : MarkP y) : Str := y
local macro_rules | `(tactic| k_mem) => `(tactic| assumption)



theorem txt_addS {prog : Program} {w : World} {A : Around} {E : Value → Shared → Prop} {s : Shared} {h₀ : Heap} {L : Addr} {m : Str → Option Value} {news : List (Addr × Obj)} {a b : Addr} {vs ws : List Value} {n k : Nat} {xs ys : List Str} {Q : Value → Shared → Prop} (F : Fr h₀ L s.heap m) (N : News h₀ L s.heap news) (hm : (a, listOf vs.toArray n) ∈ news) (hk : (b, listOf ws.toArray k) ∈ news) (hi : StrsAre vs xs) (hj : StrsAre ws ys) (hsz : xs.length + ys.length ≤ 1000)
    (h : ∀ D zs h', Fr h₀ L h' m → News h₀ L h' ((D, listOf (List.toArray zs) 0) :: news) → (∀ p ∈ news, p.1 < D) → StrsAre zs (xs ++ ys) → Q (.ref D) { s with heap := h' }) :
    wpAny (model prog w) A (binaryOp .Add (.ref a) (.ref b)) Q E s :=
  txt_add F N hm hk (by rw [hi.length, hj.length, sizeLine_eq]; omega) fun D h' F' N' l1 => h D _ h' F' N' l1 (strsAre_append hi hj)


set_option maxHeartbeats 8000000 in
theorem c_lam (w : World) (f c' : Addr) (qual : Str) (P : Arguments) (B : Expr) (S : Scope) (pos : Pos) (pm ctv : Value) (oc : Obj) (vs : Array Value) (t : Tok) (hE : lamE = .Lambda P B S pos) (l : Addr) (ws : List Value) (n : Nat) (xs : List Str) (y : Str) (ty : Tok) :
    Dfl w f 12 (fun news => LamAt f c' qual P B S pm ctv oc vs t news ∧ (l, listOf ws.toArray n) ∈ news ∧ StrsAre ws xs ∧ Small 288 16 xs ∧ y.length ≤ 7) [.ref l, .str y ty] (fun h₀ L m news s Q => ListRet h₀ L m news s Q (hstep xs y)) := by
  conv at hE => lhs; whnf
  cases hE
  unfold Dfl
  w_top off
  k_fill
  intros
  rename_i hkf hpre hdp hun hret
  obtain ⟨hLam, hm, hi, hsm, hy⟩ := hpre
  have hnum := hsm.num
  have hlen := hi.length
  have hy' : y.length ≤ 300 := by omega
  have hMP := MarkP.mk hy
  have hM := kstMark
  refine wpAny_call ?_
  k_dflt (refine' lam_codeC ?k1 ?k2 ?k3 ?k4 ?k5 ?kA ?kF ?kK ?k6 ?k7 ?k8 ?k9 ?kB ?kD ?_ ?c2 ?c3 ?c4; (case kA => exact rfl); (case kF => exact rfl); (case kK => exact hkf); (case k1 => k_asm); (case k2 => k_asm); (case k3 => k_asm); (case k4 => k_asm); (case k5 => k_asm); (case k6 => exact hLam.fn); (case k7 => exact hLam.codeRec (by assumption)); (case k8 => ktr_room); (case k9 => exact rfl); (case kB => exact rfl); (case kD => decide +kernel); (case c2 => exact rfl); (case c3 => exact rfl); (case c4 => exact rfl); k_whole; intro g' L' h' tk' cells' FG' F' N' Y' B' X' T' l1; (try k_lt l1); k_cells Y'; (try simp only [List.cons_append, List.nil_append] at N'); (try dsimp only); (try k_lift B'); (try k_fold))
  k_with_none
  (k_with "call ref" => ((k_here; (with_reducible show wpAny _ _ (call (Value.ref 146) [Value.str _ _, Value.str _ _]) _ _ _); k_dflt (refine' c_join _ _ _ _ _ _ _ _ _ _ _ _ _ _ _ _ _ _ _ _ _ _ _ _ _ _ _ ?k1c_join ?k2c_join ?k3c_join ?k4c_join ?k5c_join ?kKc_join ?kpc_join ?kdc_join ?kuc_join ?_); (case k1c_join => k_asm); (case k2c_join => k_asm); (case k3c_join => k_asm); (case k4c_join => k_asm); (case k5c_join => k_asm); (case kKc_join => exact rfl); (case kpc_join => (constructor <;> first | assumption | omega)); (case kdc_join => ktr_room); (case kuc_join => ktr_units); intro t9 h9 tk9 F9 N9; (try dsimp only); (try k_fold))))
  (k_with "call ref" => ((k_here; (with_reducible show wpAny _ _ (call (Value.ref 160) [Value.str _ _]) _ _ _); k_dflt (refine' c_normpath _ _ _ _ _ _ _ _ _ _ _ _ _ _ _ _ _ _ _ _ _ _ _ _ _ ?k1c_normpath ?k2c_normpath ?k3c_normpath ?k4c_normpath ?k5c_normpath ?kKc_normpath ?kpc_normpath ?kdc_normpath ?kuc_normpath ?_); (case k1c_normpath => k_asm); (case k2c_normpath => k_asm); (case k3c_normpath => k_asm); (case k4c_normpath => k_asm); (case k5c_normpath => k_asm); (case kKc_normpath => exact rfl); (case kpc_normpath => exact Nat.le_trans (join_len _ _) (by omega)); (case kdc_normpath => ktr_room); (case kuc_normpath => ktr_units); intro t9 h9 tk9 F9 N9; (try dsimp only); (try k_fold))))
  (k_with "CompSrc" => ((k_here; (with_reducible show LCg.CompSrc _ _ _ _ _ _ _ _ (Str.ofString "place") _ _ _ _ _); (rename Small _ _ _ => hSm9'); k_dflt (refine LCg.CompSrc.ledger (by rfl) (by k_asm) (by k_asm) (by k_mem) (by (rw [sizeLine_eq]; simp only [List.size_toArray]; omega)) ?_); intro g'; (rename StrsAre _ _ => hI9'); (rename MarkP _ => hMP9'); (refine' comp_strs (fun x => npF (joinF x (partV hMP9'))) hI9' ?tC1 ?fC1); (case' fC1 => (intro ys' hS'; (try dsimp only [partV] at hS'); (try k_fold))); (case' tC1 => (intro k' t' I' oI' C' oC' D' m' ys' h' tk' E' hk' hC' hx' F' N' off' ne' hMark'; (have hle9' := Small.le hSm9' _ hk'); (have hle8' := Nat.le_trans hle9' (show 288 ≤ 300 by decide)); (try (simp only [LCg.Off3, and_true] at off')); (try k_fold))))))
  (k_with "CompEnd" => ((refine LCg.CompEnd.intro (by assumption) (by assumption) _ ?ceS ?ceO ?ceR ⟨rfl, _, rfl⟩; (case ceS => kcf_all); (case ceO => first | assumption | (simp only [LCg.Off3, and_true]; done) | (simp only [LCg.Off3, and_true]; assumption)); (case ceR => first | lcg_src | assumption))))
  (k_with "call ref" => ((k_here; (with_reducible show wpAny _ _ (call (Value.ref 29) [Value.ref _]) _ _ _); k_dflt (refine' c_dedup _ _ _ _ _ _ _ _ _ _ _ _ _ _ _ _ _ _ _ _ _ _ _ _ _ _ _ ?k1dd ?k2dd ?k3dd ?k4dd ?k5dd ?kKdd ?kpdd ?kddd ?kudd ?_); (case k1dd => k_asm); (case k2dd => k_asm); (case k3dd => k_asm); (case k4dd => k_asm); (case k5dd => k_asm); (case kKdd => exact rfl); (case kpdd => (refine ⟨by k_mem, ?_, ?_⟩; assumption; (simp only [List.length_append, List.length_map]; omega))); (case kddd => ktr_room); (case kudd => ktr_units); intro D' o' h' tk' F' N' l1 hD'; (try k_lt l1); (try dsimp only); (try k_fold))))
  (k_with "binaryOp Add ref ref" => ((k_here; (with_reducible show wpAny _ _ (binaryOp Operator.Add (Value.ref _) (Value.ref _)) _ _ _); k_dflt (refine' txt_addS ?fad ?nad ?mad ?kad ?iad ?jad ?zad ?_; (case fad => k_asm); (case nad => k_asm); (case mad => k_mem); (case kad => k_mem); (case iad => assumption); (case jad => assumption); (case zad => (simp only [List.length_map]; omega))); intro D' zs' h' F' N' l1 hS'; (try k_lt l1))))
  (k_with "call type:list" => ((k_here; (with_reducible show wpAny _ _ (call (Value.type "list") [Value.ref _]) _ _ _); (rename Obj.IsDictOf _ _ _ => hD9'); k_dflt (refine' list_of_dict ?hld ?fld ?nld ?mld hD9' ?lld ?dld ?bld ?_; (case hld => rfl); (case fld => k_asm); (case nld => k_asm); (case mld => k_mem); (case lld => exact Top.nolimit (by assumption)); (case dld => omega); (case bld => (refine Nat.le_trans (dedup_num _) ?_; simp only [List.length_append, List.length_map]; omega))); intro B' ws' c' h' tk' F' N' l1 hS'; (try k_lt l1))))
  w_strict k_steps
  all_goals (refine' list_drop hret ?F ?N ?D ?s ?l ?d; (case F => k_asm); (case N => assumption); (case D => exact List.mem_cons_self ..); (case s => exact fun p hp => List.mem_cons_of_mem _ (List.mem_cons_of_mem _ (List.mem_cons_of_mem _ (List.mem_cons_of_mem _ (List.mem_cons_of_mem _ hp))))); (case d => assumption); (case l => (rename _ ∧ _ ∧ _ ∧ _ ∧ AllLt _ _ => hl9); exact kst_ltOf hl9.2.2.2.2))
end Mine
namespace Mine
open PySem PySem.W PyProof.Rows PySem.Calls PySem.Spec
set_option maxRecDepth 100000
noncomputable def litObj (l : Addr) : Obj := { cls := .type "list_iterator", data := .fields #[.ref l, .int 0 0] }
section
variable {prog : Program} {w : World} {A : Around} {E : Value → Shared → Prop} {s : Shared} {env : Env} {h₀ : Heap} {x : Str} {body : List Stmt} {Q : Flow → Shared → Prop} {L : Addr} {m : Str → Option Value} {news : List (Addr × Obj)}
theorem iter_list {l : Addr} {vs : List Value} {n : Nat} {Q : Value → Shared → Prop} (F : Fr h₀ L s.heap m) (N : News h₀ L s.heap news) (hp : (l, listOf vs.toArray n) ∈ news)
    (h : ∀ (I : Addr) h', Fr h₀ L h' m → News h₀ L h' ((I, litObj l) :: news) → (∀ p ∈ news, p.1 < I) → Q (.ref I) { s with heap := h' }) :
    wpAny (model prog w) A (call (.builtin "iter") [.ref l]) Q E s := by
  refine call_function_entry (by decide +kernel) (by decide +kernel) kdk_entry_iter (kdk_args_iter _) ?_
  unfold Builtin.«iter»
  refine wpAny_bind (m := someArgs "iter" 1 2 _) (wpAny_of_eq (a := [Value.ref l]) (by first | rfl | kernel_rfl!) ?_)
  show wpAny _ _ (pyIter (.ref l) >>= _) _ _ _
  refine wpAny_bind (wpAny_pyIter_list (txt_isl N hp) ?_)
  exact wpAny_pure ⟨_, rfl, h _ _ (F.push _) (News.push F N _ rfl) (fun q hq => Heap.lt_size (N q hq).1)⟩
noncomputable def RedEnd (x val : Str) (m₀ : Str → Option Value) (rest : List (Addr × Obj)) (xs : List Str) (m' : Str → Option Value) (nx : List (Addr × Obj)) : Prop :=
  ∃ D ws n, nx = (D, listOf (List.toArray ws) n) :: rest ∧ (∀ p ∈ rest, p.1 < D) ∧ StrsAre ws xs ∧ m' val = some (.ref D) ∧ ∀ z, z ≠ x → z ≠ val → m' z = m₀ z
theorem loop_red {I l i : Addr} {vs ws₀ : List Value} {ps x0 : List Str} {nn n₀ : Nat} {m₀ : Str → Option Value} {rest : List (Addr × Obj)} (val : Str) (f : List Str → Str → List Str)
    (hh : A.handled = none) (hlt : ∀ p ∈ rest, p.1 < I) (hl : (l, listOf vs.toArray nn) ∈ rest) (hi : StrsAre vs ps) (h0 : (i, listOf ws₀.toArray n₀) ∈ rest) (hw₀ : StrsAre ws₀ x0) (F : Fr h₀ env.locals s.heap m₀) (N : News h₀ env.locals s.heap ((I, litObj l) :: rest)) (hv : m₀ val = some (.ref i)) (hne : ps ≠ [])
    (hxv : val ≠ x)
    (turn : ∀ pre y post t D ws n h tk oI, ps = pre ++ y :: post → StrsAre ws (pre.foldl f x0) → @Ne Nat D I → (∀ p ∈ rest, p.1 ≠ I) →
      Fr h₀ env.locals h (fun z => if z = x then some (.str y t) else if z = val then some (.ref D) else m₀ z) → News h₀ env.locals h ((I, oI) :: (D, listOf (List.toArray ws) n) :: rest) →
      wpAny (model prog w) A (execs body env) (TurnPost h₀ env.locals (RedEnd x val m₀ rest (f (pre.foldl f x0) y)) I oI { s with heap := h, toks := tk } Q) E { s with heap := h, toks := tk })
    (done : ∀ D ws n (u : Str → Option Value) h tk, (∀ p ∈ rest, p.1 < D) → StrsAre ws (ps.foldl f x0) → Fr h₀ env.locals h (fun z => if z = val then some (.ref D) else if z = x then u z else m₀ z) → News h₀ env.locals h ((D, listOf (List.toArray ws) n) :: rest) → Q .next { s with heap := h, toks := tk }) :
    wpAny (model prog w) A (pyIter (.ref I)) (fun it s₂ => LoopAtV prog w A h₀ env x body Q E it s₂) E s := by
  have hI := N _ (List.mem_cons_self ..)
  have hst : s.heap.IsListIter I l 0 := ⟨_, hI.1, rfl, rfl⟩
  have hlI : l ≠ I := Nat.ne_of_lt (hlt _ hl)
  have W := Walks.list (prog := prog) (w := w) hh I l hlI vs.toArray
  have hsz : vs.toArray.size = ps.length := by rw [List.size_toArray, hi.length]
  rw [hsz] at W
  have N₀ : News h₀ env.locals s.heap rest := fun p hp => N p (List.mem_cons_of_mem _ hp)
  refine wpAny_pyIter_listiter hst ?_
  refine loop_core (fun i m nx => ∃ D ws n, nx = (D, listOf (List.toArray ws) n) :: rest ∧ (i ≠ 0 → ∀ p ∈ rest, p.1 < D) ∧ StrsAre ws ((ps.take i).foldl f x0) ∧ m val = some (.ref D) ∧ ∀ z, z ≠ x → z ≠ val → m z = m₀ z) W (fun i h hSt => hSt.1.elim fun o ho => ⟨o, ho.1⟩) hI.2.2 (Ne.symm hI.2.1)
    (l := l) (ol := listOf vs.toArray nn) (news := (i, listOf ws₀.toArray n₀) :: rest) ?_ (List.mem_cons_of_mem _ hl) ⟨hst, txt_isl N₀ hl⟩ F (fun p hp => N₀ p ((List.mem_cons.mp hp).elim (fun e => e ▸ h0) id)) ⟨i, ws₀, n₀, rfl, fun h => absurd rfl h, by simpa using hw₀, hv, fun _ _ _ => rfl⟩ ?_ ?_
  · intro p hp
    rcases List.mem_cons.mp hp with rfl | hp
    · exact Nat.ne_of_lt (hlt _ h0)
    · exact Nat.ne_of_lt (hlt p hp)
  · rintro j v m₁ nx h tk oI hj hP hoff _ ⟨D, ws, n, rfl, hlD, hws, hmv, hm⟩ F₁ N₁
    have hP' : vs[j]? = some v := by simpa using hP
    obtain ⟨y, t, rfl, hy⟩ := strs_get hi hP'
    have hs : ps.take (j + 1) = ps.take j ++ [y] := by simp [List.take_add_one, hy]
    have e : ps = ps.take j ++ y :: ps.drop (j + 1) := by
      have ht := List.take_append_drop (j + 1) ps
      rw [hs, List.append_assoc] at ht
      exact ht.symm
    have em : (fun z => if z = x then some (Value.str y t) else m₁ z) = fun z => if z = x then some (Value.str y t) else if z = val then some (.ref D) else m₀ z := by
      funext z
      by_cases hz : z = x
      · simp [hz]
      · simp only [if_neg hz]
        by_cases hz2 : z = val
        · rw [if_pos hz2, hz2, hmv]
        · rw [if_neg hz2]; exact hm z hz hz2
    rw [em] at F₁
    refine wpAny_mono (turn _ y _ t D ws n h tk oI e hws (hoff _ (List.mem_cons_self ..)) (fun p hp => hoff p (List.mem_cons_of_mem _ hp)) F₁ N₁) (fun fl s₂ p => ?_) fun _ _ e => e
    have up : TurnEnd h₀ env.locals (RedEnd x val m₀ rest (f ((ps.take j).foldl f x0) y)) I oI { s with heap := h, toks := tk } s₂ →
        TurnEnd h₀ env.locals (fun m' nx' => (l, listOf vs.toArray nn) ∈ nx' ∧ ∃ D ws n, nx' = (D, listOf (List.toArray ws) n) :: rest ∧ (j + 1 ≠ 0 → ∀ p ∈ rest, p.1 < D) ∧ StrsAre ws ((ps.take (j + 1)).foldl f x0) ∧ m' val = some (.ref D) ∧ ∀ z, z ≠ x → z ≠ val → m' z = m₀ z) I oI { s with heap := h, toks := tk } s₂ := by
      rintro ⟨h', tk', m', nx', e', F', N', ho', D', ws', n', rfl, hlD', hw', hv', hm'⟩
      refine ⟨h', tk', m', _, e', F', N', ho', List.mem_cons_of_mem _ hl, D', ws', n', rfl, fun _ => hlD', ?_, hv', hm'⟩
      rw [hs, List.foldl_append]
      exact hw'
    cases fl with
    | ret v => exact p
    | brk => exact p
    | next => exact up p
    | cont => exact up p
  · rintro m₁ nx h tk _ ⟨D, ws, n, rfl, hlD, hws, hmv, hm⟩ F₁ N₁
    rw [List.take_length] at hws
    refine done D ws n m₁ h tk (hlD (fun e => hne (List.eq_nil_of_length_eq_zero e))) hws ?_ N₁
    have em : (fun z => if z = val then some (Value.ref D) else if z = x then m₁ z else m₀ z) = m₁ := by
      funext z
      by_cases hz2 : z = val
      · rw [if_pos hz2, hz2, hmv]
      · rw [if_neg hz2]
        by_cases hz : z = x
        · rw [if_pos hz]
        · rw [if_neg hz]; exact (hm z hz hz2).symm
    rw [em]
    exact F₁
theorem turn_red {val : Str} {m₀ m' : Str → Option Value} {I D : Addr} {oI : Obj} {xs xs' : List Str} {rest news' : List (Addr × Obj)} {s₁ : Shared} {h' : Heap} {tk : Nat} {ws : List Value} {n : Nat}
    (F : Fr h₀ L h' m') (N : News h₀ L h' news') (hI : (I, oI) ∈ news') (hn : (D, listOf ws.toArray n) ∈ news') (hr : ∀ p ∈ rest, p ∈ news') (hlt : ∀ p ∈ rest, p.1 < D) (hDI : @Ne Nat D I) (ho : ∀ p ∈ rest, p.1 ≠ I) (hs : StrsAre ws xs') (e : xs' = xs) (hv : m' val = some (.ref D)) (hm : ∀ z, z ≠ x → z ≠ val → m' z = m₀ z) :
    TurnEnd h₀ L (RedEnd x val m₀ rest xs) I oI s₁ { s₁ with heap := h', toks := tk } := by
  subst e
  refine ⟨h', tk, m', (D, listOf ws.toArray n) :: rest, rfl, F, fun p hp => N p ?_, fun p hp => ?_, D, ws, n, rfl, hlt, hs, hv, hm⟩
  · rcases List.mem_cons.mp hp with rfl | hp
    · exact hI
    · rcases List.mem_cons.mp hp with rfl | hp
      · exact hn
      · exact hr p hp
  · rcases List.mem_cons.mp hp with rfl | hp
    · exact hDI
    · exact ho p hp
end
end Mine
namespace Mine
open PySem PySem.W PyProof.Rows PySem.Calls
set_option maxRecDepth 100000

structure LtM (D : Addr) (news : List (Addr × Obj)) : Prop where
  lt : ∀ q ∈ news, q.1 < D
structure MarkR (ps : List Str) : Prop where
  ok : ∀ p ∈ ps, okPart p = true
  le : ps.length ≤ 5
  ge : 3 ≤ ps.length
theorem MarkR.ne {ps : List Str} (h : MarkR ps) : ps ≠ [] := by intro e; have := h.ge; rw [e] at this; exact absurd this (by decide)
local macro_rules | `(tactic| k_mem) => `(tactic| assumption)

set_option maxHeartbeats 8000000 in
theorem c_reduce (w : World) (f c' : Addr) (qual : Str) (P : Arguments) (B : Expr) (S : Scope) (pos : Pos) (pm ctv : Value) (oc : Obj) (vs : Array Value) (t : Tok) (hE : lamE = .Lambda P B S pos) (l : Addr) (ws : List Value) (n : Nat) (ps : List Str) (i : Addr) (wi : List Value) (ni : Nat) :
    Dfl w 52 14 (fun news => LamAt f c' qual P B S pm ctv oc vs t news ∧ ((l, listOf ws.toArray n) ∈ news ∧ StrsAre ws ps ∧ MarkR ps) ∧ (i, listOf wi.toArray ni) ∈ news ∧ StrsAre wi [Str.ofString "c"]) [.ref f, .ref l, .ref i] (fun h₀ L m news s Q => ListRet h₀ L m news s Q (ps.foldl hstep [Str.ofString "c"])) := by
  unfold Dfl
  w_top off
  k_fill
  intros
  rename_i hkf hpre hdp hun hret
  obtain ⟨hLam, ⟨hm, hi, hMR⟩, hmi, hii⟩ := hpre
  have hfn := hLam.fn
  have hM := kstMark
  refine wpAny_call ?_
  k_dflt (refine' code_def ?k1 ?k2 ?k3 ?k4 ?k5 ?kA ?kF ?kK ?k6 ?k7 ?k8 ?k9 ?kB ?_ ?c2 ?c3 ?c4 ?c5; (case kA => exact rfl); (case kF => exact rfl); (case kK => exact hkf); (case k1 => k_asm); (case k2 => k_asm); (case k3 => k_asm); (case k4 => k_asm); (case k5 => k_asm); (case k6 => k_is); (case k7 => k_is); (case k8 => ktr_room); (case k9 => first | exact binds_K (by k_in) rfl (by k_is) rfl rfl rfl | exact BindsTo.of_eq rfl | (refine' kp_binds ?kx ?ke; (case kx => k_in); (case ke => exact fun _ => rfl))); (case c5 => decide); (case kB => exact locs rfl); (case c2 => exact rfl); (case c3 => exact rfl); (case c4 => exact rfl); k_whole; intro g' L' h' FG' F' N' B' X' T'; (try dsimp only); (try k_lift B'); (try k_fold))
  k_with_none
  (k_with "call builtin:iter" => ((k_here; (with_reducible show wpAny _ _ (call (Value.builtin "iter") [Value.ref _]) _ _ _); k_dflt (refine' iter_list ?fit ?nit ?mit ?_; (case fit => k_asm); (case nit => k_asm); (case mit => k_mem)); intro I' h' F' N' l1)))
  (k_with "exec For Name Name cons nil" => ((k_here; (rename Fr _ _ _ _ => lF'); (with_unfolding_all refine' For_invVF lF' ?k1np ?k2np ?_; (case k1np => exact rfl); (case k2np => exact rfl); k_whole))))
  (k_with "pyIter ref" => (((with_reducible show wpAny _ _ (pyIter (Value.ref _)) (fun it s₂ => LoopAtV _ _ _ _ _ _ _ _ _ it s₂) _ _); k_here; (rename Fr _ _ _ _ => lF'); (rename News _ _ _ _ => lN'); (rename MarkR _ => lR'); (with_unfolding_all refine' loop_red (Str.ofString "value") hstep (by rfl) ?lRd ?mRd ?iRd ?oRd ?wRd lF' lN' ?vRd (MarkR.ne lR') (by decide) ?_ ?_; (case lRd => assumption); (case iRd => assumption); (case mRd => k_mem); (case vRd => (first | rfl | kst_all)); (case wRd => assumption); (case oRd => assumption)); (all_goals (try clear lF' lN')); (rotate_left 1); (intro D' ws' n' u' h' tk' hlt' hS' F' N'; (try k_fold)); (rotate_left 1); (intro pre' y' post' t' D' ws' n' h' tk' oI' hE' hS' hD' hoff' F' N'; obtain ⟨hSm', hy7'⟩ := small_take hE' (MarkR.ok lR') (MarkR.le lR'); have hM' := kstMark; (try k_fold)))))
  (k_with "TurnPost" => ((dsimp only [TurnPost])))
  (k_with "TurnEnd" => (((rename News _ _ _ _ => nE'); refine' turn_red ?fNP nE' ?iNP ?nNP ?rNP ?lNP ?dNP ?oNP ?sNP ?eNP ?vNP ?mNP; (case fNP => k_asm); (case iNP => exact List.mem_cons_of_mem _ (List.mem_cons_self ..)); (case nNP => exact List.mem_cons_self ..); (case rNP => exact (fun p hp => List.mem_cons_of_mem _ (List.mem_cons_of_mem _ (List.mem_cons_of_mem _ hp)))); (case lNP => (rename LtM _ _ => l9'; exact fun p hp => LtM.lt l9' p (List.mem_cons_of_mem _ (List.mem_cons_of_mem _ hp)))); (case dNP => (rename LtM _ _ => l9'; exact Nat.ne_of_gt (LtM.lt l9' _ (List.mem_cons_self ..)))); (case oNP => assumption); (case sNP => assumption); (case eNP => rfl); (case vNP => exact if_pos rfl); (case mNP => (intro z hz1 hz2; simp only [if_neg hz1, if_neg hz2])))))
  (k_with "callWith ref" => ((k_here; k_dflt (refine' callWith_F ?k1 ?_; (case k1 => exact FnAt.of (by k_asm) (by k_mem)); k_whole))))
  (k_with "call ref" => ((k_here; (with_reducible show wpAny _ _ (call (Value.ref _) [Value.ref _, Value.str _ _]) _ _ _); (rename LamAt _ _ _ _ _ _ _ _ _ _ _ _ => hLa'); k_dflt (refine' c_lam _ _ _ _ _ _ _ _ _ _ _ _ _ ?kElm _ _ _ _ _ _ _ _ _ _ _ _ _ _ _ _ _ _ _ _ _ _ _ _ _ _ _ _ ?k1lm ?k2lm ?k3lm ?k4lm ?k5lm ?kKlm ?kplm ?kdlm ?kulm ?_; (case k1lm => k_asm); (case k2lm => k_asm); (case k3lm => k_asm); (case k4lm => k_asm); (case k5lm => k_asm); (case kKlm => exact rfl); (case kplm => (refine ⟨?_, ?_, ?_, ?_, ?_⟩; (apply LamAt.sub; exact hLa'; exact fun p hp => List.mem_cons_of_mem _ (List.mem_cons_of_mem _ hp)); k_mem; assumption; assumption; assumption)); (case kElm => assumption); (case kdlm => ktr_room); (case kulm => ktr_units)); intro D' ws' c' h' tk' F' N' l1 hS'; (have lM' := LtM.mk l1); (try dsimp only); (try k_fold))))
  w_strict k_steps
  all_goals (refine' list_drop hret ?F ?N ?D ?s ?l ?d; (case F => k_asm); (case N => assumption); (case D => exact List.mem_cons_self ..); (case s => exact fun p hp => List.mem_cons_of_mem _ hp); (case d => assumption); (case l => assumption))
end Mine
namespace Mine
open PySem PySem.W PyProof.Rows PySem.Calls PySem.Spec
set_option maxRecDepth 100000
section
variable {prog : Program} {w : World} {A : Around} {E : Value → Shared → Prop} {s : Shared} {t u : Tok} {Q : Value → Shared → Prop}
theorem pow2_n {j : Nat} (hj : j ≤ 1000) (h : ∀ t tk, Q (.int ((2 ^ j : Nat) : Int) t) { s with toks := tk }) : wpAny (model prog w) A (binaryOp .Pow (.int 2 t) (.int (j : Int) u)) Q E s := by
  refine pow_int_small (by omega) (by omega) (by decide) ?_
  have := h s.toks (s.toks + 1)
  rwa [show ((2 ^ j : Nat) : Int) = (2 : Int) ^ ((j : Int)).toNat by simp] at this
theorem log2_pow {j : Nat} (hj : j ≤ 1000) : ((2 ^ j : Nat) : Int).natAbs.log2 < 9000 := by
  rw [Int.natAbs_natCast, Nat.log2_lt (Nat.ne_of_gt (Nat.two_pow_pos _))]
  exact Nat.pow_lt_pow_right (by decide) (by omega)
theorem div2_n {i j : Nat} (hj : j ≤ 1000) (h : ∀ t tk, Q (.int ((i / 2 ^ j : Nat) : Int) t) { s with toks := tk }) : wpAny (model prog w) A (binaryOp .FloorDiv (.int (i : Int) t) (.int ((2 ^ j : Nat) : Int) u)) Q E s := by
  have hp := Nat.two_pow_pos j
  refine floordiv_int (by omega) ?_ (Or.inl (PyProof.noPylong_of_log2 (log2_pow hj)))
  have := h s.toks (s.toks + 1)
  rwa [show ((i / 2 ^ j : Nat) : Int) = (i : Int).fdiv ((2 ^ j : Nat) : Int) by rw [Int.fdiv_eq_ediv_of_nonneg _ (by omega)]; rfl] at this
theorem mod2_n {i : Nat} (h : ∀ t tk, Q (.int ((i % 2 : Nat) : Int) t) { s with toks := tk }) : wpAny (model prog w) A (binaryOp .Mod (.int (i : Int) t) (.int 2 u)) Q E s := by
  refine mod_int' (by decide) ?_
  have := h s.toks (s.toks + 1)
  rwa [show ((i % 2 : Nat) : Int) = (i : Int).fmod 2 by rw [Int.fmod_eq_emod_of_nonneg _ (by decide)]; rfl] at this
theorem one_n {i : Nat} (h : Q (.bool (decide (i = 1))) s) : wpAny (model prog w) A (compareOp .Eq (.int (i : Int) t) (.int 1 u)) Q E s := by
  refine PyProof.Rows.eq_int ?_
  rwa [show ((i : Int) == 1) = decide (i = 1) by rw [Bool.eq_iff_iff]; simp; omega]
end
section
variable {prog : Program} {w : World} {A : Around} {E : Value → Shared → Prop} {s : Shared} {h₀ : Heap} {L D : Addr} {m : Str → Option Value} {news : List (Addr × Obj)} {n : Nat} {ws : List Value} {xs : List Str} {g : Obj → List (Addr × Obj)}
theorem txt_append {x : Str} {t : Tok} {Q : Value → Shared → Prop} (F : Fr h₀ L s.heap m) (N : News h₀ L s.heap news) (hi : StrsAre ws xs) (U : UpdF D (listOf ws.toArray n) news g) (hb : ws.length ≤ 1000)
    (h : ∀ h' ws', Fr h₀ L h' m → News h₀ L h' (g (listOf (List.toArray ws') (n + 1))) → StrsAre ws' (xs ++ [x]) → ws'.length = ws.length + 1 → Q .none { s with heap := h' }) :
    wpAny (model prog w) A (call (.builtin "list.append") [.ref D, .str x t]) Q E s := by
  obtain ⟨pre, post, rfl, hg, a, b⟩ := U.split
  have z := N (D, listOf ws.toArray n) (List.mem_append.mpr (.inr (.head _)))
  refine append_at (hsz := by rw [sizeLine_eq, List.size_toArray]; omega) z.1 fun h' hs ho' => h h' (ws ++ [.str x t]) (F.change hs z.2.1 z.2.2) ?_ (strsAre_append hi (.cons x t .nil)) (by simp)
  rw [hg]
  have q := news_set N a b hs ho'
  rwa [List.push_toArray] at q
end
end Mine
namespace Mine
open PySem PySem.W PyProof.Rows PySem.Calls
set_option maxRecDepth 100000

noncomputable def lawS : Stmt := PySem.Challenge.rw_ik0183_01.prog.main.body.getLastD (.Pass default)
noncomputable def scopeOf : Stmt → Scope
  | .FunctionDef _ _ _ _ _ _ s _ _ _ => s
  | _ => default
noncomputable def forOf : Stmt → List Stmt
  | .For _ _ b _ _ => b
  | _ => []
noncomputable def lawIf1 : Stmt := (forOf ((bodyOf lawS).getD 7 (.Pass default))).getD 0 (.Pass default)
noncomputable def lawIf2 : Stmt := (forOf ((forOf ((bodyOf lawS).getD 10 (.Pass default))).getD 0 (.Pass default))).getD 0 (.Pass default)
noncomputable abbrev IfDo (w : World) (S : Stmt) (cs : Scope) (t l1 l2 : Addr) (k : Nat) (pre : List (Addr × Obj) → Prop) : Prop :=
  ∀ (loose : List Str) (mean : ExcName → Option Value) (mg mb : Str → Option Value) (news : List (Addr × Obj)) (dp un : Nat) (gd : Option (List Code)) (a : Addr) (ccd : Value) (cl : List (Str × Addr)) (A₀ : Around) (base h₀ : Heap) (L : Addr) (m : Str → Option Value) (s : Shared) (Q : Flow → Shared → Prop) (E : Value → Shared → Prop),
    Below A₀ base [] h₀ → Fr h₀ L s.heap (fun y => if y = Str.ofString "lists" then some (.ref t) else m y) → (hd.heap_39 w.params).In h₀ → News h₀ L s.heap news → Top topProg loose mean mg mb h₀ → (Str.ofString "ValueError" ∉ loose ∧ Str.ofString "ValueError" ∉ (clssOf topProg loose).map (·.name)) →
    pre news → dp + k < recursionLimit → un + 10 * k < cLine → (∀ h' tk', Fr h₀ L h' (fun y => if y = Str.ofString "lists" then some (.ref t) else m y) → News h₀ L h' news → Q .next { s with heap := h', toks := tk' }) →
      wpAny (model PySem.Challenge.rw_ik0183_01.row.prog w) (ktrTop dp un gd (Str.ofString "law") cs L a ccd cl []) (PySem.exec S (envX (Str.ofString "law") cs L a ccd cl)) Q E s
noncomputable abbrev IfPre (t l1 l2 : Addr) (ws1 ws2 : List Value) (n1 n2 : Nat) (xs1 xs2 : List Str) (news : List (Addr × Obj)) : Prop :=
  (t, ({ cls := .type "tuple", data := .seq #[.ref l1, .ref l2] } : Obj)) ∈ news ∧ ((l1, listOf ws1.toArray n1) ∈ news ∧ StrsAre ws1 xs1 ∧ xs1.length ≤ 1000) ∧ ((l2, listOf ws2.toArray n2) ∈ news ∧ StrsAre ws2 xs2 ∧ xs2.length ≤ 1000)
theorem c_compare' (w : World) (l1 l2 : Addr) (ws1 ws2 : List Value) (n1 n2 : Nat) (xs1 xs2 : List Str) (b : Bool) (hb : cmpF xs1 xs2 = b) : Dfl1 w 43 8 (fun news => ((l1, listOf ws1.toArray n1) ∈ news ∧ StrsAre ws1 xs1 ∧ xs1.length ≤ 1000) ∧ ((l2, listOf ws2.toArray n2) ∈ news ∧ StrsAre ws2 xs2 ∧ xs2.length ≤ 1000)) [.ref l1, .ref l2] (fun h₀ L m news s Q => CbRet h₀ L m news s Q (fun _ => .bool b)) := by
  subst hb
  exact c_compare w l1 l2 ws1 ws2 n1 n2 xs1 xs2
local macro_rules | `(tactic| k_mem) => `(tactic| assumption)
set_option maxHeartbeats 8000000 in
theorem c_if1 (w : World) (S : Stmt) (hS : lawIf1 = S) (cs : Scope) (hC : scopeOf lawS = cs) (t l1 l2 : Addr) (ws1 ws2 : List Value) (n1 n2 : Nat) (xs1 xs2 : List Str) (hb : cmpF xs1 xs2 = true) : IfDo w S cs t l1 l2 10 (IfPre t l1 l2 ws1 ws2 n1 n2 xs1 xs2) := by
  conv at hS => lhs; whnf
  cases hS
  conv at hC => lhs; whnf
  cases hC
  unfold IfDo
  w_top off
  k_fill
  intros
  rename_i hV hpre hdp hun hret
  obtain ⟨hmt, ⟨hm1, hi1, hb1⟩, ⟨hm2, hi2, hb2⟩⟩ := hpre
  have hM := kstMark
  k_with_none
  (k_with "call ref" => ((k_here; (with_reducible show wpAny _ _ (call (Value.ref 43) [Value.ref _, Value.ref _]) _ _ _); k_dflt (refine' c_compare' _ _ _ _ _ _ _ _ _ _ ?kBcm _ _ _ _ _ _ _ _ _ _ _ _ _ _ _ _ _ _ _ _ _ ?k1cm ?k2cm ?k3cm ?k4cm ?k5cm ?kVcm ?kKcm ?kpcm ?kdcm ?kucm ?_; (case k1cm => k_asm); (case k2cm => k_asm); (case k3cm => k_asm); (case k4cm => k_asm); (case k5cm => k_asm); (case kKcm => exact rfl); (case kpcm => (refine ⟨⟨?_, ?_, ?_⟩, ?_, ?_, ?_⟩ <;> assumption)); (case kBcm => assumption); (case kVcm => assumption); (case kdcm => ktr_room); (case kucm => ktr_units)); intro t9 h9 tk9 F9 N9; (try dsimp only); (try k_fold))))
  (k_with "exec If" => ((k_here; (refine wpAny_If ?_))))
  w_strict k_steps
  all_goals (exact hret _ _ (by assumption) (by assumption))
set_option maxHeartbeats 8000000 in
theorem c_if2 (w : World) (S : Stmt) (hS : lawIf2 = S) (cs : Scope) (hC : scopeOf lawS = cs) (t l1 l2 : Addr) (ws1 ws2 : List Value) (n1 n2 : Nat) (xs1 xs2 : List Str) (hb : cmpF xs1 xs2 = false) : IfDo w S cs t l1 l2 10 (IfPre t l1 l2 ws1 ws2 n1 n2 xs1 xs2) := by
  conv at hS => lhs; whnf
  cases hS
  conv at hC => lhs; whnf
  cases hC
  unfold IfDo
  w_top off
  k_fill
  intros
  rename_i hV hpre hdp hun hret
  obtain ⟨hmt, ⟨hm1, hi1, hb1⟩, ⟨hm2, hi2, hb2⟩⟩ := hpre
  have hM := kstMark
  k_with_none
  (k_with "call ref" => ((k_here; (with_reducible show wpAny _ _ (call (Value.ref 43) [Value.ref _, Value.ref _]) _ _ _); k_dflt (refine' c_compare' _ _ _ _ _ _ _ _ _ _ ?kBcm _ _ _ _ _ _ _ _ _ _ _ _ _ _ _ _ _ _ _ _ _ ?k1cm ?k2cm ?k3cm ?k4cm ?k5cm ?kVcm ?kKcm ?kpcm ?kdcm ?kucm ?_; (case k1cm => k_asm); (case k2cm => k_asm); (case k3cm => k_asm); (case k4cm => k_asm); (case k5cm => k_asm); (case kKcm => exact rfl); (case kpcm => (refine ⟨⟨?_, ?_, ?_⟩, ?_, ?_, ?_⟩ <;> assumption)); (case kBcm => assumption); (case kVcm => assumption); (case kdcm => ktr_room); (case kucm => ktr_units)); intro t9 h9 tk9 F9 N9; (try dsimp only); (try k_fold))))
  (k_with "exec If" => ((k_here; (refine wpAny_If ?_))))
  w_strict k_steps
  all_goals (exact hret _ _ (by assumption) (by assumption))
end Mine
namespace Mine
open PySem PySem.W PyProof.Rows PySem.Calls
set_option maxRecDepth 100000

noncomputable def endsUp (ps : List Str) (i : Nat) : List Str := (List.range i).map fun c => endF (subP ps c)
noncomputable abbrev markPs {ps : List Str} (_ : MarkR ps) : List Str := ps
theorem pow_le {n : Nat} (h : n ≤ 5) : 2 ^ n ≤ 32 := Nat.pow_le_pow_right (by decide) h
theorem pow_le' {n : Nat} (h : n ≤ 5) : 2 ^ n ≤ 1000 := Nat.le_trans (pow_le h) (by decide)
/-- a turn of the loop over count: which -/
structure MarkT (i : Nat) (ps : List Str) : Prop where
  wt : wt (subP ps i) ≤ 100
  le : ps.length ≤ 5
noncomputable abbrev markI {i : Nat} {ps : List Str} (_ : MarkT i ps) : Nat := i
noncomputable abbrev markP {i : Nat} {ps : List Str} (_ : MarkT i ps) : List Str := ps
theorem markT {ps : List Str} (h : MarkR ps) (i : Nat) : MarkT i ps := by
  refine ⟨?_, h.le⟩
  have h1 := sub_good ps i h.ok
  have h2 := wt_good _ h1.1
  have h3 := h.le
  omega
theorem ends_len (ps : List Str) (i : Nat) : (endsUp ps i).length = i := by simp [endsUp]
theorem ends_size {ps : List Str} {i n : Nat} {we wd : List Value} (h : i < n) (hn : n ≤ 32) (h1 : StrsAre we (endsUp ps i)) (h2 : StrsAre wd (dedupF [] (endsUp ps i))) : we.length ≤ 40 ∧ wd.length ≤ 40 := by
  have h3 := dedup_num (endsUp ps i)
  rw [h1.length, h2.length]
  rw [ends_len] at *
  omega
theorem ends_zero (ps : List Str) : endsUp ps 0 = [] := rfl
theorem due_zero (ps : List Str) : dedupF [] (endsUp ps 0) = [] := rfl
theorem ends_succ (ps : List Str) (i : Nat) : endsUp ps (i + 1) = endsUp ps i ++ [endF (subP ps i)] := by
  unfold endsUp
  rw [List.range_succ, List.map_append]
  rfl
theorem due_succ (ps : List Str) (i : Nat) : dedupF [] (endsUp ps (i + 1)) = if endF (subP ps i) ∈ dedupF [] (endsUp ps i) then dedupF [] (endsUp ps i) else dedupF [] (endsUp ps i) ++ [endF (subP ps i)] := by
  rw [ends_succ, dedup_app, dedup_one]
theorem el_t {news : List (Addr × Obj)} {b : Bool} {r : Str} {t : Tok} (h : b = true) : ElT news b r (.str r t) news := ⟨rfl, h, t, rfl⟩
theorem el_f {news : List (Addr × Obj)} {b : Bool} (h : b = false) : ElF news b news := ⟨rfl, h⟩
theorem last_ne {α : Type} (xs : List α) (x : α) : (xs ++ [x]).isEmpty = false := by cases xs <;> rfl
theorem lend {h₀ h' : Heap} {L : Addr} {m₀ : Str → Option Value} {c e d I : Addr} {es ds : List Str} {rest news' : List (Addr × Obj)} {oI oc : Obj} {v : Option Value} {we wd : List Value} {ne nd : Nat} {s₁ : Shared} {tk : Nat} (F : Fr h₀ L h' m₀) (N : News h₀ L h' news') (h1 : (I, oI) ∈ news') (h2 : (c, oc) ∈ news') (h3 : (e, listOf we.toArray ne) ∈ news') (h4 : (d, listOf wd.toArray nd) ∈ news') (h5 : ∀ p ∈ rest, p ∈ news') (hd : oc.data = .cell v) (hE : StrsAre we es) (hD : StrsAre wd ds) :
    LEnd h₀ L m₀ c e d es ds rest I oI s₁ { s₁ with heap := h', toks := tk } := by
  refine ⟨h', tk, oc, v, we, ne, wd, nd, rfl, F, fun p hp => N p ?_, hd, hE, hD⟩
  rcases List.mem_cons.mp hp with rfl | hp
  · exact h1
  rcases List.mem_cons.mp hp with rfl | hp
  · exact h2
  rcases List.mem_cons.mp hp with rfl | hp
  · exact h3
  rcases List.mem_cons.mp hp with rfl | hp
  · exact h4
  exact h5 p hp
theorem ends_next {ps : List Str} {i : Nat} {we : List Value} (h : StrsAre we (endsUp ps i ++ [endF (subP ps i)])) : StrsAre we (endsUp ps (i + 1)) := by rw [ends_succ]; exact h
theorem any_mem {a : List Str} {x : Str} : (a.any (fun y => y == x) = true) ↔ x ∈ a := by simp
theorem due_in {ps : List Str} {i : Nat} {wd : List Value} (h : StrsAre wd (dedupF [] (endsUp ps i))) (h1 : (dedupF [] (endsUp ps i)).any (fun y => y == endF (subP ps i)) = true) : StrsAre wd (dedupF [] (endsUp ps (i + 1))) := by
  rw [due_succ, if_pos (any_mem.mp h1)]; exact h
theorem due_out {ps : List Str} {i : Nat} {wd : List Value} (h : StrsAre wd (dedupF [] (endsUp ps i) ++ [endF (subP ps i)])) (h1 : (dedupF [] (endsUp ps i)).any (fun y => y == endF (subP ps i)) = false) : StrsAre wd (dedupF [] (endsUp ps (i + 1))) := by
  rw [due_succ, if_neg (fun q => by rw [any_mem.mpr q] at h1; cases h1)]; exact h
theorem rs_nat (n : Nat) : Builtin.Range.rangeSize 0 (n : Int) 1 = ((n : Nat) : Int) := by simpa using rangeSize_nat 0 (n : Int)

structure FinM (Es : List Str) : Prop where
  nod : Str.ofString "d" ∉ Es
  le : Es.length ≤ 32
  pos : 0 < (dedupF [] Es).length
  num : (dedupF [] Es).length ≤ 32
theorem law_fin9 {ps : List Str} {xs : List Int} {we wd tw : List Value} (hM : MarkR ps) (hps : ps = partsOf xs) (hE : StrsAre we (endsUp ps (2 ^ ps.length))) (hD : StrsAre wd (dedupF [] (endsUp ps (2 ^ ps.length)))) (hT : StrsAre tw (ps.foldl hstep [Str.ofString "c"])) :
    ∃ Es, FinM Es ∧ StrsAre we Es ∧ StrsAre wd (dedupF [] Es) ∧ StrsAre tw (dedupF [] Es) := by
  have hfine : ∀ p ∈ ps, Fine p := by rw [hps]; exact parts_fine xs
  have hl : (endsOf ps).length ≤ 32 := by
    have h1 := ends_len ps (2 ^ ps.length)
    have h2 := pow_le hM.le
    show (endsUp ps (2 ^ ps.length)).length ≤ 32
    omega
  have hn := dedup_num (endsOf ps)
  refine ⟨endsOf ps, ⟨ends_d ps hfine, hl, ?_, Nat.le_trans hn hl⟩, hE, hD, by rw [← told_is ps hfine]; exact hT⟩
  cases e : endsOf ps with
  | nil => exact absurd e (ends_ne ps)
  | cons x r =>
    refine List.length_pos_of_mem ((mem_dedup _ [] x).mpr (.inr ?_))
    exact List.mem_cons_self ..
theorem news_four {h₀ h : Heap} {L : Addr} {c e d T l pc tb : Addr × Obj} (N : News h₀ L h [c, e, d, T, l, pc, tb]) : News h₀ L h [e, d, T, tb] := fun p hp => N p (by
  simp only [List.mem_cons, List.not_mem_nil, or_false] at hp ⊢
  rcases hp with rfl | rfl | rfl | rfl <;> simp)
theorem txt_ne_same {prog : Program} {w : World} {A : Around} {E : Value → Shared → Prop} {s : Shared} {h₀ : Heap} {L : Addr} {news : List (Addr × Obj)} {a b : Addr} {vs ws : List Value} {n k : Nat} {xs : List Str} {Q : Value → Shared → Prop} (N : News h₀ L s.heap news) (hm : (a, listOf vs.toArray n) ∈ news) (hk : (b, listOf ws.toArray k) ∈ news) (hi : StrsAre vs xs) (hj : StrsAre ws xs) (hu : A.units < cLine)
    (h : Q (.bool false) s) : wpAny (model prog w) A (compareOp .NotEq (.ref a) (.ref b)) Q E s :=
  txt_ne N hm hk hi hj hu (by rw [decide_eq_true rfl]; exact h)
theorem mod_pos {prog : Program} {w : World} {A : Around} {E : Value → Shared → Prop} {s : Shared} {a b : Int} {t u : Tok} {Q : Value → Shared → Prop} (hb : 0 < b) (h : ∀ (k : Int) t tk, 0 ≤ k → k < b → Q (.int k t) { s with toks := tk }) : wpAny (model prog w) A (binaryOp .Mod (.int a t) (.int b u)) Q E s :=
  mod_int' (by omega) (h _ _ _ (Int.fmod_nonneg_of_pos _ hb) (Int.fmod_lt_of_pos _ hb))
theorem fewer_add {prog : Program} {w : World} {A : Around} {E : Value → Shared → Prop} {s : Shared} {h₀ : Heap} {L : Addr} {m : Str → Option Value} {news : List (Addr × Obj)} {a b : Addr} {vs ws : List Value} {n j : Nat} {T : List Str} {k : Int} {Q : Value → Shared → Prop} (F : Fr h₀ L s.heap m) (N : News h₀ L s.heap news) (hm : (a, listOf vs.toArray n) ∈ news) (hk : (b, listOf ws.toArray j) ∈ news)
    (hi : StrsAre vs (List.take k.toNat T)) (hj : StrsAre ws (List.drop (k + 1).toNat T)) (h0 : 0 ≤ k) (hT : T.length ≤ 32)
    (h : ∀ D zs h', Fr h₀ L h' m → News h₀ L h' ((D, listOf (List.toArray zs) 0) :: news) → (∀ p ∈ news, p.1 < D) → StrsAre zs (fewer T k.toNat) → Q (.ref D) { s with heap := h' }) :
    wpAny (model prog w) A (binaryOp .Add (.ref a) (.ref b)) Q E s := by
  have e : (k + 1).toNat = k.toNat + 1 := by omega
  rw [e] at hj
  refine txt_add F N hm hk ?_ fun D h' F' N' l1 => h D _ h' F' N' l1 (strsAre_append hi hj)
  rw [hi.length, hj.length, List.length_take, List.length_drop, sizeLine_eq]
  omega
theorem few1 {Es : List Str} {k : Int} (h : FinM Es) (h0 : 0 ≤ k) (hk : k < ((dedupF [] Es).length : Int)) : cmpF (fewer (dedupF [] Es) k.toNat) Es = false := (few_cmp Es h.nod (k := k.toNat) (by omega)).1
theorem few2 {Es : List Str} {k : Int} (h : FinM Es) (h0 : 0 ≤ k) (hk : k < ((dedupF [] Es).length : Int)) : cmpF Es (fewer (dedupF [] Es) k.toNat) = false := (few_cmp Es h.nod (k := k.toNat) (by omega)).2.1
theorem few3 {Es : List Str} {k : Int} (h : FinM Es) (h0 : 0 ≤ k) (hk : k < ((dedupF [] Es).length : Int)) : cmpF (fewer (dedupF [] Es) k.toNat ++ [Str.ofString "d"]) Es = false := (few_cmp Es h.nod (k := k.toNat) (by omega)).2.2.1
theorem few4 {Es : List Str} {k : Int} (h : FinM Es) (h0 : 0 ≤ k) (hk : k < ((dedupF [] Es).length : Int)) : cmpF Es (fewer (dedupF [] Es) k.toNat ++ [Str.ofString "d"]) = false := (few_cmp Es h.nod (k := k.toNat) (by omega)).2.2.2
theorem few_len {Es : List Str} (h : FinM Es) (k : Nat) : (fewer (dedupF [] Es) k).length ≤ 64 := by
  have := h.num
  unfold fewer
  rw [List.length_append, List.length_take, List.length_drop]
  omega
theorem few_len' {Es : List Str} (h : FinM Es) (k : Nat) : (fewer (dedupF [] Es) k ++ [Str.ofString "d"]).length ≤ 65 := by
  have := few_len h k
  rw [List.length_append, List.length_singleton]
  omega
theorem len1000 {xs : List Str} {n : Nat} (h : xs.length ≤ n) (hn : n ≤ 1000) : xs.length ≤ 1000 := Nat.le_trans h hn
theorem txt_addS' {prog : Program} {w : World} {A : Around} {E : Value → Shared → Prop} {s : Shared} {h₀ : Heap} {L : Addr} {m : Str → Option Value} {news : List (Addr × Obj)} {a b : Addr} {vs ws : List Value} {n k : Nat} {xs ys : List Str} {Q : Value → Shared → Prop} (F : Fr h₀ L s.heap m) (N : News h₀ L s.heap news) (hm : (a, listOf vs.toArray n) ∈ news) (hk : (b, listOf ws.toArray k) ∈ news) (hi : StrsAre vs xs) (hj : StrsAre ws ys) (hx : xs.length ≤ 1000) (hy : ys.length ≤ 1000)
    (h : ∀ D zs h', Fr h₀ L h' m → News h₀ L h' ((D, listOf (List.toArray zs) 0) :: news) → (∀ p ∈ news, p.1 < D) → StrsAre zs (xs ++ ys) → Q (.ref D) { s with heap := h' }) :
    wpAny (model prog w) A (binaryOp .Add (.ref a) (.ref b)) Q E s :=
  txt_add F N hm hk (by rw [hi.length, hj.length, sizeLine_eq]; omega) fun D h' F' N' l1 => h D _ h' F' N' l1 (strsAre_append hi hj)

noncomputable def lawFor1 : Stmt := (bodyOf lawS).getD 7 (.Pass default)
noncomputable def lawFor2 : Stmt := (bodyOf lawS).getD 10 (.Pass default)
theorem news_pick3 {h₀ h : Heap} {L : Addr} {news : List (Addr × Obj)} {a b c : Addr × Obj} (N : News h₀ L h news) (h1 : a ∈ news) (h2 : b ∈ news) (h3 : c ∈ news) : News h₀ L h [a, b, c] := fun p hp => N p (by
  simp only [List.mem_cons, List.not_mem_nil, or_false] at hp
  rcases hp with rfl | rfl | rfl <;> assumption)
theorem fr_lists {h₀ h : Heap} {L : Addr} {x : Str} {a b : Option Value} {m : Str → Option Value} (F : Fr h₀ L h (fun y => if y = x then a else if y = x then b else m y)) : Fr h₀ L h (fun y => if y = x then a else m y) := by
  have e : (fun y => if y = x then a else if y = x then b else m y) = fun y => if y = x then a else m y := by
    funext y
    by_cases h : y = x
    · simp [h]
    · simp [h]
  rw [← e]; exact F
noncomputable abbrev For1Do (w : World) (S : Stmt) (cs : Scope) (k : Nat) (news : List (Addr × Obj)) (pre : (Str → Option Value) → Prop) : Prop :=
  ∀ (loose : List Str) (mean : ExcName → Option Value) (mg mb : Str → Option Value) (dp un : Nat) (gd : Option (List Code)) (a : Addr) (ccd : Value) (cl : List (Str × Addr)) (A₀ : Around) (base h₀ : Heap) (L : Addr) (m : Str → Option Value) (s : Shared) (Q : Flow → Shared → Prop) (E : Value → Shared → Prop),
    Below A₀ base [] h₀ → Fr h₀ L s.heap m → (hd.heap_39 w.params).In h₀ → News h₀ L s.heap news → Top topProg loose mean mg mb h₀ → (Str.ofString "ValueError" ∉ loose ∧ Str.ofString "ValueError" ∉ (clssOf topProg loose).map (·.name)) →
    pre m → dp + k < recursionLimit → un + 10 * k < cLine → (∀ h' tk' (u : Option Value), Fr h₀ L h' (fun y => if y = Str.ofString "lists" then u else m y) → News h₀ L h' news → Q .next { s with heap := h', toks := tk' }) → PassesOwn (model PySem.Challenge.rw_ik0183_01.row.prog w) (ktrTop dp un gd (Str.ofString "law") cs L a ccd cl []) (envX (Str.ofString "law") cs L a ccd cl) E →
      wpAny (model PySem.Challenge.rw_ik0183_01.row.prog w) (ktrTop dp un gd (Str.ofString "law") cs L a ccd cl []) (PySem.exec S (envX (Str.ofString "law") cs L a ccd cl)) Q E s
noncomputable abbrev For2Do (w : World) (S : Stmt) (cs : Scope) (k : Nat) (news : List (Addr × Obj)) (pre : (Str → Option Value) → Prop) : Prop :=
  ∀ (loose : List Str) (mean : ExcName → Option Value) (mg mb : Str → Option Value) (dp un : Nat) (gd : Option (List Code)) (a : Addr) (ccd : Value) (cl : List (Str × Addr)) (A₀ : Around) (base h₀ : Heap) (L : Addr) (m : Str → Option Value) (s : Shared) (Q : Flow → Shared → Prop) (E : Value → Shared → Prop),
    Below A₀ base [] h₀ → Fr h₀ L s.heap m → (hd.heap_39 w.params).In h₀ → News h₀ L s.heap news → Top topProg loose mean mg mb h₀ → (Str.ofString "ValueError" ∉ loose ∧ Str.ofString "ValueError" ∉ (clssOf topProg loose).map (·.name)) →
    pre m → dp + k < recursionLimit → un + 10 * k < cLine → (∀ h' tk' (m' : Str → Option Value), Fr h₀ L h' m' → News h₀ L h' news → Q .next { s with heap := h', toks := tk' }) → PassesOwn (model PySem.Challenge.rw_ik0183_01.row.prog w) (ktrTop dp un gd (Str.ofString "law") cs L a ccd cl []) (envX (Str.ofString "law") cs L a ccd cl) E →
      wpAny (model PySem.Challenge.rw_ik0183_01.row.prog w) (ktrTop dp un gd (Str.ofString "law") cs L a ccd cl []) (PySem.exec S (envX (Str.ofString "law") cs L a ccd cl)) Q E s
set_option maxHeartbeats 8000000 in
theorem c_for1 (w : World) (S : Stmt) (hS : lawFor1 = S) (cs : Scope) (hC : scopeOf lawS = cs) (e T tb : Addr) (otb : Obj) (we wt : List Value) (n1 n2 : Nat) (Es : List Str) (hFM : FinM Es) (hi1 : StrsAre we Es) (hi2 : StrsAre wt (dedupF [] Es)) : For1Do w S cs 12 [(e, listOf we.toArray n1), (T, listOf wt.toArray n2), (tb, otb)] (fun m => m (Str.ofString "ends") = some (.ref e) ∧ m (Str.ofString "told") = some (.ref T)) := by
  conv at hS => lhs; whnf
  cases hS
  conv at hC => lhs; whnf
  cases hC
  unfold For1Do
  w_top off
  k_fill
  intros
  rename_i hV hpre hdp hun hret hpo
  obtain ⟨hme, hmt⟩ := hpre
  have hM := kstMark
  k_with_none
  (k_with "eval Name" => ((k_here; (rename FinM _ => lF9'); k_dflt (refine' nameX_L ?F ?v ?_ ?a ?b; (case F => k_asm); (case a => rfl); (case b => rfl); (case v => first | rfl | assumption); k_whole))))
  (k_with "subscriptTail" => ((k_here; (rename FinM _ => lF9'); (with_reducible show wpAny _ _ (subscriptTail _ (PySem.Expr.Slice none none (some _) _) (Value.ref _) (Value.ref _)) _ _ _); k_dflt (refine' txt_rev ?fsl ?nsl ?msl ?isl ?bsl ?_ ?ssl; (case fsl => k_asm); (case nsl => k_asm); (case msl => k_mem); (case isl => assumption); (case bsl => with_reducible first | (exact len1000 (FinM.le lF9') (by decide)) | (exact len1000 (FinM.num lF9') (by decide)) | (rw [List.length_reverse]; exact len1000 (FinM.le lF9') (by decide)) | (exact len1000 (few_len lF9' _) (by decide)) | (exact len1000 (few_len' lF9' _) (by decide))); (case ssl => with_unfolding_all rfl)); intro D' ws' h' F' N' l1 hS'; (try k_lt l1))))
  (k_with "binaryOp Add ref ref" => ((k_here; (rename FinM _ => lF9'); (with_reducible show wpAny _ _ (binaryOp Operator.Add (Value.ref _) (Value.ref _)) _ _ _); k_dflt (refine' txt_addS' ?fad ?nad ?mad ?kad ?iad ?jad ?zad ?tad ?_; (case fad => k_asm); (case nad => k_asm); (case mad => k_mem); (case kad => k_mem); (case iad => assumption); (case jad => exact .cons _ _ .nil); (case zad => with_reducible first | (exact len1000 (FinM.le lF9') (by decide)) | (exact len1000 (FinM.num lF9') (by decide)) | (rw [List.length_reverse]; exact len1000 (FinM.le lF9') (by decide)) | (exact len1000 (few_len lF9' _) (by decide)) | (exact len1000 (few_len' lF9' _) (by decide))); (case tad => decide)); intro D' zs' h' F' N' l1 hS'; (try k_lt l1))))
  (k_with "exec If" => ((k_here; (rename FinM _ => lF9'); k_dflt (first | (refine' c_if1 _ _ rfl _ rfl _ _ _ _ _ _ _ _ _ ?kBcm _ _ _ _ _ _ _ _ _ _ _ _ _ _ _ _ _ _ _ ?k1cm ?k2cm ?k3cm ?k4cm ?k5cm ?kVcm ?kpcm ?kdcm ?kucm ?_) | (refine' c_if2 _ _ rfl _ rfl _ _ _ _ _ _ _ _ _ ?kBcm _ _ _ _ _ _ _ _ _ _ _ _ _ _ _ _ _ _ _ ?k1cm ?k2cm ?k3cm ?k4cm ?k5cm ?kVcm ?kpcm ?kdcm ?kucm ?_)); k_dflt ((case k1cm => k_asm); (case k2cm => k_asm); (case k3cm => k_asm); (case k4cm => k_asm); (case k5cm => k_asm); (case kpcm => (refine ⟨?_, ⟨?_, ?_, ?_⟩, ?_, ?_, ?_⟩; k_mem; k_mem; assumption; (with_reducible first | (exact len1000 (FinM.le lF9') (by decide)) | (exact len1000 (FinM.num lF9') (by decide)) | (rw [List.length_reverse]; exact len1000 (FinM.le lF9') (by decide)) | (exact len1000 (few_len lF9' _) (by decide)) | (exact len1000 (few_len' lF9' _) (by decide))); k_mem; assumption; (with_reducible first | (exact len1000 (FinM.le lF9') (by decide)) | (exact len1000 (FinM.num lF9') (by decide)) | (rw [List.length_reverse]; exact len1000 (FinM.le lF9') (by decide)) | (exact len1000 (few_len lF9' _) (by decide)) | (exact len1000 (few_len' lF9' _) (by decide))))); (case kBcm => with_reducible first | exact (cmp_rev _).1 | exact (cmp_rev _).2 | exact few1 lF9' (by assumption) (by assumption) | exact few2 lF9' (by assumption) (by assumption) | exact few3 lF9' (by assumption) (by assumption) | exact few4 lF9' (by assumption) (by assumption)); (case kVcm => first | assumption | (constructor <;> decide +kernel)); (case kdcm => ktr_room); (case kucm => ktr_units)); intro h9 tk9 F9 N9; (try dsimp only); (try k_fold))))
  (k_with "eval Constant str" => ((refine sm_str ?_; intro tA' tB')))
  (k_with "eval Constant int" => ((refine sm_int ?_; intro tA' tB')))
  (k_with "storeName" => ((k_here; k_dflt (refine' sm_store ?Fss ?Nss ?_ ?ass ?bss; (case Fss => k_asm); (case Nss => k_asm); (case ass => rfl); (case bss => rfl); k_whole; intro h' tk' F' N'; (try k_sweep)))))
  (k_with "truthy str" => ((k_here; (with_reducible show wpAny _ _ (truthy (Value.str _ _)) _ _ _); refine' sm_truthy ?bst ?_; (case bst => first | assumption | omega); intro tk')))
  (k_with "eval Name" => ((k_here; k_dflt (refine' nameX_L ?Fsn ?vsn ?_ ?asn ?bsn; (case Fsn => k_asm); (case asn => rfl); (case bsn => rfl); (case vsn => first | exact Eq.refl (some _) | assumption); k_whole))))
  (k_with "execs cons" => ((k_here; k_fold)))
  (k_with "exec Assign" => ((k_here; k_fold)))
  (k_with "exec If" => ((k_here; k_fold)))
  (k_with "exec Expr" => ((k_here; k_fold)))
  w_strict k_steps
  all_goals (exact hret _ _ _ (fr_lists (by assumption)) (news_pick3 (by assumption) (by k_mem) (by k_mem) (by k_mem)))
set_option maxHeartbeats 8000000 in
theorem c_for2 (w : World) (S : Stmt) (hS : lawFor2 = S) (cs : Scope) (hC : scopeOf lawS = cs) (e f tb : Addr) (otb : Obj) (we wf : List Value) (n1 n2 : Nat) (Es : List Str) (kk : Int) (hFM : FinM Es) (hk0 : 0 ≤ kk) (hk1 : kk < ((dedupF [] Es).length : Int)) (hi1 : StrsAre we Es) (hi2 : StrsAre wf (fewer (dedupF [] Es) kk.toNat)) : For2Do w S cs 12 [(e, listOf we.toArray n1), (f, listOf wf.toArray n2), (tb, otb)] (fun m => m (Str.ofString "ends") = some (.ref e) ∧ m (Str.ofString "fewer") = some (.ref f)) := by
  conv at hS => lhs; whnf
  cases hS
  conv at hC => lhs; whnf
  cases hC
  unfold For2Do
  w_top off
  k_fill
  intros
  rename_i hV hpre hdp hun hret hpo
  obtain ⟨hme, hmt⟩ := hpre
  have hM := kstMark
  k_with_none
  (k_with "eval Name" => ((k_here; (rename FinM _ => lF9'); k_dflt (refine' nameX_L ?F ?v ?_ ?a ?b; (case F => k_asm); (case a => rfl); (case b => rfl); (case v => first | rfl | assumption); k_whole))))
  (k_with "subscriptTail" => ((k_here; (rename FinM _ => lF9'); (with_reducible show wpAny _ _ (subscriptTail _ (PySem.Expr.Slice none none (some _) _) (Value.ref _) (Value.ref _)) _ _ _); k_dflt (refine' txt_rev ?fsl ?nsl ?msl ?isl ?bsl ?_ ?ssl; (case fsl => k_asm); (case nsl => k_asm); (case msl => k_mem); (case isl => assumption); (case bsl => with_reducible first | (exact len1000 (FinM.le lF9') (by decide)) | (exact len1000 (FinM.num lF9') (by decide)) | (rw [List.length_reverse]; exact len1000 (FinM.le lF9') (by decide)) | (exact len1000 (few_len lF9' _) (by decide)) | (exact len1000 (few_len' lF9' _) (by decide))); (case ssl => with_unfolding_all rfl)); intro D' ws' h' F' N' l1 hS'; (try k_lt l1))))
  (k_with "binaryOp Add ref ref" => ((k_here; (rename FinM _ => lF9'); (with_reducible show wpAny _ _ (binaryOp Operator.Add (Value.ref _) (Value.ref _)) _ _ _); k_dflt (refine' txt_addS' ?fad ?nad ?mad ?kad ?iad ?jad ?zad ?tad ?_; (case fad => k_asm); (case nad => k_asm); (case mad => k_mem); (case kad => k_mem); (case iad => assumption); (case jad => exact .cons _ _ .nil); (case zad => with_reducible first | (exact len1000 (FinM.le lF9') (by decide)) | (exact len1000 (FinM.num lF9') (by decide)) | (rw [List.length_reverse]; exact len1000 (FinM.le lF9') (by decide)) | (exact len1000 (few_len lF9' _) (by decide)) | (exact len1000 (few_len' lF9' _) (by decide))); (case tad => decide)); intro D' zs' h' F' N' l1 hS'; (try k_lt l1))))
  (k_with "exec If" => ((k_here; (rename FinM _ => lF9'); k_dflt (first | (refine' c_if1 _ _ rfl _ rfl _ _ _ _ _ _ _ _ _ ?kBcm _ _ _ _ _ _ _ _ _ _ _ _ _ _ _ _ _ _ _ ?k1cm ?k2cm ?k3cm ?k4cm ?k5cm ?kVcm ?kpcm ?kdcm ?kucm ?_) | (refine' c_if2 _ _ rfl _ rfl _ _ _ _ _ _ _ _ _ ?kBcm _ _ _ _ _ _ _ _ _ _ _ _ _ _ _ _ _ _ _ ?k1cm ?k2cm ?k3cm ?k4cm ?k5cm ?kVcm ?kpcm ?kdcm ?kucm ?_)); k_dflt ((case k1cm => k_asm); (case k2cm => k_asm); (case k3cm => k_asm); (case k4cm => k_asm); (case k5cm => k_asm); (case kpcm => (refine ⟨?_, ⟨?_, ?_, ?_⟩, ?_, ?_, ?_⟩; k_mem; k_mem; assumption; (with_reducible first | (exact len1000 (FinM.le lF9') (by decide)) | (exact len1000 (FinM.num lF9') (by decide)) | (rw [List.length_reverse]; exact len1000 (FinM.le lF9') (by decide)) | (exact len1000 (few_len lF9' _) (by decide)) | (exact len1000 (few_len' lF9' _) (by decide))); k_mem; assumption; (with_reducible first | (exact len1000 (FinM.le lF9') (by decide)) | (exact len1000 (FinM.num lF9') (by decide)) | (rw [List.length_reverse]; exact len1000 (FinM.le lF9') (by decide)) | (exact len1000 (few_len lF9' _) (by decide)) | (exact len1000 (few_len' lF9' _) (by decide))))); (case kBcm => with_reducible first | exact (cmp_rev _).1 | exact (cmp_rev _).2 | exact few1 lF9' (by assumption) (by assumption) | exact few2 lF9' (by assumption) (by assumption) | exact few3 lF9' (by assumption) (by assumption) | exact few4 lF9' (by assumption) (by assumption)); (case kVcm => first | assumption | (constructor <;> decide +kernel)); (case kdcm => ktr_room); (case kucm => ktr_units)); intro h9 tk9 F9 N9; (try dsimp only); (try k_fold))))
  (k_with "eval Constant str" => ((refine sm_str ?_; intro tA' tB')))
  (k_with "eval Constant int" => ((refine sm_int ?_; intro tA' tB')))
  (k_with "storeName" => ((k_here; k_dflt (refine' sm_store ?Fss ?Nss ?_ ?ass ?bss; (case Fss => k_asm); (case Nss => k_asm); (case ass => rfl); (case bss => rfl); k_whole; intro h' tk' F' N'; (try k_sweep)))))
  (k_with "truthy str" => ((k_here; (with_reducible show wpAny _ _ (truthy (Value.str _ _)) _ _ _); refine' sm_truthy ?bst ?_; (case bst => first | assumption | omega); intro tk')))
  (k_with "eval Name" => ((k_here; k_dflt (refine' nameX_L ?Fsn ?vsn ?_ ?asn ?bsn; (case Fsn => k_asm); (case asn => rfl); (case bsn => rfl); (case vsn => first | exact Eq.refl (some _) | assumption); k_whole))))
  (k_with "execs cons" => ((k_here; k_fold)))
  (k_with "exec Assign" => ((k_here; k_fold)))
  (k_with "exec If" => ((k_here; k_fold)))
  (k_with "exec Expr" => ((k_here; k_fold)))
  w_strict k_steps
  all_goals (exact hret _ _ _ (by assumption) (news_pick3 (by assumption) (by k_mem) (by k_mem) (by k_mem)))
end Mine
namespace Mine
open PySem PySem.W PyProof.Rows PySem.Calls
set_option maxRecDepth 100000

theorem parts_add {prog : Program} {w : World} {A : Around} {E : Value → Shared → Prop} {s : Shared} {h₀ : Heap} {L : Addr} {m : Str → Option Value} {news : List (Addr × Obj)} {a b : Addr} {vs ws : List Value} {n k : Nat} {xs : List Int} {j : Nat} {Q : Value → Shared → Prop} (F : Fr h₀ L s.heap m) (N : News h₀ L s.heap news) (hm : (a, listOf vs.toArray n) ∈ news) (hk : (b, listOf ws.toArray k) ∈ news)
    (hi : StrsAre vs (List.map partX (List.take 5 xs))) (hj : StrsAre ws (List.drop j spare)) (hjx : j = (List.take 5 xs).length)
    (h : ∀ ps D zs h', ps = partsOf xs → MarkR ps → Fr h₀ L h' m → News h₀ L h' ((D, listOf (List.toArray zs) 0) :: news) → (∀ p ∈ news, p.1 < D) → StrsAre zs ps → Q (.ref D) { s with heap := h' }) :
    wpAny (model prog w) A (binaryOp .Add (.ref a) (.ref b)) Q E s := by
  subst hjx
  have e := strsAre_append hi hj
  have h5 := (parts_len xs).2
  have hl : (vs ++ ws).length ≤ 5 := by
    rw [e.length]; exact h5
  exact txt_add F N hm hk (by rw [← List.length_append, sizeLine_eq]; omega) fun D h' F' N' l1 => h (partsOf xs) D _ h' rfl ⟨parts_good xs, h5, (parts_len xs).1⟩ F' N' l1 e

set_option maxHeartbeats 8000000 in
theorem lawx : PySem.Challenge.rw_ik0183_01.Holds := hd (by
  k_go0
  all_goals try k_fold
  have hM := kstMark
  k_with_none
  (k_with "call ref" => ((k_here; (with_reducible show wpAny _ _ (call (Value.ref 167) [Value.int _ _]) _ _ _); k_dflt (refine' c_law_part _ _ _ _ _ _ _ _ _ _ _ _ _ _ _ _ _ _ _ _ _ _ _ _ _ ?k1c_law_part ?k2c_law_part ?k3c_law_part ?k4c_law_part ?k5c_law_part ?kKc_law_part ?kpc_law_part ?kdc_law_part ?kuc_law_part ?_); (case k1c_law_part => k_asm); (case k2c_law_part => k_asm); (case k3c_law_part => k_asm); (case k4c_law_part => k_asm); (case k5c_law_part => k_asm); (case kKc_law_part => exact rfl); (case kpc_law_part => exact ⟨Int.fmod_nonneg_of_pos _ (by decide), Int.fmod_lt_of_pos _ (by decide)⟩); (case kdc_law_part => ktr_room); (case kuc_law_part => ktr_units); intro t9 h9 tk9 F9 N9; (try dsimp only); (try k_fold))))
  (k_with "CompSrc" => ((k_here; (with_reducible show LCg.CompSrc _ _ _ _ _ _ _ _ (Str.ofString "x") _ _ _ _ _); k_dflt (refine LCg.CompSrc.ledger (by rfl) (by k_asm) (by k_asm) (by k_mem) (by kcf_size) ?_); intro g'; (rename IntsAre _ (List.take 5 _) => hI9'); (refine' comp_ints partX hI9' ?tC1 ?fC1); (case' fC1 => (intro ys' hS'; (try k_fold))); (case' tC1 => (intro k' t' I' oI' C' oC' D' m' ys' h' tk' E' hk' hC' hx' F' N' off' ne' hMark'; (try (simp only [LCg.Off3, and_true] at off')); (try k_fold))))))
  (k_with "CompEnd" => ((refine LCg.CompEnd.intro (by assumption) (by assumption) _ ?ceS ?ceO ?ceR ⟨rfl, _, rfl⟩; (case ceS => kcf_all); (case ceO => first | assumption | (simp only [LCg.Off3, and_true]; done) | (simp only [LCg.Off3, and_true]; assumption)); (case ceR => first | lcg_src | assumption))))
  (k_with "call builtin:len" => ((k_here; (with_reducible show wpAny _ _ (call (Value.builtin "len") [Value.ref _]) _ _ _); k_dflt (refine' txt_len ?nln ?mln ?iln ?bln ?_; (case nln => k_asm); (case mln => k_mem); (case iln => assumption); (case bln => first | (simp only [List.length_map]; omega) | omega)); intro t' tk')))
  (k_with "subscriptTail" => ((k_here; (with_reducible show wpAny _ _ (subscriptTail _ (PySem.Expr.Slice (some _) none none _) (Value.ref _) (Value.ref _)) _ _ _); k_dflt (refine' txt_from ?fsl ?nsl ?msl ?isl ?zsl ?bsl ?_ ?ssl; (case fsl => k_asm); (case nsl => k_asm); (case msl => k_mem); (case isl => first | assumption | exact .cons _ _ (.cons _ _ (.cons _ _ .nil))); (case zsl => omega); (case bsl => first | (simp only [List.length_cons, List.length_nil]; omega) | omega); (case ssl => with_unfolding_all rfl)); intro D' ws' h' F' N' l1 hS'; (try k_lt l1))))
  (k_with "binaryOp Add ref ref" => ((k_here; (with_reducible show wpAny _ _ (binaryOp Operator.Add (Value.ref _) (Value.ref _)) _ _ _); k_dflt (refine' parts_add ?fad ?nad ?mad ?kad ?iad ?jad ?zad ?_; (case fad => k_asm); (case nad => k_asm); (case mad => k_mem); (case kad => k_mem); (case iad => assumption); (case jad => assumption); (case zad => (simp only [List.length_map]; omega))); intro ps' D' zs' h' hps' hMR' F' N' l1 hS'; (have hge' := MarkR.ge hMR'); (have hle' := MarkR.le hMR'); (try k_lt l1))))
  (k_with "call ref" => ((k_here; (with_reducible show wpAny _ _ (call (Value.ref 52) [Value.ref _, Value.ref _, Value.ref _]) _ _ _); k_dflt (refine' c_reduce _ _ _ _ _ _ _ _ _ _ _ _ _ rfl _ _ _ _ _ _ _ _ _ _ _ _ _ _ _ _ _ _ _ _ _ _ _ _ _ _ _ _ _ ?k1rd ?k2rd ?k3rd ?k4rd ?k5rd ?kKrd ?kprd ?kdrd ?kurd ?_; (case k1rd => k_asm); (case k2rd => k_asm); (case k3rd => k_asm); (case k4rd => k_asm); (case k5rd => k_asm); (case kKrd => exact rfl); (case kprd => (refine ⟨⟨?_, ?_, ?_, ?_⟩, ⟨?_, ?_, ?_⟩, ?_, ?_⟩; k_mem; k_mem; assumption; assumption; k_mem; assumption; assumption; k_mem; exact .cons _ _ .nil)); (case kdrd => ktr_room); (case kurd => ktr_units)); intro D' ws' c' h' tk' F' N' l1 hS'; (try k_lt l1); (try dsimp only); (try k_fold))))
  (k_with "binaryOp Pow int int" => ((k_here; (with_reducible refine pow2_n ?hjpw ?_); (case hjpw => omega); intro t' tk')))
  (k_with "binaryOp FloorDiv int int" => ((k_here; (with_reducible refine div2_n ?hjdv ?_); (case hjdv => omega); intro t' tk')))
  (k_with "binaryOp Mod int int" => ((k_here; (with_reducible refine mod2_n ?_); intro t' tk')))
  (k_with "compareOp Eq int int" => ((k_here; (with_reducible refine one_n ?_))))
  (k_with "call type:range" => ((k_here; (with_reducible show wpAny _ _ (call (Value.type "range") [Value.int _ _]) _ _ _); k_dflt (refine' range1_rows ?frg ?nrg ?_; (case frg => k_asm); (case nrg => k_asm)); intro h' tk' t1' u1' v1' hR' F' N' hk')))
  (k_with "exec For Name Call cons nil" => ((k_here; (with_reducible show wpAny _ _ (PySem.exec (Stmt.For (Expr.Name (Str.ofString "count") _) _ _ _ _) _) _ _ _); (with_unfolding_all refine' For_cell ?k1fc ?_; (case k1fc => exact rfl); k_whole))))
  (k_with "pyIter ref" => (((with_reducible show wpAny _ _ (pyIter (Value.ref _)) (fun it s₂ => LoopAtC _ _ _ _ _ _ _ _ _ it s₂) _ _); k_here; (rename Fr _ _ _ _ => lF'); (rename News _ _ _ _ => lN'); (rename IsRange _ _ _ _ _ _ _ _ => lR9'); (rename MarkR _ => lM9'); (with_unfolding_all refine' law_loop (tb := 176) (endsUp (markPs lM9')) (fun i => dedupF [] (endsUp (markPs lM9') i)) ?q1 ?q2 ?q3 ?q4 ?q5 lR9' ?q6 ?q7 lF' lN' ?q8 ?q9 ?qa ?qb ?qc ?qd ?qe ?qf ?qg ?qh ?qi ?qj ?qk ?ql ?qm ?_ ?_; (case q1 => exact rfl); (case q2 => exact rfl); (case q3 => exact rfl); (case q4 => exact rfl); (case q5 => exact rfl); (case q6 => exact rfl); (case q7 => exact pow_le' (MarkR.le lM9')); (case q8 => exact rfl); (case q9 => exact rfl); (case qa => exact rfl); (case qb => k_mem); (case qc => assumption); (case qd => k_mem); (case qe => k_mem); (case qf => k_mem); (case qg => k_mem); (case qh => assumption); (case qi => k_mem); (case qj => k_mem); (case qk => (refine ⟨?_, ?_, ?_, ?_, ?_, ?_⟩ <;> ((try dsimp only); omega))); (case ql => exact rfl); (case qm => exact rfl)); (all_goals (try clear lF' lN' lR9')); (all_goals (repeat ((rename (@LT.lt Nat _ _ _ ∧ _) => x9'); clear x9'))); (all_goals (repeat ((rename (@Ne Nat _ _ ∧ _) => x9'); clear x9'))); (rotate_left 1); (intro h' tk' oc' v' we' ne' wd' nd' hord' hoc' hE' hD' F' N'; have hM' := kstMark; obtain ⟨Es', hFM', hE9', hD9', hT9'⟩ := law_fin9 lM9' (by assumption) hE' hD' (by assumption); (have hpo' := FinM.pos hFM'); (have hle9' := FinM.num hFM'); (clear hE' hD'); (replace N' := news_four N'); (try k_fold)); (rotate_left 1); (intro i' t' h' tk' I' oI' oc' we' ne' wd' nd' hord' hi' hlt' hoc' hE' hD' F' N'; have hM' := kstMark; have hMT' := markT lM9' i'; obtain ⟨hz1', hz2'⟩ := ends_size hi' (pow_le (MarkR.le lM9')) hE' hD'; k_lt hlt'; (try k_fold)))))
  (k_with "CompSrcT" => ((k_here; (rename MarkT _ _ => lT9'); k_dflt (refine' LCt.CompSrcT.range ?a1T ?a2T ?a3T ?a4T ?hsmT ?hnT ?hszT ?_; (case a1T => rfl); (case a2T => k_asm); (case a3T => k_asm); (case a4T => assumption)); (case hnT => exact rs_nat _); (case hsmT => exact small_one (by omega) (by omega) (by omega) (by omega)); (case hszT => (rw [sizeLine_eq]; omega)); intro g'; (refine' comp_rt (fun k => decide (markI lT9' / 2 ^ k % 2 = 1)) (fun k => (markP lT9').getD k Str.empty) ?tCT ?fCT); (case' fCT => (intro ys' hS'; (try k_fold))); (case' tCT => (intro k' t' I' oI' C' oC' D' m' ys' h' tk' E' hk' hC' hx' F' N' off' ne' hMark'; (try (simp only [LCg.Off3, and_true] at off')); (try k_fold))))))
  (k_with "subscriptTail" => ((k_here; (with_reducible show wpAny _ _ (subscriptTail _ _ (Value.ref _) (Value.int _ _)) _ _ _); (rename MarkT _ _ => lT9'); k_dflt (refine' txt_at ?nti ?mti ?iti ?zti ?kti ?bti ?_; (case nti => k_asm); (case mti => k_mem); (case iti => assumption); (case zti => omega); (case kti => omega); (case bti => omega)); intro t'; (try simp only [Int.toNat_natCast]))))
  (k_with "subscriptTail" => ((k_here; (with_reducible show wpAny _ _ (subscriptTail _ _ (Value.ref _) (Value.int (-1) _)) _ _ _); k_dflt (refine' txt_last ?nti ?mti ?iti ?bti ?zti ?_; (case nti => k_asm); (case mti => k_mem); (case iti => assumption); (case bti => omega); (case zti => exact last_ne _ _)); intro t'; (try simp only [List.getLastD_concat]))))
  (k_with "call ref" => ((k_here; (with_reducible show wpAny _ _ (call (Value.ref 174) [Value.ref _]) _ _ _); (rename MarkT _ _ => lT9'); k_dflt (refine' c_end _ _ _ _ _ _ _ _ _ _ _ _ _ _ _ _ _ _ _ _ _ _ _ _ _ _ _ ?k1en ?k2en ?k3en ?k4en ?k5en ?kKen ?kpen ?kden ?kuen ?_; (case k1en => k_asm); (case k2en => k_asm); (case k3en => k_asm); (case k4en => k_asm); (case k5en => k_asm); (case kKen => exact rfl); (case kpen => (refine ⟨?_, ?_, ?_⟩; k_mem; assumption; exact MarkT.wt lT9')); (case kden => ktr_room); (case kuen => ktr_units)); intro t9 h9 tk9 F9 N9; (try dsimp only); (try k_fold))))
  (k_with "LPost" => ((dsimp only [LPost])))
  (k_with "eval ListComp" => ((k_here; (rename MarkT _ _ => lT9'); lct_look; lcg_calm; k_dflt (refine LCt.ListComp_T (F₀ := by k_asm) (by with_unfolding_all rfl) (by decide) (by rfl) (by decide) (by rfl) ?_))))
  (k_with "CompEnd" => (((rename MarkT _ _ => lT9'); (first | (refine LCg.CompEnd.intro (by assumption) (by assumption) _ ?ceS ?ceO ?ceR (el_t (decide_eq_true (by assumption)))) | (refine LCg.CompEnd.intro (by assumption) (by assumption) _ ?ceS ?ceO ?ceR (el_f (decide_eq_false (by assumption))))); (case ceS => kcf_all); (case ceO => first | assumption | (simp only [LCg.Off3, and_true]; done) | (simp only [LCg.Off3, and_true]; assumption)); (case ceR => first | exact trivial | lcg_src | assumption))))
  (k_with "ElT" => ((exact ⟨rfl, decide_eq_true (by assumption), _, rfl⟩)))
  (k_with "ElF" => ((exact ⟨rfl, decide_eq_false (by assumption)⟩)))
  (k_with "exec If" => ((k_here; (rename MarkT _ _ => lT9'); (refine wpAny_If ?_))))
  (k_with "compareOp NotIn str ref" => ((k_here; (rename MarkT _ _ => lT9'); k_dflt (refine' notin_list_strs (txt_isl ?Nni ?Mni) ?Ini ?_; (case Nni => k_asm); (case Mni => k_mem); (case Ini => assumption); k_whole))))
  (k_with "call builtin:list.append" => ((k_here; (rename MarkT _ _ => lT9'); (with_reducible show wpAny _ _ (call (Value.builtin _) [Value.ref _, Value.str _ _]) _ _ _); k_dflt (refine' txt_append ?fap ?nap ?iap ?uap ?bap ?_; (case fap => k_asm); (case nap => k_asm); (case uap => k_updF); (case iap => assumption); (case bap => omega)); intro h' ws' F' N' hS' hZ'; (try dsimp only at N'))))
  (k_with "LEnd" => (((rename News _ _ _ _ => nE'); refine' lend ?fle nE' ?ile ?cle ?ele ?dle ?rle ?ole ?sle ?tle; (case fle => k_asm); (case ile => k_mem); (case ole => assumption); (case cle => k_mem); (case sle => exact ends_next (by assumption)); (case tle => first | exact due_out (by assumption) (by assumption) | exact due_in (by assumption) (by assumption)); (case ele => k_mem); (case dle => k_mem); (case rle => exact List.forall_mem_cons.mpr ⟨by k_mem, List.forall_mem_cons.mpr ⟨by k_mem, List.forall_mem_cons.mpr ⟨by k_mem, List.forall_mem_cons.mpr ⟨by k_mem, List.forall_mem_nil _⟩⟩⟩⟩))))
  (k_with "compareOp NotEq ref ref" => ((k_here; (with_reducible show wpAny _ _ (compareOp CmpOp.NotEq (Value.ref _) (Value.ref _)) _ _ _); k_dflt (refine' txt_ne_same ?neq ?meq ?keq ?seq ?teq ?ueq ?_; (case neq => k_asm); (case meq => k_mem); (case keq => k_mem); (case seq => assumption); (case teq => assumption); (case ueq => first | ke_room | ktr_units | decide)))))
  (k_with "exec If" => ((k_here; (refine wpAny_If ?_))))
  (k_with "call builtin:len" => ((k_here; (rename FinM _ => lF9'); (with_reducible show wpAny _ _ (call (Value.builtin "len") [Value.ref _]) _ _ _); k_dflt (refine' txt_len ?nln ?mln ?iln ?bln ?_; (case nln => k_asm); (case mln => k_mem); (case iln => assumption); (case bln => with_reducible first | (exact len1000 (FinM.le lF9') (by decide)) | (exact len1000 (FinM.num lF9') (by decide)) | (rw [List.length_reverse]; exact len1000 (FinM.le lF9') (by decide)) | (exact len1000 (few_len lF9' _) (by decide)) | (exact len1000 (few_len' lF9' _) (by decide)))); intro t' tk')))
  (k_with "binaryOp Mod int int" => ((k_here; (rename FinM _ => lF9'); (with_reducible refine mod_pos ?hmp ?_); (case hmp => (have := FinM.pos lF9'; omega)); intro k' t' tk' hk0' hk1')))
  (k_with "subscriptTail Name Slice ref ref" => ((k_here; (rename FinM _ => lF9'); (with_reducible show wpAny _ _ (subscriptTail _ (PySem.Expr.Slice none (some _) none _) (Value.ref _) (Value.ref _)) _ _ _); k_dflt (refine' txt_to ?fsl ?nsl ?msl ?isl ?zsl ?bsl ?_ ?ssl; (case fsl => k_asm); (case nsl => k_asm); (case msl => k_mem); (case isl => assumption); (case zsl => omega); (case bsl => with_reducible first | (exact len1000 (FinM.le lF9') (by decide)) | (exact len1000 (FinM.num lF9') (by decide)) | (rw [List.length_reverse]; exact len1000 (FinM.le lF9') (by decide)) | (exact len1000 (few_len lF9' _) (by decide)) | (exact len1000 (few_len' lF9' _) (by decide))); (case ssl => with_unfolding_all rfl)); intro D' ws' h' F' N' l1 hS'; (try k_lt l1))))
  (k_with "subscriptTail Name Slice ref ref" => ((k_here; (rename FinM _ => lF9'); (with_reducible show wpAny _ _ (subscriptTail _ (PySem.Expr.Slice (some _) none none _) (Value.ref _) (Value.ref _)) _ _ _); k_dflt (refine' txt_from ?fsl ?nsl ?msl ?isl ?zsl ?bsl ?_ ?ssl; (case fsl => k_asm); (case nsl => k_asm); (case msl => k_mem); (case isl => assumption); (case zsl => omega); (case bsl => with_reducible first | (exact len1000 (FinM.le lF9') (by decide)) | (exact len1000 (FinM.num lF9') (by decide)) | (rw [List.length_reverse]; exact len1000 (FinM.le lF9') (by decide)) | (exact len1000 (few_len lF9' _) (by decide)) | (exact len1000 (few_len' lF9' _) (by decide))); (case ssl => with_unfolding_all rfl)); intro D' ws' h' F' N' l1 hS'; (try k_lt l1))))
  (k_with "binaryOp Add ref ref" => ((k_here; (rename FinM _ => lF9'); (with_reducible show wpAny _ _ (binaryOp Operator.Add (Value.ref _) (Value.ref _)) _ _ _); k_dflt (refine' fewer_add ?fad ?nad ?mad ?kad ?iad ?jad ?zad ?tad ?_; (case fad => k_asm); (case nad => k_asm); (case mad => k_mem); (case kad => k_mem); (case iad => assumption); (case jad => assumption); (case zad => omega); (case tad => exact FinM.num lF9')); intro D' zs' h' F' N' l1 hS'; (try k_lt l1))))
  (k_with "exec For Name Tuple cons nil" => ((k_here; (rename FinM _ => lF9'); k_dflt (refine' c_for1 _ _ rfl _ rfl _ _ 176 _ _ _ _ _ _ lF9' ?hi1 ?hi2 _ _ _ _ _ _ _ _ _ _ _ _ _ _ _ _ _ _ ?k1f ?k2f ?k3f ?k4f ?k5f ?kVf ?kpf ?kdf ?kuf ?_ ?kof; (case k1f => k_asm); (case k2f => k_asm); (case kpf => (constructor <;> rfl)); (case k3f => k_asm); (case k4f => exact news_pick3 (by k_asm) (by k_mem) (by k_mem) (by k_mem)); (case k5f => k_asm); (case kVf => (constructor <;> decide +kernel)); (case kdf => ktr_room); (case kuf => ktr_units); (case kof => passes_own); (case hi1 => assumption); (case hi2 => assumption)); intro h' tk' u' F' N'; (try dsimp only); (try k_fold))))
  (k_with "exec For Name Tuple cons nil" => ((k_here; (rename FinM _ => lF9'); k_dflt (refine' c_for2 _ _ rfl _ rfl _ _ 176 _ _ _ _ _ _ _ lF9' ?hk0 ?hk1 ?hi1 ?hi2 _ _ _ _ _ _ _ _ _ _ _ _ _ _ _ _ _ _ ?k1f ?k2f ?k3f ?k4f ?k5f ?kVf ?kpf ?kdf ?kuf ?_ ?kof; (case k1f => k_asm); (case k2f => k_asm); (case kpf => (constructor <;> rfl)); (case k3f => k_asm); (case k4f => exact news_pick3 (by k_asm) (by k_mem) (by k_mem) (by k_mem)); (case k5f => k_asm); (case kVf => (constructor <;> decide +kernel)); (case kdf => ktr_room); (case kuf => ktr_units); (case kof => passes_own); (case hi1 => assumption); (case hi2 => assumption); (case hk0 => assumption); (case hk1 => assumption)); intro h' tk' m' F' N'; (try dsimp only); (try k_fold))))
  (k_with "eval Constant str" => ((refine sm_str ?_; intro tA' tB')))
  (k_with "eval Constant int" => ((refine sm_int ?_; intro tA' tB')))
  (k_with "storeName" => ((k_here; k_dflt (refine' sm_store ?Fss ?Nss ?_ ?ass ?bss; (case Fss => k_asm); (case Nss => k_asm); (case ass => rfl); (case bss => rfl); k_whole; intro h' tk' F' N'; (try k_sweep)))))
  (k_with "truthy str" => ((k_here; (with_reducible show wpAny _ _ (truthy (Value.str _ _)) _ _ _); refine' sm_truthy ?bst ?_; (case bst => first | assumption | omega); intro tk')))
  (k_with "eval Name" => ((k_here; k_dflt (refine' nameX_L ?Fsn ?vsn ?_ ?asn ?bsn; (case Fsn => k_asm); (case asn => rfl); (case bsn => rfl); (case vsn => first | exact Eq.refl (some _) | assumption); k_whole))))
  (k_with "execs cons" => ((k_here; k_fold)))
  (k_with "exec Assign" => ((k_here; k_fold)))
  (k_with "exec If" => ((k_here; k_fold)))
  (k_with "exec Expr" => ((k_here; k_fold)))
  w_strict k_steps
  all_goals w_report)
end Mine
theorem PySem.Challenge.cw_ik0183_01_holds : PySem.Challenge.rw_ik0183_01.Holds :=
  Mine.lawx
