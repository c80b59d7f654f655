import PyProof.Rows.All
import Wide.All
import OpenK.AllK
import Wide.FinOn
import PySem.Challenge.RW_ez0122_01
open PySem PySem.W PyProof.Rows PySem.Calls
set_option Elab.async false
namespace Mine
set_option maxRecDepth 100000 in
set_option maxHeartbeats 8000000 in
open_top hd for PySem.Challenge.rw_ez0122_01
section
theorem gentoks {α : Type} {M : Model} {A : Around} {T : Sem α} {Q : α → Shared → Prop} {E : Value → Shared → Prop} {hp : Heap} {g : Array GenState} {d : Drawn} {os : OsState} {a b : Nat}
   (h : ∀ tk, wpAny M A T Q E ⟨hp, g, d, tk, os⟩) : wpAny M A T Q E ⟨hp, g, d, a + b, os⟩ := h _
theorem divmod_K {prog : Program} {w : World} {A : Around} {E : Value → Shared → Prop} {s : Shared} {a b : Int} {t u : Tok} {Q : Value → Shared → Prop} {h₀ : Heap} {L : Addr} {m : Str → Option Value} {news : List (Addr × Obj)}
    (F : Fr h₀ L s.heap m) (N : News h₀ L s.heap news) (hb : 0 < b) (hp : Builtin.divisionGoesByPylong a b = false)
    (h : ∀ q h' t1 t2 tk', Fr h₀ L h' m → News h₀ L h' ((q, { cls := .type "tuple", data := .seq #[.int (a / b) t1, .int (a % b) t2] }) :: news) → (∀ p ∈ news, p.1 < q) →
      Q (.ref q) { s with toks := tk', heap := h' }) :
    wpAny (model prog w) A (call (.builtin "divmod") [.int a t, .int b u]) Q E s := by
  have e1 : a.fdiv b = a / b := Int.fdiv_eq_ediv_of_nonneg _ (by omega)
  have e2 : a.fmod b = a % b := Int.fmod_eq_emod_of_nonneg _ (by omega)
  refine divmod_int (by omega) ?_ (.inl hp)
  rw [e1, e2]
  exact h _ _ _ _ _ (F.push _) (N.push F _) fun p hp => Heap.lt_size (N p hp).1
theorem fdivP {prog : Program} {w : World} {A : Around} {E : Value → Shared → Prop} {s : Shared} {a b : Int} {t u : Tok} {Q : Value → Shared → Prop} (hb : 0 < b) (hp : Builtin.divisionGoesByPylong a b = false)
    (h : Q (.int (a / b) s.toks) { s with toks := s.toks + 1 }) : wpAny (model prog w) A (binaryOp .FloorDiv (.int a t) (.int b u)) Q E s :=
  floordiv_int (by omega) (by rw [Int.fdiv_eq_ediv_of_nonneg _ (by omega)]; exact h) (.inl hp)
theorem fmodP {prog : Program} {w : World} {A : Around} {E : Value → Shared → Prop} {s : Shared} {a b : Int} {t u : Tok} {Q : Value → Shared → Prop} (hb : 0 < b)
    (h : Q (.int (a % b) s.toks) { s with toks := s.toks + 1 }) : wpAny (model prog w) A (binaryOp .Mod (.int a t) (.int b u)) Q E s :=
  mod_int' (by omega) (by rw [Int.fmod_eq_emod_of_nonneg _ (by omega)]; exact h)
abbrev tdObj (P : Params) (us : Int) (k1 k2 k3 v1 v2 v3 : Tok) : Obj := dictOf [⟨PyData.keyHash P (Str.ofString "days"), .str (Str.ofString "days") k1, .int (us / 86400000000) v1⟩, ⟨PyData.keyHash P (Str.ofString "seconds"), .str (Str.ofString "seconds") k2, .int (us % 86400000000 / 1000000) v2⟩, ⟨PyData.keyHash P (Str.ofString "microseconds"), .str (Str.ofString "microseconds") k3, .int (us % 86400000000 % 1000000) v3⟩] 3
abbrev dtObj (P : Params) (us : Int) (k1 v1 : Tok) : Obj := dictOf [⟨PyData.keyHash P (Str.ofString "microseconds"), .str (Str.ofString "microseconds") k1, .int us v1⟩] 1
theorem drop2 {h₀ h : Heap} {L : Addr} {a b : Addr × Obj} {news : List (Addr × Obj)} (N : News h₀ L h (a :: b :: news)) : News h₀ L h news := fun p hp => N p (.tail _ (.tail _ hp))
theorem drop1 {h₀ h : Heap} {L : Addr} {a : Addr × Obj} {news : List (Addr × Obj)} (N : News h₀ L h (a :: news)) : News h₀ L h news := fun p hp => N p (.tail _ hp)
theorem absN {prog : Program} {w : World} {A : Around} {E : Value → Shared → Prop} {s : Shared} {a : Int} {t : Tok} {Q : Value → Shared → Prop} (h : ∀ u tk, Q (.int (a.natAbs : Int) u) { s with toks := tk }) :
    wpAny (model prog w) A (call (.builtin "abs") [.int a t]) Q E s :=
  call_abs_int fun u tk => by
    have e : (if a < 0 then -a else a) = (a.natAbs : Int) := by split <;> omega
    rw [e]; exact h u tk
theorem lk_hit {x : Str} {ic : Decidable (x = x)} {a b : Option Value} : (if x = x then a else b) = a := if_pos rfl
theorem lk_miss {x k : Str} {ic : Decidable (x = k)} {a b o : Option Value} (h : ¬ x = k) (e : b = o) : (if x = k then a else b) = o := (if_neg h).trans e
theorem ll_hit {x : Str} {v : Value} {l : List (Str × Value)} : List.lookup x ((x, v) :: l) = some v := by
  unfold List.lookup; rw [beq_self_eq_true]
theorem ll_miss {x k : Str} {v : Value} {l : List (Str × Value)} {o : Option Value} (h : ¬ x = k) (e : List.lookup x l = o) : List.lookup x ((k, v) :: l) = o := by
  unfold List.lookup; rw [beq_eq_false_iff_ne.2 h]; exact e
theorem fr_args {h₀ h : Heap} {L : Addr} {l l' : List (Str × Value)} (F : Fr h₀ L h (fun y => List.lookup y l)) (e : l = l') : Fr h₀ L h (fun y => List.lookup y l') := e ▸ F
theorem lk_no {b : Bool} {ic : Decidable (b = true)} {a c o : Option Value} (h : b = false) (e : c = o) : (if b = true then a else c) = o := by
  subst h; exact (if_neg Bool.false_ne_true).trans e
local macro_rules | `(tactic| walk_at "ite") => `(tactic| (k_openite; first | (with_reducible refine split_ine ?_ ?_ <;> intro _) | (with_reducible refine split_ieq ?_ ?_ <;> intro _) | (with_reducible refine split_dec ?_ ?_ <;> intro _)))
local macro_rules | `(tactic| walk_at "eval Name") => `(tactic| (name_kind "globalImplicit"; (with_reducible refine' name_K ?k0 ?k1 ?k2 ?k3 ?_ ?hk ?hx ?hd); (case k0 => k_asm); (case k1 => k_asm); (case k2 => k_asm); (case k3 => k_is); (case hk => exact rfl); (case hx => exact kindOf_of_beq (by decide +kernel)); (case hd => decide +kernel); k_whole))
local macro_rules | `(tactic| walk_at "eval Name") => `(tactic| (name_kind "local"; (with_reducible refine' ld ?k1 ?k2 ?_ ?hk ?hl ?hd); (case k1 => k_asm); (case k2 => (repeat first | with_reducible exact lk_hit | (with_reducible refine lk_miss (by decide +kernel) ?_) | with_reducible exact ll_hit | (with_reducible refine lk_no (by decide +kernel) ?_) | (with_reducible refine ll_miss (by decide +kernel) ?_))); (case hk => exact rfl); (case hl => exact kindOf_of_beq (by decide +kernel)); (case hd => decide +kernel); k_whole))
local macro_rules | `(tactic| walk_at "newList") => `(tactic| (k_here; k_dflt (with_reducible refine' newList_K ?k1 ?k2 ?_; (case k1 => k_asm); (case k2 => k_asm); k_whole); intro l' h' F' N' l1; (try k_lt l1); (try k_sweep)))
local macro_rules | `(tactic| walk_at "eval Name") => `(tactic| (name_kind "globalImplicit"; name_is_builtin; (with_reducible refine' name_B ?k0 ?k1 ?k2 ?k3 ?k4 ?k5 ?_ ?hk ?hx ?hd); (case k0 => k_asm); (case k1 => k_asm); (case k2 => k_asm); (case k3 => k_is); (case k4 => boot_by_name); (case k5 => decide +kernel); (case hk => exact rfl); (case hx => exact kindOf_of_beq (by decide +kernel)); (case hd => decide +kernel); k_whole))
local macro_rules | `(tactic| walk_at "execs cons") => `(tactic| (with_reducible refine gentoks ?_; intro tk; with_reducible refine wpAny_execs_cons ?_; try dsimp only))
local macro_rules | `(tactic| walk_at "execs nil") => `(tactic| (with_reducible refine gentoks ?_; intro tk; with_reducible refine wpAny_execs_nil ?_; try dsimp only))
local macro_rules | `(tactic| k_room) => `(tactic| ((try simp only [depth_under_make, depth_under_kw, depth_in1, depth_deeper, depth_caller]); (try dsimp only [ktrTop]); omega))
local macro_rules | `(tactic| walk_at "call builtin:divmod") => `(tactic| (k_here; (with_reducible show wpAny _ _ (call (Value.builtin _) [Value.int _ _, Value.int _ _]) _ _ _); (refine divmod_K (by assumption) (by assumption) (by side_arith) (by first | exact PyProof.noPylong_of_log2 (by decide +kernel) | exact PyProof.noPylong_small (by omega)) ?_); intro q' h' u' v' tk' F' N' l1; (try k_lt l1); (try k_sweep)))
local macro_rules | `(tactic| k_mem) => `(tactic| assumption)
local macro_rules | `(tactic| walk_at "binaryOp FloorDiv int int") => `(tactic| (with_reducible refine fdivP (by first | decide | omega) (by first | exact PyProof.noPylong_of_log2 (by decide +kernel) | exact PyProof.noPylong_small (by omega)) ?_))
local macro_rules | `(tactic| walk_at "binaryOp Mod int int") => `(tactic| (with_reducible refine fmodP (by first | decide | omega) ?_))
local macro_rules | `(tactic| walk_at "call builtin:abs") => `(tactic| ((with_reducible refine absN ?_); intro _ _))
local macro_rules | `(tactic| walk_at "ite") => `(tactic| (k_openite; k_spoken; first | (refine ite_pos (by ((try simp only [decide_eq_true_eq, Bool.not_eq_true', decide_eq_false_iff_not, beq_iff_eq, bne_iff_ne, ne_eq]); omega)) ?_; walk_say "CUT") | (refine ite_neg (by ((try simp only [decide_eq_true_eq, Bool.not_eq_true', decide_eq_false_iff_not, beq_iff_eq, bne_iff_ne, ne_eq]); omega)) ?_; walk_say "CUT")))
local macro_rules | `(tactic| walk_at "ite") => `(tactic| (k_closed; k_dflt (first | refine ite_pos (by decide +kernel) ?_ | refine ite_neg (by decide +kernel) ?_)))
def rnd (n d : Int) : Int := if 2 * (n % d) > d ∨ (2 * (n % d) = d ∧ n / d % 2 = 1) then n / d + 1 else n / d
theorem rnd_lo (n d : Int) : n / d ≤ rnd n d := by unfold rnd; split <;> omega
theorem rnd_hi (n d : Int) : rnd n d ≤ n / d + 1 := by unfold rnd; split <;> omega
set_option maxRecDepth 100000 in
set_option maxHeartbeats 8000000 in
theorem rounded_call : ∀ {w : World} {loose : List Str} {mean : ExcName → Option Value} {mg mb : Str → Option Value} {dp un : Nat} {gd : Option (List Code)} {cn : Str} {nms : List (Str × NameKind)} {ig ic : Bool} {mo : List (Str × Const)} {L a : Addr} {ccd : Value} {cl : List (Str × Addr)} {outer : List Env} {A₀ : Around} {base h₀ : Heap} {m : Str → Option Value} {news : List (Addr × Obj)} {s : Shared} {Q E : Value → Shared → Prop} {n d : Int} {t1 t2 : Tok},
  Below A₀ base outer h₀ → Fr h₀ L s.heap m → (hd.heap_39 w.params).In h₀ → News h₀ L s.heap news → Top hd.view_39 loose mean mg mb h₀ → dp + 1 < recursionLimit → un + 8 < cLine → 0 ≤ n → n < 1152921504606846976 → 0 < d → d < 1048576 → 
  (∀ r t h' tk', r = rnd n d → n / d ≤ r → r ≤ n / d + 1 → Fr h₀ L h' m → News h₀ L h' news → Q (.int r t) {s with heap := h', toks := tk'}) →
  wpAny (model Challenge.rw_ez0122_01.row.prog w) (ktrTop dp un gd cn ⟨.function, nms, ig, ic, mo⟩ L a ccd cl outer) (call (.ref 92) [.int n t1, .int d t2]) Q E s := (by
  w_on
  k_with_none
  k_with "tree" => simp only [rnd]
  k_fill
  intro w loose mean mg mb dp un gd cn nms ig ic mo L a ccd cl outer A₀ base h₀ m news s Q E n d t1 t2 B F X N T hdp hun hn0 hn1 hd0 hd1 hret0
  have hret : ∀ t h' tk', Fr h₀ L h' m → News h₀ L h' news → Q (.int (rnd n d) t) {s with heap := h', toks := tk'} := fun t h' tk' => hret0 _ t h' tk' rfl (rnd_lo _ _) (rnd_hi _ _)
  clear hret0
  w_strict (walk1; ((rename Fr _ _ _ (fun y => List.lookup y _) => F9); replace F9 := fr_args F9 (l' := [(Str.ofString "d", .int d t2), (Str.ofString "n", .int n t1)]) (by kernel_rfl)); k_steps; all_goals cb_end hret))
set_option maxRecDepth 100000 in
set_option maxHeartbeats 8000000 in
theorem td_call : ∀ {w : World} {loose : List Str} {mean : ExcName → Option Value} {mg mb : Str → Option Value} {dp un : Nat} {gd : Option (List Code)} {cn : Str} {nms : List (Str × NameKind)} {ig ic : Bool} {mo : List (Str × Const)} {L a : Addr} {ccd : Value} {cl : List (Str × Addr)} {outer : List Env} {A₀ : Around} {base h₀ : Heap} {m : Str → Option Value} {news : List (Addr × Obj)} {s : Shared} {Q E : Value → Shared → Prop} {u : Int} {t1 t2 t3 : Tok},
  Below A₀ base outer h₀ → Fr h₀ L s.heap m → (hd.heap_39 w.params).In h₀ → News h₀ L s.heap news → Top hd.view_39 loose mean mg mb h₀ → dp + 8 < recursionLimit → un + 64 < cLine → -1000000000000000000 < u → u < 1000000000000000000 → 
  (∀ x dx k1 k2 k3 v1 v2 v3 h' tk', Fr h₀ L h' m → News h₀ L h' ((x, instObj 46 dx) :: (dx, tdObj w.params u k1 k2 k3 v1 v2 v3) :: news) → (∀ p ∈ news, p.1 < dx) → dx < x → Q (.ref x) {s with heap := h', toks := tk'}) →
  wpAny (model Challenge.rw_ez0122_01.row.prog w) (ktrTop dp un gd cn ⟨.function, nms, ig, ic, mo⟩ L a ccd cl outer) (call (.ref 46) [.int 0 t1, .int 0 t2, .int u t3]) Q E s := (by
  w_on
  k_with_none
  k_fill
  intro w loose mean mg mb dp un gd cn nms ig ic mo L a ccd cl outer A₀ base h₀ m news s Q E u  t1 t2 t3  B F X N T hdp hun hu0 hu1 hret
  w_strict (k_steps; all_goals (rename News _ _ _ _ => kN9; (have e0 : ((0 * 86400 + 0) * 1000000 + u : Int) = u := by omega); rw [e0] at kN9; refine' hret _ _ _ _ _ _ _ _ _ _ ?F (drop2 kN9) ?l1 ?l2; (case F => k_asm); (case l1 => assumption); (case l2 => assumption))))
set_option maxRecDepth 100000 in
set_option maxHeartbeats 8000000 in
theorem td_secs : ∀ {w : World} {loose : List Str} {mean : ExcName → Option Value} {mg mb : Str → Option Value} {dp un : Nat} {gd : Option (List Code)} {cn : Str} {nms : List (Str × NameKind)} {ig ic : Bool} {mo : List (Str × Const)} {L a : Addr} {ccd : Value} {cl : List (Str × Addr)} {outer : List Env} {A₀ : Around} {base h₀ : Heap} {m : Str → Option Value} {news : List (Addr × Obj)} {s : Shared} {Q E : Value → Shared → Prop} {u : Int} {t1 : Tok},
  Below A₀ base outer h₀ → Fr h₀ L s.heap m → (hd.heap_39 w.params).In h₀ → News h₀ L s.heap news → Top hd.view_39 loose mean mg mb h₀ → dp + 8 < recursionLimit → un + 64 < cLine → -1000000000000 < u → u < 1000000000000 → 
  (∀ x dx k1 k2 k3 v1 v2 v3 h' tk', Fr h₀ L h' m → News h₀ L h' ((x, instObj 46 dx) :: (dx, tdObj w.params (u * 1000000) k1 k2 k3 v1 v2 v3) :: news) → (∀ p ∈ news, p.1 < dx) → dx < x → Q (.ref x) {s with heap := h', toks := tk'}) →
  wpAny (model Challenge.rw_ez0122_01.row.prog w) (ktrTop dp un gd cn ⟨.function, nms, ig, ic, mo⟩ L a ccd cl outer) (call (.ref 46) [] [(Str.ofString "seconds", .int u t1)]) Q E s := (by
  w_on
  k_with_none
  k_fill
  intro w loose mean mg mb dp un gd cn nms ig ic mo L a ccd cl outer A₀ base h₀ m news s Q E u  t1  B F X N T hdp hun hu0 hu1 hret
  w_strict (k_steps; all_goals (rename News _ _ _ _ => kN9; (have e0 : ((0 * 86400 + u) * 1000000 + 0 : Int) = (u * 1000000) := by omega); rw [e0] at kN9; refine' hret _ _ _ _ _ _ _ _ _ _ ?F (drop2 kN9) ?l1 ?l2; (case F => k_asm); (case l1 => assumption); (case l2 => assumption))))
set_option maxRecDepth 100000 in
set_option maxHeartbeats 8000000 in
theorem td_days : ∀ {w : World} {loose : List Str} {mean : ExcName → Option Value} {mg mb : Str → Option Value} {dp un : Nat} {gd : Option (List Code)} {cn : Str} {nms : List (Str × NameKind)} {ig ic : Bool} {mo : List (Str × Const)} {L a : Addr} {ccd : Value} {cl : List (Str × Addr)} {outer : List Env} {A₀ : Around} {base h₀ : Heap} {m : Str → Option Value} {news : List (Addr × Obj)} {s : Shared} {Q E : Value → Shared → Prop} {u : Int} {t1 : Tok},
  Below A₀ base outer h₀ → Fr h₀ L s.heap m → (hd.heap_39 w.params).In h₀ → News h₀ L s.heap news → Top hd.view_39 loose mean mg mb h₀ → dp + 8 < recursionLimit → un + 64 < cLine → -10000000 < u → u < 10000000 → 
  (∀ x dx k1 k2 k3 v1 v2 v3 h' tk', Fr h₀ L h' m → News h₀ L h' ((x, instObj 46 dx) :: (dx, tdObj w.params (u * 86400000000) k1 k2 k3 v1 v2 v3) :: news) → (∀ p ∈ news, p.1 < dx) → dx < x → Q (.ref x) {s with heap := h', toks := tk'}) →
  wpAny (model Challenge.rw_ez0122_01.row.prog w) (ktrTop dp un gd cn ⟨.function, nms, ig, ic, mo⟩ L a ccd cl outer) (call (.ref 46) [.int u t1]) Q E s := (by
  w_on
  k_with_none
  k_fill
  intro w loose mean mg mb dp un gd cn nms ig ic mo L a ccd cl outer A₀ base h₀ m news s Q E u  t1  B F X N T hdp hun hu0 hu1 hret
  w_strict (k_steps; all_goals (rename News _ _ _ _ => kN9; (have e0 : ((u * 86400 + 0) * 1000000 + 0 : Int) = (u * 86400000000) := by omega); rw [e0] at kN9; refine' hret _ _ _ _ _ _ _ _ _ _ ?F (drop2 kN9) ?l1 ?l2; (case F => k_asm); (case l1 => assumption); (case l2 => assumption))))
set_option maxRecDepth 100000 in
set_option maxHeartbeats 8000000 in
theorem dt_call : ∀ {w : World} {loose : List Str} {mean : ExcName → Option Value} {mg mb : Str → Option Value} {dp un : Nat} {gd : Option (List Code)} {cn : Str} {nms : List (Str × NameKind)} {ig ic : Bool} {mo : List (Str × Const)} {L a : Addr} {ccd : Value} {cl : List (Str × Addr)} {outer : List Env} {A₀ : Around} {base h₀ : Heap} {m : Str → Option Value} {news : List (Addr × Obj)} {s : Shared} {Q E : Value → Shared → Prop} {u : Int} {t1 : Tok},
  Below A₀ base outer h₀ → Fr h₀ L s.heap m → (hd.heap_39 w.params).In h₀ → News h₀ L s.heap news → Top hd.view_39 loose mean mg mb h₀ → dp + 8 < recursionLimit → un + 64 < cLine → 0 ≤ u → u < 315537897600000000 → 
  (∀ x dx k1 v1 h' tk', Fr h₀ L h' m → News h₀ L h' ((x, instObj 81 dx) :: (dx, dtObj w.params u k1 v1) :: news) → (∀ p ∈ news, p.1 < dx) → dx < x → Q (.ref x) {s with heap := h', toks := tk'}) →
  wpAny (model Challenge.rw_ez0122_01.row.prog w) (ktrTop dp un gd cn ⟨.function, nms, ig, ic, mo⟩ L a ccd cl outer) (call (.ref 81) [.int u t1]) Q E s := (by
  w_on
  k_with_none
  k_fill
  intro w loose mean mg mb dp un gd cn nms ig ic mo L a ccd cl outer A₀ base h₀ m news s Q E u t1 B F X N T hdp hun hu0 hu1 hret
  w_strict (k_steps; all_goals (rename News _ _ _ _ => kN9; refine' hret _ _ _ _ _ _ ?F kN9 ?l1 ?l2; (case F => k_asm); (case l1 => assumption); (case l2 => assumption))))
theorem ret_tk {h₀ h' : Heap} {L : Addr} {m : Str → Option Value} {news : List (Addr × Obj)} {s : Shared} {Q : Value → Shared → Prop} {x y : Str} {t : Tok} {tk' : Nat}
    (hret : ∀ (t : Tok) (h' : Heap) (tk' : Nat), tk' ≠ 0 → Fr h₀ L h' m → News h₀ L h' news → Q (.str x t) { s with heap := h', toks := tk' }) (e : y = x) (F : Fr h₀ L h' m) (N : News h₀ L h' news) : Q (.str y t) { s with heap := h', toks := tk' + 1 } := by
  subst e
  exact hret t h' _ (Nat.succ_ne_zero _) F N
set_option maxRecDepth 100000 in
set_option maxHeartbeats 8000000 in
theorem gt_call : ∀ {w : World} {loose : List Str} {mean : ExcName → Option Value} {mg mb : Str → Option Value} {dp un : Nat} {gd : Option (List Code)} {cn : Str} {nms : List (Str × NameKind)} {ig ic : Bool} {mo : List (Str × Const)} {L a : Addr} {ccd : Value} {cl : List (Str × Addr)} {outer : List Env} {A₀ : Around} {base h₀ : Heap} {m : Str → Option Value} {news : List (Addr × Obj)} {s : Shared} {Q E : Value → Shared → Prop} {x : Str} {t1 : Tok},
  Below A₀ base outer h₀ → Fr h₀ L s.heap m → (hd.heap_39 w.params).In h₀ → News h₀ L s.heap news → Top hd.view_39 loose mean mg mb h₀ → dp + 1 < recursionLimit → un + 8 < cLine → 
  (∀ t h' tk', Fr h₀ L h' m → News h₀ L h' news → Q (.str x t) {s with heap := h', toks := tk'}) →
  wpAny (model Challenge.rw_ez0122_01.row.prog w) (ktrTop dp un gd cn ⟨.function, nms, ig, ic, mo⟩ L a ccd cl outer) (call (.ref 247) [.str x t1]) Q E s := (by
  w_on
  k_with_none
  k_fill
  intro w loose mean mg mb dp un gd cn nms ig ic mo L a ccd cl outer A₀ base h₀ m news s Q E x t1 B F X N T hdp hun hret
  w_strict (walk1; ((rename Fr _ _ _ (fun y => List.lookup y _) => F9); replace F9 := fr_args F9 (l' := [(Str.ofString "message", .str x t1)]) (by kernel_rfl)); k_steps; all_goals (refine' cb_retS (Q := Q) hret ?e0 ?F ?N; (case e0 => rfl); (case F => k_asm); (case N => k_asm))))
set_option maxRecDepth 100000 in
set_option maxHeartbeats 8000000 in
theorem ng_call : ∀ {w : World} {loose : List Str} {mean : ExcName → Option Value} {mg mb : Str → Option Value} {dp un : Nat} {gd : Option (List Code)} {cn : Str} {nms : List (Str × NameKind)} {ig ic : Bool} {mo : List (Str × Const)} {L a : Addr} {ccd : Value} {cl : List (Str × Addr)} {outer : List Env} {A₀ : Around} {base h₀ : Heap} {m : Str → Option Value} {news : List (Addr × Obj)} {s : Shared} {Q E : Value → Shared → Prop} {x y : Str} {n : Int} {t1 t2 t3 : Tok},
  Below A₀ base outer h₀ → Fr h₀ L s.heap m → (hd.heap_39 w.params).In h₀ → News h₀ L s.heap news → Top hd.view_39 loose mean mg mb h₀ → dp + 1 < recursionLimit → un + 8 < cLine → (n = 1 → ∀ t h' tk', tk' ≠ 0 → Fr h₀ L h' m → News h₀ L h' news → Q (.str x t) {s with heap := h', toks := tk'}) → 
  (n ≠ 1 → ∀ t h' tk', tk' ≠ 0 → Fr h₀ L h' m → News h₀ L h' news → Q (.str y t) {s with heap := h', toks := tk'}) →
  wpAny (model Challenge.rw_ez0122_01.row.prog w) (ktrTop dp un gd cn ⟨.function, nms, ig, ic, mo⟩ L a ccd cl outer) (call (.ref 254) [.str x t1, .str y t2, .int n t3]) Q E s := (by
  w_on
  k_with_none
  k_fill
  intro w loose mean mg mb dp un gd cn nms ig ic mo L a ccd cl outer A₀ base h₀ m news s Q E x y n t1 t2 t3 B F X N T hdp hun hr1 hr2
  w_strict (walk1; ((rename Fr _ _ _ (fun y => List.lookup y _) => F9); replace F9 := fr_args F9 (l' := [(Str.ofString "num", .int n t3), (Str.ofString "plural", .str y t2), (Str.ofString "message", .str x t1)]) (by kernel_rfl)); k_steps; all_goals first | (refine' ret_tk (Q := Q) (hr1 (by assumption)) ?e0 ?F ?N; (case e0 => rfl); (case F => k_asm); (case N => k_asm)) | (refine' ret_tk (Q := Q) (hr2 (by assumption)) ?e0 ?F ?N; (case e0 => rfl); (case F => k_asm); (case N => k_asm))))
local macro_rules | `(tactic| walk_at "call ref") => `(tactic| (k_here; (with_reducible show wpAny _ _ (call (Value.ref 92) _ _) _ _ _); k_dflt (show wpAny _ _ (call (Value.ref 92) [Value.int _ _, Value.int _ _]) _ _ _); k_dflt (refine' rounded_call ?k1 ?k2 ?k3 ?k4 ?k5 ?kd ?ku ?p0 ?p1 ?p2 ?p3 ?_; (case k1 => k_asm); (case k2 => k_asm); (case k3 => k_asm); (case k4 => k_asm); (case k5 => k_asm); (case p0 => first | omega | assumption); (case p1 => first | omega | assumption); (case p2 => first | omega | assumption); (case p3 => first | omega | assumption); (case kd => k_room); (case ku => ktr_units); k_whole); intro r' t' h' tk' re' b1' b2' F' N'; (try k_sweep); (try dsimp only); (try k_fold)))
local macro_rules | `(tactic| walk_at "call ref") => `(tactic| (k_here; (with_reducible show wpAny _ _ (call (Value.ref 46) _ _) _ _ _); k_dflt (show wpAny _ _ (call (Value.ref 46) [Value.int 0 _, Value.int 0 _, Value.int _ _]) _ _ _); k_dflt (refine' td_call ?k1 ?k2 ?k3 ?k4 ?k5 ?kd ?ku ?p0 ?p1 ?_; (case k1 => k_asm); (case k2 => k_asm); (case k3 => k_asm); (case k4 => k_asm); (case k5 => k_asm); (case p0 => first | omega | assumption); (case p1 => first | omega | assumption); (case kd => k_room); (case ku => ktr_units); k_whole); intro x' d' k1' k2' k3' v1' v2' v3' h' tk' F' N' l1 l2; (try k_lt l1); (try k_lt2 l2); (try k_sweep); (try dsimp only); (try k_fold)))
local macro_rules | `(tactic| walk_at "call ref") => `(tactic| (k_here; (with_reducible show wpAny _ _ (call (Value.ref 46) _ _) _ _ _); k_dflt (show wpAny _ _ (call (Value.ref 46) [Value.int _ _]) _ _ _); k_dflt (refine' td_days ?k1 ?k2 ?k3 ?k4 ?k5 ?kd ?ku ?p0 ?p1 ?_; (case k1 => k_asm); (case k2 => k_asm); (case k3 => k_asm); (case k4 => k_asm); (case k5 => k_asm); (case p0 => first | omega | assumption); (case p1 => first | omega | assumption); (case kd => k_room); (case ku => ktr_units); k_whole); intro x' d' k1' k2' k3' v1' v2' v3' h' tk' F' N' l1 l2; (try k_lt l1); (try k_lt2 l2); (try k_sweep); (try dsimp only); (try k_fold)))
local macro_rules | `(tactic| walk_at "call ref") => `(tactic| (k_here; (with_reducible show wpAny _ _ (call (Value.ref 46) _ _) _ _ _); k_dflt (show wpAny _ _ (call (Value.ref 46) [] [(_, Value.int _ _)]) _ _ _); k_dflt (refine' td_secs ?k1 ?k2 ?k3 ?k4 ?k5 ?kd ?ku ?p0 ?p1 ?_; (case k1 => k_asm); (case k2 => k_asm); (case k3 => k_asm); (case k4 => k_asm); (case k5 => k_asm); (case p0 => first | omega | assumption); (case p1 => first | omega | assumption); (case kd => k_room); (case ku => ktr_units); k_whole); intro x' d' k1' k2' k3' v1' v2' v3' h' tk' F' N' l1 l2; (try k_lt l1); (try k_lt2 l2); (try k_sweep); (try dsimp only); (try k_fold)))
local macro_rules | `(tactic| walk_at "call ref") => `(tactic| (k_here; (with_reducible show wpAny _ _ (call (Value.ref 81) _ _) _ _ _); k_dflt (show wpAny _ _ (call (Value.ref 81) [Value.int _ _]) _ _ _); k_dflt (refine' dt_call ?k1 ?k2 ?k3 ?k4 ?k5 ?kd ?ku ?p0 ?p1 ?_; (case k1 => k_asm); (case k2 => k_asm); (case k3 => k_asm); (case k4 => k_asm); (case k5 => k_asm); (case p0 => first | omega | assumption); (case p1 => first | omega | assumption); (case kd => k_room); (case ku => ktr_units); k_whole); intro x' d' k1' v1' h' tk' F' N' l1 l2; (try k_lt l1); (try k_lt2 l2); (try k_sweep); (try dsimp only); (try k_fold)))
set_option maxRecDepth 100000 in
set_option maxHeartbeats 8000000 in
theorem whole_call : ∀ {w : World} {loose : List Str} {mean : ExcName → Option Value} {mg mb : Str → Option Value} {dp un : Nat} {gd : Option (List Code)} {cn : Str} {nms : List (Str × NameKind)} {ig ic : Bool} {mo : List (Str × Const)} {L a : Addr} {ccd : Value} {cl : List (Str × Addr)} {outer : List Env} {A₀ : Around} {base h₀ : Heap} {m : Str → Option Value} {news : List (Addr × Obj)} {s : Shared} {Q E : Value → Shared → Prop} {x dx : Addr} {us : Int} {k1 k2 k3 v1 v2 v3 : Tok},
  Below A₀ base outer h₀ → Fr h₀ L s.heap m → (hd.heap_39 w.params).In h₀ → News h₀ L s.heap news → Top hd.view_39 loose mean mg mb h₀ → dp + 1 < recursionLimit → un + 8 < cLine → (x, instObj 46 dx) ∈ news → (dx, tdObj w.params us k1 k2 k3 v1 v2 v3) ∈ news → -1000000000000000000 < us → us < 1000000000000000000 → 
  (∀ t h' tk', Fr h₀ L h' m → News h₀ L h' news → Q (.int us t) {s with heap := h', toks := tk'}) →
  wpAny (model Challenge.rw_ez0122_01.row.prog w) (ktrTop dp un gd cn ⟨.function, nms, ig, ic, mo⟩ L a ccd cl outer) (call (.ref 36) [.ref x]) Q E s := (by
  w_on
  k_with_none
  k_fill
  intro w loose mean mg mb dp un gd cn nms ig ic mo L a ccd cl outer A₀ base h₀ m news s Q E x dx us k1 k2 k3 v1 v2 v3 B F X N T hdp hun hx hdx hu0 hu1 hret
  w_strict (walk1; ((rename Fr _ _ _ (fun y => List.lookup y _) => F9); replace F9 := fr_args F9 (l' := [(Str.ofString "self", .ref x)]) (by kernel_rfl)); k_steps; all_goals ((have e0 : (us / 86400000000 * 86400 + us % 86400000000 / 1000000) * 1000000 + us % 86400000000 % 1000000 = us := by omega); refine' cb_retI (Q := Q) hret e0 ?F ?N; (case F => k_asm); (case N => k_asm))))
local macro_rules | `(tactic| walk_at "call ref") => `(tactic| (k_here; (with_reducible show wpAny _ _ (call (Value.ref 36) _ _) _ _ _); k_dflt (show wpAny _ _ (call (Value.ref 36) [Value.ref _]) _ _ _); k_dflt (refine' whole_call ?k1 ?k2 ?k3 ?k4 ?k5 ?kd ?ku ?p0 ?p1 ?p2 ?p3 ?_; (case k1 => k_asm); (case k2 => k_asm); (case k3 => k_asm); (case k4 => k_asm); (case k5 => k_asm); (case p0 => k_mem); (case p1 => k_mem); (case p2 => first | omega | assumption); (case p3 => first | omega | assumption); (case kd => k_room); (case ku => ktr_units); k_whole); intro t' h' tk' F' N'; (try k_sweep); (try dsimp only); (try k_fold)))
set_option maxRecDepth 100000 in
set_option maxHeartbeats 8000000 in
theorem size_call : ∀ {w : World} {loose : List Str} {mean : ExcName → Option Value} {mg mb : Str → Option Value} {dp un : Nat} {gd : Option (List Code)} {cn : Str} {nms : List (Str × NameKind)} {ig ic : Bool} {mo : List (Str × Const)} {L a : Addr} {ccd : Value} {cl : List (Str × Addr)} {outer : List Env} {A₀ : Around} {base h₀ : Heap} {m : Str → Option Value} {news : List (Addr × Obj)} {s : Shared} {Q E : Value → Shared → Prop} {x dx : Addr} {us : Int} {k1 k2 k3 v1 v2 v3 : Tok},
  Below A₀ base outer h₀ → Fr h₀ L s.heap m → (hd.heap_39 w.params).In h₀ → News h₀ L s.heap news → Top hd.view_39 loose mean mg mb h₀ → dp + 16 < recursionLimit → un + 160 < cLine → (x, instObj 46 dx) ∈ news → (dx, tdObj w.params us k1 k2 k3 v1 v2 v3) ∈ news → -1000000000000000000 < us → us < 1000000000000000000 → 
  (∀ x dx k1 k2 k3 v1 v2 v3 h' tk', Fr h₀ L h' m → News h₀ L h' ((x, instObj 46 dx) :: (dx, tdObj w.params (us.natAbs : Int) k1 k2 k3 v1 v2 v3) :: news) → (∀ p ∈ news, p.1 < dx) → dx < x → Q (.ref x) {s with heap := h', toks := tk'}) →
  wpAny (model Challenge.rw_ez0122_01.row.prog w) (ktrTop dp un gd cn ⟨.function, nms, ig, ic, mo⟩ L a ccd cl outer) (call (.ref 43) [.ref x]) Q E s := (by
  w_on
  k_with_none
  k_fill
  intro w loose mean mg mb dp un gd cn nms ig ic mo L a ccd cl outer A₀ base h₀ m news s Q E x dx us k1 k2 k3 v1 v2 v3 B F X N T hdp hun hx hdx hu0 hu1 hret
  w_strict (walk1; ((rename Fr _ _ _ (fun y => List.lookup y _) => F9); replace F9 := fr_args F9 (l' := [(Str.ofString "self", .ref x)]) (by kernel_rfl)); k_steps; all_goals (rename News _ _ _ _ => kN9; refine' hret _ _ _ _ _ _ _ _ _ _ ?F kN9 ?l1 ?l2; (case F => k_asm); (case l1 => assumption); (case l2 => assumption))))
local macro_rules | `(tactic| walk_at "call ref") => `(tactic| (k_here; (with_reducible show wpAny _ _ (call (Value.ref 43) _ _) _ _ _); k_dflt (show wpAny _ _ (call (Value.ref 43) [Value.ref _]) _ _ _); k_dflt (refine' size_call ?k1 ?k2 ?k3 ?k4 ?k5 ?kd ?ku ?p0 ?p1 ?p2 ?p3 ?_; (case k1 => k_asm); (case k2 => k_asm); (case k3 => k_asm); (case k4 => k_asm); (case k5 => k_asm); (case p0 => k_mem); (case p1 => k_mem); (case p2 => first | omega | assumption); (case p3 => first | omega | assumption); (case kd => k_room); (case ku => ktr_units); k_whole); intro x' d' k1' k2' k3' v1' v2' v3' h' tk' F' N' l1 l2; (try k_lt l1); (try k_lt2 l2); (try k_sweep); (try dsimp only); (try k_fold)))
open Builtin Builtin.Str in
theorem mtD {c : Nat} {cs : List Nat} {t u : Tok} (hc : (c :: cs).span (· != 37) = (c :: cs, [])) (hl : (c :: cs).length ≤ 100) : ∀ i : Int, 0 ≤ i → i < 10 ^ 10 → i.natAbs.log2 < 1920 → ((i.natAbs : Nat) : Int).natAbs.log2 < 1920 →
    Meets («str.__mod__» ⟨[.str ⟨(37 :: 100 :: c :: cs).toArray⟩ t, (.int i u)], []⟩) (fun _ R s => ∀ t' k, R (.ok (.ret (.str (PySem.Str.ofString (toString i) ++ ⟨(c :: cs).toArray⟩) t'))) { s with toks := k }) := by
  k_dflt (
  intros
  apply KPc.meets_of
  intro _ _ _ _ _ _ _
  rw [KPc.entry_is]
  unfold Builtin.Str.percentFormat
  refine wpAny_bind (wpAny_isInstance (typeIs_int _ _ _) F.sub_int_tuple ?_)
  refine wpAny_bind (wpAny_of_eq (a := none) rfl ?_)
  refine wpAny_bind (wpAny_of_eq (KPc.fills _ _) ?_)
  kpc_if
  refine wpAny_bind (wpAny_pure ?_)
  refine wpAny_bind ?_
  rw [KPc.range_list]
  refine KPc.start ?_
  intro _ _
  refine KPc.turn ?_; kpc_check; (repeat kpc_if)
  refine wpAny_bind ?_; refine wpAny_holding ?_; (repeat kpc_if); kpc_conv; refine wpAny_pure ?_; refine wpAny_pure ?_; refine KPc.after_int0 (by kpc_g) rfl (by kpc_kind) rfl (by with_reducible assumption) (by with_reducible assumption) rfl (by kpc_none) ?_; intro _ _
  refine KPc.turn ?_
  refine (wpAny_ite (KPc.ite_no (KPc.short_good (by kpc_g) ?zl) ?_))
  case zl => decide +kernel
  (repeat kpc_if)
  rw [hc]
  kpc_if
  refine wpAny_pure ?_
  refine KPc.after_add (by kpc_g) rfl (KPc.obj_none (if_neg ?zz)) ?_
  case zz => (show ¬ (((c :: cs).length == (37 :: 100 :: c :: cs).length) = true)); simp
  intro w2 g2
  refine KPc.turn ?_
  have hN : 0 + 10 + (c :: cs).length ≤ 16777216 := by
    omega
  refine (wpAny_ite (KPc.ite_no (KPc.short_good (by kpc_g) ?zk) ?_))
  case zk => exact hN
  (repeat kpc_if)
  refine wpAny_pure ?_
  kpc_if
  refine KPc.finish_ok (by kpc_g) ?zk rfl ?_
  case zk => exact hN
  assumption)
open Builtin Builtin.Str in
theorem mtY {c : Nat} {cs : List Nat} {t u : Tok} (hc : (c :: cs).span (· != 37) = (c :: cs, [])) (hl : (c :: cs).length ≤ 100) : ∀ i : Int, 0 ≤ i → i < 10 ^ 10 → i.natAbs.log2 < 1920 → ((i.natAbs : Nat) : Int).natAbs.log2 < 1920 →
    Meets («str.__mod__» ⟨[.str ⟨(49 :: 32 :: 121 :: 101 :: 97 :: 114 :: 44 :: 32 :: 37 :: 100 :: c :: cs).toArray⟩ t, (.int i u)], []⟩) (fun _ R s => ∀ t' k, R (.ok (.ret (.str ((PySem.Str.ofString "1 year, " ++ PySem.Str.ofString (toString i)) ++ ⟨(c :: cs).toArray⟩) t'))) { s with toks := k }) := by
  k_dflt (
  intros
  apply KPc.meets_of
  intro _ _ _ _ _ _ _
  rw [KPc.entry_is]
  unfold Builtin.Str.percentFormat
  refine wpAny_bind (wpAny_isInstance (typeIs_int _ _ _) F.sub_int_tuple ?_)
  refine wpAny_bind (wpAny_of_eq (a := none) rfl ?_)
  refine wpAny_bind (wpAny_of_eq (KPc.fills _ _) ?_)
  kpc_if
  refine wpAny_bind (wpAny_pure ?_)
  refine wpAny_bind ?_
  rw [KPc.range_list]
  refine KPc.start ?_
  intro _ _
  refine KPc.turn ?_; kpc_check; (repeat kpc_if)
  refine wpAny_pure ?_
  refine KPc.after_add0 (y := PySem.Str.ofString "1 year, ") (by kpc_g) (by decide +kernel) (KPc.obj_none (if_neg ?zz)) ?_
  case zz => (show ¬ ((8 == (49 :: 32 :: 121 :: 101 :: 97 :: 114 :: 44 :: 32 :: 37 :: 100 :: c :: cs).length) = true)); simp
  intro w1 g1
  refine KPc.turn ?_; kpc_check; (repeat kpc_if)
  refine wpAny_bind ?_; refine wpAny_holding ?_; (repeat kpc_if); kpc_conv; refine wpAny_pure ?_; refine wpAny_pure ?_; refine KPc.after_int (by kpc_g) rfl (by kpc_kind) rfl (by with_reducible assumption) (by with_reducible assumption) rfl (by kpc_none) ?_; intro _ _
  refine KPc.turn ?_
  refine (wpAny_ite (KPc.ite_no (KPc.short_good (by kpc_g) ?zl) ?_))
  case zl => decide +kernel
  (repeat kpc_if)
  rw [hc]
  kpc_if
  refine wpAny_pure ?_
  refine KPc.after_add (by kpc_g) rfl (KPc.obj_none (if_neg ?zz)) ?_
  case zz => (show ¬ (((c :: cs).length == (49 :: 32 :: 121 :: 101 :: 97 :: 114 :: 44 :: 32 :: 37 :: 100 :: c :: cs).length) = true)); simp
  intro w2 g2
  refine KPc.turn ?_
  have hN : 0 + (PySem.Str.ofString "1 year, ").length + 10 + (c :: cs).length ≤ 16777216 := by
    rw [show (PySem.Str.ofString "1 year, ").length = 8 from by decide +kernel]; omega
  refine (wpAny_ite (KPc.ite_no (KPc.short_good (by kpc_g) ?zk) ?_))
  case zk => exact hN
  (repeat kpc_if)
  refine wpAny_pure ?_
  kpc_if
  refine KPc.finish_ok (by kpc_g) ?zk rfl ?_
  case zk => exact hN
  assumption)
open Builtin Builtin.Str in
theorem mtS {c : Nat} {cs : List Nat} {t u : Tok} (hc : (c :: cs).span (· != 37) = (c :: cs, [])) (hl : (c :: cs).length ≤ 100) : ∀ i : PySem.Str, i.length ≤ 1000000 →
    Meets («str.__mod__» ⟨[.str ⟨(37 :: 115 :: c :: cs).toArray⟩ t, (.str i u)], []⟩) (fun _ R s => ∀ t' k, R (.ok (.ret (.str (i ++ ⟨(c :: cs).toArray⟩) t'))) { s with toks := k }) := by
  k_dflt (
  intros
  apply KPc.meets_of
  intro _ _ _ _ _ _ _
  rw [KPc.entry_is_s]
  unfold Builtin.Str.percentFormat
  refine wpAny_bind (wpAny_isInstance (typeIs_str _ _ _) F.sub_str_tuple ?_)
  refine wpAny_bind (wpAny_of_eq (a := some _) rfl ?_)
  refine wpAny_bind (KPc.wp_fills_str ?_); intro _
  kpc_if
  refine wpAny_bind (wpAny_pure ?_)
  refine wpAny_bind ?_
  rw [KPc.range_list]
  refine KPc.start ?_
  intro _ _
  refine KPc.turn ?_; kpc_check; (repeat kpc_if)
  refine wpAny_bind ?_; refine wpAny_holding ?_; (repeat kpc_if); kpc_conv; refine wpAny_pure ?_; refine wpAny_pure ?_; refine KPc.after_str0 (by kpc_g) (by kpc_len) (by kpc_obj) ?_; intro _ _
  refine KPc.turn ?_
  refine (wpAny_ite (KPc.ite_no (KPc.short_good (by kpc_g) ?zl) ?_))
  case zl => decide +kernel
  (repeat kpc_if)
  rw [hc]
  kpc_if
  refine wpAny_pure ?_
  refine KPc.after_add (by kpc_g) rfl (KPc.obj_none (if_neg ?zz)) ?_
  case zz => (show ¬ (((c :: cs).length == (37 :: 115 :: c :: cs).length) = true)); simp
  intro w2 g2
  refine KPc.turn ?_
  have hN : 0 + 1000000 + (c :: cs).length ≤ 16777216 := by
    omega
  refine (wpAny_ite (KPc.ite_no (KPc.short_good (by kpc_g) ?zk) ?_))
  case zk => exact hN
  (repeat kpc_if)
  refine wpAny_pure ?_
  kpc_if
  refine KPc.finish_ok (by kpc_g) ?zk rfl ?_
  case zk => exact hN
  assumption)
theorem fmD {prog : Program} {w : World} {A : Around} {E : Value → Shared → Prop} {s : Shared} {t u : Tok} {Q : Value → Shared → Prop} {n : Int} {c : Nat} {cs : List Nat} {f z : String} (e1 : Str.ofString f = ⟨(37 :: 100 :: c :: cs).toArray⟩) (e2 : Str.ofString z = ⟨(c :: cs).toArray⟩) (hc : (c :: cs).span (· != 37) = (c :: cs, [])) (hl : (c :: cs).length ≤ 100) (hn0 : 0 ≤ n) (hn1 : n < 10 ^ 10)
    (h : ∀ t' k, Q (.str (Str.ofString (toString n) ++ Str.ofString z) t') { s with toks := k }) : wpAny (model prog w) A (binaryOp .Mod (.str (Str.ofString f) t) (.int n u)) Q E s := by
  rw [e2] at h
  refine KPc.mod_int (T := fun n => (Str.ofString (toString n) ++ ⟨(c :: cs).toArray⟩)) e1 hn0 hn1 (mtD hc hl) h
theorem fmY {prog : Program} {w : World} {A : Around} {E : Value → Shared → Prop} {s : Shared} {t u : Tok} {Q : Value → Shared → Prop} {n : Int} {c : Nat} {cs : List Nat} {f z : String} (e1 : Str.ofString f = ⟨(49 :: 32 :: 121 :: 101 :: 97 :: 114 :: 44 :: 32 :: 37 :: 100 :: c :: cs).toArray⟩) (e2 : Str.ofString z = ⟨(c :: cs).toArray⟩) (hc : (c :: cs).span (· != 37) = (c :: cs, [])) (hl : (c :: cs).length ≤ 100) (hn0 : 0 ≤ n) (hn1 : n < 10 ^ 10)
    (h : ∀ t' k, Q (.str ((Str.ofString "1 year, " ++ Str.ofString (toString n)) ++ Str.ofString z) t') { s with toks := k }) : wpAny (model prog w) A (binaryOp .Mod (.str (Str.ofString f) t) (.int n u)) Q E s := by
  rw [e2] at h
  refine KPc.mod_int (T := fun n => ((Str.ofString "1 year, " ++ Str.ofString (toString n)) ++ ⟨(c :: cs).toArray⟩)) e1 hn0 hn1 (mtY hc hl) h
theorem fmS {prog : Program} {w : World} {A : Around} {E : Value → Shared → Prop} {s : Shared} {t u : Tok} {Q : Value → Shared → Prop} {n : Str} {c : Nat} {cs : List Nat} {f z : String} (e1 : Str.ofString f = ⟨(37 :: 115 :: c :: cs).toArray⟩) (e2 : Str.ofString z = ⟨(c :: cs).toArray⟩) (hc : (c :: cs).span (· != 37) = (c :: cs, [])) (hl : (c :: cs).length ≤ 100) (hn0 : n.length ≤ 1000000)
    (h : ∀ t' k, Q (.str (n ++ Str.ofString z) t') { s with toks := k }) : wpAny (model prog w) A (binaryOp .Mod (.str (Str.ofString f) t) (.str n u)) Q E s := by
  rw [e2] at h
  refine KPc.mod_str (T := fun n => n ++ ⟨(c :: cs).toArray⟩) e1 hn0 (mtS hc hl) h
theorem fmt0 {prog : Program} {w : World} {A : Around} {E : Value → Shared → Prop} {s : Shared} {t u : Tok} {Q : Value → Shared → Prop} {n : Int} (hn0 : 0 ≤ n) (hn1 : n < 10 ^ 10)
    (h : ∀ t' k, Q (.str (Str.ofString (toString n) ++ Str.ofString " microsecond") t') { s with toks := k }) : wpAny (model prog w) A (binaryOp .Mod (.str (Str.ofString "%d microsecond") t) (.int n u)) Q E s := by
  with_reducible refine fmD (f := "%d microsecond") (z := " microsecond") (c := 32) (cs := [109, 105, 99, 114, 111, 115, 101, 99, 111, 110, 100]) ?_ ?_ ?_ ?_ hn0 hn1 h <;> decide +kernel
theorem fmt1 {prog : Program} {w : World} {A : Around} {E : Value → Shared → Prop} {s : Shared} {t u : Tok} {Q : Value → Shared → Prop} {n : Int} (hn0 : 0 ≤ n) (hn1 : n < 10 ^ 10)
    (h : ∀ t' k, Q (.str (Str.ofString (toString n) ++ Str.ofString " microseconds") t') { s with toks := k }) : wpAny (model prog w) A (binaryOp .Mod (.str (Str.ofString "%d microseconds") t) (.int n u)) Q E s := by
  with_reducible refine fmD (f := "%d microseconds") (z := " microseconds") (c := 32) (cs := [109, 105, 99, 114, 111, 115, 101, 99, 111, 110, 100, 115]) ?_ ?_ ?_ ?_ hn0 hn1 h <;> decide +kernel
theorem fmt2 {prog : Program} {w : World} {A : Around} {E : Value → Shared → Prop} {s : Shared} {t u : Tok} {Q : Value → Shared → Prop} {n : Int} (hn0 : 0 ≤ n) (hn1 : n < 10 ^ 10)
    (h : ∀ t' k, Q (.str (Str.ofString (toString n) ++ Str.ofString " millisecond") t') { s with toks := k }) : wpAny (model prog w) A (binaryOp .Mod (.str (Str.ofString "%d millisecond") t) (.int n u)) Q E s := by
  with_reducible refine fmD (f := "%d millisecond") (z := " millisecond") (c := 32) (cs := [109, 105, 108, 108, 105, 115, 101, 99, 111, 110, 100]) ?_ ?_ ?_ ?_ hn0 hn1 h <;> decide +kernel
theorem fmt3 {prog : Program} {w : World} {A : Around} {E : Value → Shared → Prop} {s : Shared} {t u : Tok} {Q : Value → Shared → Prop} {n : Int} (hn0 : 0 ≤ n) (hn1 : n < 10 ^ 10)
    (h : ∀ t' k, Q (.str (Str.ofString (toString n) ++ Str.ofString " milliseconds") t') { s with toks := k }) : wpAny (model prog w) A (binaryOp .Mod (.str (Str.ofString "%d milliseconds") t) (.int n u)) Q E s := by
  with_reducible refine fmD (f := "%d milliseconds") (z := " milliseconds") (c := 32) (cs := [109, 105, 108, 108, 105, 115, 101, 99, 111, 110, 100, 115]) ?_ ?_ ?_ ?_ hn0 hn1 h <;> decide +kernel
theorem fmt4 {prog : Program} {w : World} {A : Around} {E : Value → Shared → Prop} {s : Shared} {t u : Tok} {Q : Value → Shared → Prop} {n : Int} (hn0 : 0 ≤ n) (hn1 : n < 10 ^ 10)
    (h : ∀ t' k, Q (.str (Str.ofString (toString n) ++ Str.ofString " seconds") t') { s with toks := k }) : wpAny (model prog w) A (binaryOp .Mod (.str (Str.ofString "%d seconds") t) (.int n u)) Q E s := by
  with_reducible refine fmD (f := "%d seconds") (z := " seconds") (c := 32) (cs := [115, 101, 99, 111, 110, 100, 115]) ?_ ?_ ?_ ?_ hn0 hn1 h <;> decide +kernel
theorem fmt5 {prog : Program} {w : World} {A : Around} {E : Value → Shared → Prop} {s : Shared} {t u : Tok} {Q : Value → Shared → Prop} {n : Int} (hn0 : 0 ≤ n) (hn1 : n < 10 ^ 10)
    (h : ∀ t' k, Q (.str (Str.ofString (toString n) ++ Str.ofString " minutes") t') { s with toks := k }) : wpAny (model prog w) A (binaryOp .Mod (.str (Str.ofString "%d minutes") t) (.int n u)) Q E s := by
  with_reducible refine fmD (f := "%d minutes") (z := " minutes") (c := 32) (cs := [109, 105, 110, 117, 116, 101, 115]) ?_ ?_ ?_ ?_ hn0 hn1 h <;> decide +kernel
theorem fmt6 {prog : Program} {w : World} {A : Around} {E : Value → Shared → Prop} {s : Shared} {t u : Tok} {Q : Value → Shared → Prop} {n : Int} (hn0 : 0 ≤ n) (hn1 : n < 10 ^ 10)
    (h : ∀ t' k, Q (.str (Str.ofString (toString n) ++ Str.ofString " hours") t') { s with toks := k }) : wpAny (model prog w) A (binaryOp .Mod (.str (Str.ofString "%d hours") t) (.int n u)) Q E s := by
  with_reducible refine fmD (f := "%d hours") (z := " hours") (c := 32) (cs := [104, 111, 117, 114, 115]) ?_ ?_ ?_ ?_ hn0 hn1 h <;> decide +kernel
theorem fmt7 {prog : Program} {w : World} {A : Around} {E : Value → Shared → Prop} {s : Shared} {t u : Tok} {Q : Value → Shared → Prop} {n : Int} (hn0 : 0 ≤ n) (hn1 : n < 10 ^ 10)
    (h : ∀ t' k, Q (.str (Str.ofString (toString n) ++ Str.ofString " days") t') { s with toks := k }) : wpAny (model prog w) A (binaryOp .Mod (.str (Str.ofString "%d days") t) (.int n u)) Q E s := by
  with_reducible refine fmD (f := "%d days") (z := " days") (c := 32) (cs := [100, 97, 121, 115]) ?_ ?_ ?_ ?_ hn0 hn1 h <;> decide +kernel
theorem fmt8 {prog : Program} {w : World} {A : Around} {E : Value → Shared → Prop} {s : Shared} {t u : Tok} {Q : Value → Shared → Prop} {n : Int} (hn0 : 0 ≤ n) (hn1 : n < 10 ^ 10)
    (h : ∀ t' k, Q (.str (Str.ofString (toString n) ++ Str.ofString " months") t') { s with toks := k }) : wpAny (model prog w) A (binaryOp .Mod (.str (Str.ofString "%d months") t) (.int n u)) Q E s := by
  with_reducible refine fmD (f := "%d months") (z := " months") (c := 32) (cs := [109, 111, 110, 116, 104, 115]) ?_ ?_ ?_ ?_ hn0 hn1 h <;> decide +kernel
theorem fmt9 {prog : Program} {w : World} {A : Around} {E : Value → Shared → Prop} {s : Shared} {t u : Tok} {Q : Value → Shared → Prop} {n : Int} (hn0 : 0 ≤ n) (hn1 : n < 10 ^ 10)
    (h : ∀ t' k, Q (.str (Str.ofString (toString n) ++ Str.ofString " years") t') { s with toks := k }) : wpAny (model prog w) A (binaryOp .Mod (.str (Str.ofString "%d years") t) (.int n u)) Q E s := by
  with_reducible refine fmD (f := "%d years") (z := " years") (c := 32) (cs := [121, 101, 97, 114, 115]) ?_ ?_ ?_ ?_ hn0 hn1 h <;> decide +kernel
theorem fmt10 {prog : Program} {w : World} {A : Around} {E : Value → Shared → Prop} {s : Shared} {t u : Tok} {Q : Value → Shared → Prop} {n : Int} (hn0 : 0 ≤ n) (hn1 : n < 10 ^ 10)
    (h : ∀ t' k, Q (.str ((Str.ofString "1 year, " ++ Str.ofString (toString n)) ++ Str.ofString " day") t') { s with toks := k }) : wpAny (model prog w) A (binaryOp .Mod (.str (Str.ofString "1 year, %d day") t) (.int n u)) Q E s := by
  with_reducible refine fmY (f := "1 year, %d day") (z := " day") (c := 32) (cs := [100, 97, 121]) ?_ ?_ ?_ ?_ hn0 hn1 h <;> decide +kernel
theorem fmt11 {prog : Program} {w : World} {A : Around} {E : Value → Shared → Prop} {s : Shared} {t u : Tok} {Q : Value → Shared → Prop} {n : Int} (hn0 : 0 ≤ n) (hn1 : n < 10 ^ 10)
    (h : ∀ t' k, Q (.str ((Str.ofString "1 year, " ++ Str.ofString (toString n)) ++ Str.ofString " days") t') { s with toks := k }) : wpAny (model prog w) A (binaryOp .Mod (.str (Str.ofString "1 year, %d days") t) (.int n u)) Q E s := by
  with_reducible refine fmY (f := "1 year, %d days") (z := " days") (c := 32) (cs := [100, 97, 121, 115]) ?_ ?_ ?_ ?_ hn0 hn1 h <;> decide +kernel
theorem fmt12 {prog : Program} {w : World} {A : Around} {E : Value → Shared → Prop} {s : Shared} {t u : Tok} {Q : Value → Shared → Prop} {n : Int} (hn0 : 0 ≤ n) (hn1 : n < 10 ^ 10)
    (h : ∀ t' k, Q (.str ((Str.ofString "1 year, " ++ Str.ofString (toString n)) ++ Str.ofString " months") t') { s with toks := k }) : wpAny (model prog w) A (binaryOp .Mod (.str (Str.ofString "1 year, %d months") t) (.int n u)) Q E s := by
  with_reducible refine fmY (f := "1 year, %d months") (z := " months") (c := 32) (cs := [109, 111, 110, 116, 104, 115]) ?_ ?_ ?_ ?_ hn0 hn1 h <;> decide +kernel
theorem fms0 {prog : Program} {w : World} {A : Around} {E : Value → Shared → Prop} {s : Shared} {t u : Tok} {Q : Value → Shared → Prop} {n : Str} (hn0 : n.length ≤ 1000000)
    (h : ∀ t' k, Q (.str (n ++ Str.ofString " years") t') { s with toks := k }) : wpAny (model prog w) A (binaryOp .Mod (.str (Str.ofString "%s years") t) (.str n u)) Q E s := by
  with_reducible refine fmS (f := "%s years") (z := " years") (c := 32) (cs := [121, 101, 97, 114, 115]) ?_ ?_ ?_ ?_ hn0 h <;> decide +kernel
theorem fms1 {prog : Program} {w : World} {A : Around} {E : Value → Shared → Prop} {s : Shared} {t u : Tok} {Q : Value → Shared → Prop} {n : Str} (hn0 : n.length ≤ 1000000)
    (h : ∀ t' k, Q (.str (n ++ Str.ofString " ago") t') { s with toks := k }) : wpAny (model prog w) A (binaryOp .Mod (.str (Str.ofString "%s ago") t) (.str n u)) Q E s := by
  with_reducible refine fmS (f := "%s ago") (z := " ago") (c := 32) (cs := [97, 103, 111]) ?_ ?_ ?_ ?_ hn0 h <;> decide +kernel
theorem fms2 {prog : Program} {w : World} {A : Around} {E : Value → Shared → Prop} {s : Shared} {t u : Tok} {Q : Value → Shared → Prop} {n : Str} (hn0 : n.length ≤ 1000000)
    (h : ∀ t' k, Q (.str (n ++ Str.ofString " from now") t') { s with toks := k }) : wpAny (model prog w) A (binaryOp .Mod (.str (Str.ofString "%s from now") t) (.str n u)) Q E s := by
  with_reducible refine fmS (f := "%s from now") (z := " from now") (c := 32) (cs := [102, 114, 111, 109, 32, 110, 111, 119]) ?_ ?_ ?_ ?_ hn0 h <;> decide +kernel
def optIs : Option Str → Value → Bool
  | none, .none => true
  | some x, v => Value.isStrOf x v
  | _, _ => false
theorem optIs_none {v : Value} (h : optIs none v = true) : v = .none := by cases v <;> first | rfl | exact absurd h (by simp [optIs])
theorem optIs_some {x : Str} {v : Value} (h : optIs (some x) v = true) : ∃ t, v = .str x t := by
  have h' : Value.isStrOf x v = true := by simpa only [optIs] using h
  exact Value.isStrOf_shape h'
def optKind (prog : Program) (w : World) : KeyKind prog w (Option Str) where
  is := optIs
  hash := fun k => match k with | none => PySem.reduceHash 0xFCA86420 | some x => hashStr w x
  inj := fun v a b ha hb => by
    cases a with
    | none =>
      obtain rfl := optIs_none ha
      cases b with
      | none => rfl
      | some y => obtain ⟨t, e⟩ := optIs_some hb; cases e
    | some x =>
      obtain ⟨t, rfl⟩ := optIs_some ha
      cases b with
      | none => exact nomatch optIs_none hb
      | some y => obtain ⟨u, e⟩ := optIs_some hb; injection e with e; rw [e]
  byValue := fun k v h => by
    cases k with
    | none => obtain rfl := optIs_none h; rfl
    | some x => obtain ⟨t, rfl⟩ := optIs_some h; rfl
  pyHash := fun {A E s k v Q} hv h => by
    cases k with
    | none =>
      obtain rfl := optIs_none hv
      exact pyHash_slot (T := "NoneType") rfl F.slot_NoneType_hash F.entry_NoneType_hash (F.args_NoneType_hash_1 _) (beq_builtin_none _) (.inl rfl) (wpAny_bind (wpAny_pure (wpAny_bind (wpAny_mkInt (wpAny_pure ⟨_, _, rfl, h⟩)))))
    | some x => obtain ⟨t, rfl⟩ := optIs_some hv; exact wpAny_pyHash_str h
  eqBool := fun {A E s a b u v Q} hu hv h => by
    cases a with
    | none =>
      obtain rfl := optIs_none hu
      cases b with
      | none =>
        obtain rfl := optIs_none hv
        unfold PySem.eqBool
        show wpAny _ _ (do rule "eq-bool.same-object"; return true) Q E s
        exact wpAny_bind (wpAny_rule (wpAny_pure (by simpa using h)))
      | some y =>
        obtain ⟨t, rfl⟩ := optIs_some hv
        unfold PySem.eqBool
        exact wpAny_bind (m := richCompare .Eq .none (.str y t)) (EqNone.eq_none_str (wpAny_truthy_bool (by simpa using h)))
    | some x =>
      obtain ⟨t, rfl⟩ := optIs_some hu
      cases b with
      | none =>
        obtain rfl := optIs_none hv
        unfold PySem.eqBool
        exact wpAny_bind (m := richCompare .Eq (.str x t) .none) (EqNone.eq_str_none (wpAny_truthy_bool (by simpa using h)))
      | some y =>
        obtain ⟨t', rfl⟩ := optIs_some hv
        exact wpAny_eqBool_str (by simpa using h)
  «strs» := fun k x t v h => by
    cases k with
    | none => exact nomatch optIs_none h
    | some y =>
      obtain ⟨u, hu⟩ := optIs_some h
      injection hu with hx
      subst hx
      cases v <;> rfl
theorem mapOf_opt {prog : Program} {w : World} {h : Heap} {a : Addr} {f : Str → Option Value} (x : h.MapOf (strKind prog w) a f) : h.MapOf (optKind prog w) a (fun k => k.bind f) := by
  obtain ⟨o, es, ep, ho, hc, hd, hk, hf⟩ := x
  refine ⟨o, es, ep, ho, hc, hd, fun e he => let ⟨k, h1, h2⟩ := hk e he; ⟨some k, h1, h2⟩, fun k => ?_⟩
  cases k with
  | none =>
    show findBy optIs es none = none
    unfold findBy
    have e : es.find? (fun e => optIs none e.key) = none := by
      rw [Array.find?_eq_none]
      intro e he hn
      obtain ⟨k, h1, _⟩ := hk e he
      obtain ⟨t, h3⟩ := Value.isStrOf_shape h1
      rw [h3] at hn
      exact absurd hn (by simp [optIs])
    rw [e]; rfl
  | some y => exact hf y
theorem get_none {prog : Program} {w : World} {A : Around} {E : Value → Shared → Prop} {s : Shared} {d : Addr} {D : List (PyData × PyData)} {dflt : Value} {Q : Value → Shared → Prop} (T : StrTab prog w s.heap d D)
    (h : Q dflt { s with toks := s.toks + 1 }) : wpAny (model prog w) A (call (.builtin "dict.get") [.ref d, .none, dflt]) Q E s := by
  obtain ⟨lo, kvs, hd, hf⟩ := T
  exact call_meetsIn PySem.F.slot_dict_get hd.typeIs PySem.F.entry_dict_get (PySem.F.args_dict_get_3 _ _ _) (meets_dict_get_default (optKind prog w) d (k := none) rfl lo dflt) ⟨_, mapOf_opt hd.mapOf, h⟩
theorem repl_years {prog : Program} {w : World} {A : Around} {E : Value → Shared → Prop} {s : Shared} {t u v : Tok} {Q : Value → Shared → Prop} (hu : u ≠ 0) (hv : v ≠ 0) (huv : u ≠ v)
    (h : ∀ t' k, Q (.str (Str.ofString "%s years") t') { s with toks := k }) : wpAny (model prog w) A (call (.builtin "str.replace") [.str (Str.ofString "%d years") t, .str (Str.ofString "%d") u, .str (Str.ofString "%s") v]) Q E s := by
  refine SC.replaceW hu hv huv (by decide +kernel) (by decide +kernel) (by decide +kernel) fun t' k => ?_
  rw [show Txt.replace (Str.ofString "%d years") (Str.ofString "%d") (Str.ofString "%s") = Str.ofString "%s years" from by decide +kernel]
  exact h t' k
theorem split_pd {prog : Program} {w : World} {A : Around} {E : Value → Shared → Prop} {s : Shared} {h₀ : Heap} {L : Addr} {m : Str → Option Value} {news : List (Addr × Obj)} {t u v : Tok} {Q : Value → Shared → Prop}
    (F : Fr h₀ L s.heap m) (N : News h₀ L s.heap news)
    (h : ∀ D t1 t2 h' k, Fr h₀ L h' m → News h₀ L h' ((D, listOf #[.str (Str.ofString "") t1, .str (Str.ofString "d") t2] 0) :: news) → (∀ p ∈ news, p.1 < D) → Q (.ref D) { s with heap := h', toks := k }) :
    wpAny (model prog w) A (call (.builtin "str.split") [.str (Str.ofString "%d") t, .str (Str.ofString "%") u, .int 1 v]) Q E s := by
  refine splitN2A (hsz := by decide +kernel) F N (by decide +kernel) (by decide +kernel) ?_
  intro l h' tk e _ _ _ F' N'
  rw [show Txt.splitMax (Str.ofString "%d") (Str.ofString "%") 1 = [Str.ofString "", Str.ofString "d"] from by decide +kernel] at e
  obtain ⟨t1, l1, e1, e2⟩ := KSpl.cons_of e
  obtain ⟨t2, l2, e3, e4⟩ := KSpl.cons_of e2
  have e5 := KSpl.nil_of e4
  subst e5; subst e3; subst e1
  exact h _ t1 t2 h' tk F' N' fun p hp => Heap.lt_size (N p hp).1
theorem ofEmpty_app (x : Str) : Str.ofString "" ++ x = x := by
  rw [show Str.ofString "" = Str.empty from by decide +kernel]; exact KPc.empty_app x
theorem app_ofEmpty (x : Str) : x ++ Str.ofString "" = x := by
  have e : (x ++ Str.ofString "").cps = x.cps := by
    rw [Str.cps_append, show (Str.ofString "").cps = #[] from by decide +kernel, Array.append_empty]
  exact congrArg Str.mk e
open Builtin Builtin.Str Builtin.List in
theorem idx3 (n : Nat) : (strSliceIndices none (some (-3)) 1 n).length ≤ n - 3 := by
  unfold strSliceIndices sliceRange
  simp only [show (1 : Int) > 0 by decide, if_true, List.length_map, List.length_range]
  (repeat' split) <;> (try simp only [Int.ediv_one]) <;> omega
open Builtin Builtin.Str Builtin.List in
theorem slice3_le (x : Str) : (Txt.slice x none (some (-3))).length ≤ x.length - 3 := by
  have h := idx3 x.length
  unfold Txt.slice
  split
  · rename_i e
    have e' : (strSliceIndices none (some (-3)) 1 x.length).length = x.length := by simpa using e
    omega
  · show (List.filterMap _ (strSliceIndices none (some (-3)) 1 x.length)).toArray.size ≤ x.length - 3
    rw [List.size_toArray]
    exact Nat.le_trans (List.length_filterMap_le _ _) h
theorem len3_no {x : Str} (h : x.length ≤ 6) : decide (((Txt.slice x none (some (-3))).length : Int) > 3) = false := by
  have := slice3_le x
  exact decide_eq_false (by omega)
theorem jn_len (l : List Str) : (Txt.join (Str.ofString ",") l).length ≤ (l.map (·.length)).sum + l.length := by
  have h := StrLaws.join_length_le (Str.ofString ",") l
  have e : Txt.join (Str.ofString ",") l = Str.join (Str.ofString ",") l := by
    have := join_plain_closes (Str.ofString ",") l
    simpa using this
  rw [e]
  rw [show (Str.ofString ",").length = 1 from by decide +kernel] at h
  omega
theorem sl4 {x : Str} {l u : Option Int} (h : x.length ≤ 4) : (Txt.slice x l u).length ≤ 4 := Nat.le_trans (Txt.slice_le x l u) h
theorem jn1 {a : Str} (h : a.length ≤ 4) : (Txt.join (Str.ofString ",") [a]).length ≤ 12 := by
  have h1 := jn_len [a]
  simp only [List.map_cons, List.map_nil, List.sum_cons, List.sum_nil, List.length_cons, List.length_nil] at h1
  omega
theorem jn2 {a b : Str} (h : a.length ≤ 4) (h' : b.length ≤ 4) : (Txt.join (Str.ofString ",") [a, b]).length ≤ 12 := by
  have h1 := jn_len [a, b]
  simp only [List.map_cons, List.map_nil, List.sum_cons, List.sum_nil, List.length_cons, List.length_nil] at h1
  omega
theorem addN {prog : Program} {w : World} {A : Around} {E : Value → Shared → Prop} {s : Shared} {x y : Str} {i j : Nat} {t u : Tok} {Q : Value → Shared → Prop} (hx : x.length ≤ i) (hy : y.length ≤ j) (hs : i + j ≤ 1000000)
    (h : ∀ t' k, (x ++ y).length ≤ i + j → Q (.str (x ++ y) t') { s with toks := k }) : wpAny (model prog w) A (binaryOp .Add (.str x t) (.str y u)) Q E s :=
  KOpn.add (by omega) fun t' k f => h t' k (by omega)
theorem lit12 (n : Nat) {x : Str} (h : decide (x.length ≤ n) = true) : x.length ≤ n := of_decide_eq_true h
theorem gt3_yes {x : Str} (h : 3 < x.length) : decide ((x.length : Int) > 3) = true := decide_eq_true (by omega)
theorem gt3_no {x : Str} (h : ¬ 3 < x.length) : decide ((x.length : Int) > 3) = false := decide_eq_false (by omega)
theorem len4_no {x : Str} (h : x.length ≤ 4) : decide (((Txt.slice x none (some (-3))).length : Int) > 3) = false := len3_no (by omega)
theorem len_fit {x : Str} (h : x.length ≤ 4) : ¬ ((x.length : Int) ≥ 2 ^ 63) := by omega
local macro_rules | `(tactic| walk_at "exec If") => `(tactic| (with_reducible refine wpAny_If ?_))
local macro_rules | `(tactic| walk_at "isTrue BoolOp") => `(tactic| first | with_reducible refine isTrue_and_nil ?_ | with_reducible refine isTrue_or_nil ?_ | with_reducible refine isTrue_and ?_ | with_reducible refine isTrue_or ?_)
local macro_rules | `(tactic| walk_at "isTrue Compare") => `(tactic| first | (with_reducible refine wpAny_isTrue_Compare1 ?_) | (k_dflt (refine isTrue_chain ?_)))
local macro_rules | `(tactic| walk_at "eval BinOp") => `(tactic| (with_reducible refine wpAny_BinOp ?_))
local macro_rules | `(tactic| walk_at "eval Call Name") => `(tactic| (k_dflt (refine Call_ ?_)))
local macro_rules | `(tactic| walk_at "getAttr ref") => `(tactic| (k_dflt (refine' get_own ?k1 ?k2 ?k3 ?k4 ?k5 ?k6 ?k7 ?k8 ?k9 ?_; (case k1 => k_asm); (case k2 => k_asm); (case k3 => (refine' InstAt.of_news ?N ?h1 ?h2; (case N => k_asm); (case h1 => k_mem); (case h2 => k_mem))); (case k4 => k_is); (case k5 => k_is); (case k6 => k_is); (case k7 => k_is); (case k8 => k_get); (case k9 => k_handed); k_whole)))
local macro_rules | `(tactic| walk_at "call ref") => `(tactic| (k_here; (with_reducible show wpAny _ _ (call (Value.ref 247) _ _) _ _ _); k_dflt (show wpAny _ _ (call (Value.ref 247) [Value.str _ _]) _ _ _); k_dflt (refine' gt_call ?k1 ?k2 ?k3 ?k4 ?k5 ?kd ?ku  ?_; (case k1 => k_asm); (case k2 => k_asm); (case k3 => k_asm); (case k4 => k_asm); (case k5 => k_asm);  (case kd => k_room); (case ku => ktr_units); k_whole); intro t' h' tk' F' N'; (try k_sweep); (try dsimp only); (try k_fold)))
local macro_rules | `(tactic| walk_at "call ref") => `(tactic| (k_here; (with_reducible show wpAny _ _ (call (Value.ref 254) _ _) _ _ _); k_dflt (show wpAny _ _ (call (Value.ref 254) [Value.str _ _, Value.str _ _, Value.int _ _]) _ _ _); k_dflt (refine' ng_call ?k1 ?k2 ?k3 ?k4 ?k5 ?kd ?ku ?_ ?_; (case k1 => k_asm); (case k2 => k_asm); (case k3 => k_asm); (case k4 => k_asm); (case k5 => k_asm); (case kd => k_room); (case ku => ktr_units)); all_goals (intro e1'; first | (exfalso; omega) | (intro t' h' tk' k0' F' N'; (try k_sweep); (try dsimp only); (try k_fold)))))
local macro_rules | `(tactic| walk_at "binaryOp Mod str int") => `(tactic| ((with_reducible refine fmt0 ?fa ?fb ?_); (case fa => first | omega | assumption); (case fb => omega); intro _ _))
local macro_rules | `(tactic| walk_at "binaryOp Mod str int") => `(tactic| ((with_reducible refine fmt1 ?fa ?fb ?_); (case fa => first | omega | assumption); (case fb => omega); intro _ _))
local macro_rules | `(tactic| walk_at "binaryOp Mod str int") => `(tactic| ((with_reducible refine fmt2 ?fa ?fb ?_); (case fa => first | omega | assumption); (case fb => omega); intro _ _))
local macro_rules | `(tactic| walk_at "binaryOp Mod str int") => `(tactic| ((with_reducible refine fmt3 ?fa ?fb ?_); (case fa => first | omega | assumption); (case fb => omega); intro _ _))
local macro_rules | `(tactic| walk_at "binaryOp Mod str int") => `(tactic| ((with_reducible refine fmt4 ?fa ?fb ?_); (case fa => first | omega | assumption); (case fb => omega); intro _ _))
local macro_rules | `(tactic| walk_at "binaryOp Mod str int") => `(tactic| ((with_reducible refine fmt5 ?fa ?fb ?_); (case fa => first | omega | assumption); (case fb => omega); intro _ _))
local macro_rules | `(tactic| walk_at "binaryOp Mod str int") => `(tactic| ((with_reducible refine fmt6 ?fa ?fb ?_); (case fa => first | omega | assumption); (case fb => omega); intro _ _))
local macro_rules | `(tactic| walk_at "binaryOp Mod str int") => `(tactic| ((with_reducible refine fmt7 ?fa ?fb ?_); (case fa => first | omega | assumption); (case fb => omega); intro _ _))
local macro_rules | `(tactic| walk_at "binaryOp Mod str int") => `(tactic| ((with_reducible refine fmt8 ?fa ?fb ?_); (case fa => first | omega | assumption); (case fb => omega); intro _ _))
local macro_rules | `(tactic| walk_at "binaryOp Mod str int") => `(tactic| ((with_reducible refine fmt9 ?fa ?fb ?_); (case fa => first | omega | assumption); (case fb => omega); intro _ _))
local macro_rules | `(tactic| walk_at "binaryOp Mod str int") => `(tactic| ((with_reducible refine fmt10 ?fa ?fb ?_); (case fa => first | omega | assumption); (case fb => omega); intro _ _))
local macro_rules | `(tactic| walk_at "binaryOp Mod str int") => `(tactic| ((with_reducible refine fmt11 ?fa ?fb ?_); (case fa => first | omega | assumption); (case fb => omega); intro _ _))
local macro_rules | `(tactic| walk_at "binaryOp Mod str int") => `(tactic| ((with_reducible refine fmt12 ?fa ?fb ?_); (case fa => first | omega | assumption); (case fb => omega); intro _ _))
local macro_rules | `(tactic| walk_at "binaryOp Mod str str") => `(tactic| ((with_reducible refine fms0 ?fa ?_); (case fa => first | omega | assumption); intro _ _))
local macro_rules | `(tactic| walk_at "binaryOp Mod str str") => `(tactic| ((with_reducible refine fms1 ?fa ?_); (case fa => first | omega | assumption); intro _ _))
local macro_rules | `(tactic| walk_at "binaryOp Mod str str") => `(tactic| ((with_reducible refine fms2 ?fa ?_); (case fa => first | omega | assumption); intro _ _))
local macro_rules | `(tactic| walk_at "call builtin:dict.get") => `(tactic| (k_dflt (show wpAny _ _ (call (Value.builtin "dict.get") [Value.ref _, Value.none, Value.str _ _]) _ _ _); k_dflt (refine' get_none ?T ?_; (case T => first | k_tabat | exact TabAt.keep (by assumption) (Fr.keep (by assumption))))))
local macro_rules | `(tactic| walk_at "call builtin:str.replace") => `(tactic| (k_dflt (show wpAny _ _ (call (Value.builtin "str.replace") [Value.str _ _, Value.str _ _, Value.str _ _]) _ _ _); (try dsimp only); k_dflt (refine' repl_years ?a ?b ?c ?_; (case a => first | exact Nat.succ_ne_zero _ | assumption); (case b => exact Nat.succ_ne_zero _); (case c => exact Nat.ne_of_lt (Nat.lt_succ_self _))); intro _ _))
local macro_rules | `(tactic| walk_at "call builtin:str.split") => `(tactic| (k_dflt (show wpAny _ _ (call (Value.builtin "str.split") [Value.str _ _, Value.str _ _, Value.int 1 _]) _ _ _); k_dflt (refine' split_pd ?a ?b ?_; (case a => k_asm); (case b => k_asm)); intro D' t1' t2' h' k' F' N' l1; (try k_lt l1); (try k_sweep)))
local macro_rules | `(tactic| walk_at "call builtin:str.lstrip") => `(tactic| (k_dflt (show wpAny _ _ (call (Value.builtin "str.lstrip") [Value.str _ _, Value.str _ _]) _ _ _); (refine KXw.lstripChars (by k_dflt kxw_text) (by decide +kernel) ?_); intro _ _))
local macro_rules | `(tactic| walk_at "exec While") => `(tactic| (k_here; k_dflt (refine whl_start 100 ?_)))
local macro_rules | `(tactic| walk_at "exec While Compare cons nil") => `(tactic| (k_here; k_dflt (refine whl_start 100 ?_)))
local macro_rules | `(tactic| walk_at "WhlIf") => `(tactic| (first | (with_reducible refine WhlIf.yes (gt3_yes (by with_reducible assumption)) ?_) | (with_reducible refine WhlIf.no (gt3_no (by with_reducible assumption)) ?_) | (refine WhlIf.no (len4_no (by with_reducible assumption)) ?_)))
local macro_rules | `(tactic| walk_at "call builtin:len") => `(tactic| ((show wpAny _ _ (call (Value.builtin "len") [Value.str _ _]) _ _ _); (refine P.len_str (len_fit (by first | (with_reducible assumption) | (with_reducible refine sl4 ?_; with_reducible assumption) | (with_reducible refine sl4 (sl4 ?_); with_reducible assumption))) ?_)))
local macro_rules | `(tactic| walk_at "call builtin:list.insert") => `(tactic| k_dflt (dsimp only [List.nil_append, List.cons_append]; walk1))
local macro_rules | `(tactic| walk_at "call builtin:str.join") => `(tactic| k_dflt (dsimp only [List.nil_append, List.cons_append]; walk1))
local macro_rules | `(tactic| walk_at "binaryOp Add str str") => `(tactic| ((with_reducible refine' addN ?hx ?hy ?hs ?_); (case hx => first | (with_reducible assumption) | exact lit12 12 (by decide +kernel) | (with_reducible refine jn1 ?_; first | (with_reducible assumption) | (with_reducible refine sl4 ?_; with_reducible assumption) | (with_reducible refine sl4 (sl4 ?_); with_reducible assumption)) | (with_reducible refine jn2 ?_ ?_; (first | (with_reducible assumption) | (with_reducible refine sl4 ?_; with_reducible assumption) | (with_reducible refine sl4 (sl4 ?_); with_reducible assumption)); (first | (with_reducible assumption) | (with_reducible refine sl4 ?_; with_reducible assumption) | (with_reducible refine sl4 (sl4 ?_); with_reducible assumption)))); (case hy => first | (with_reducible assumption) | exact lit12 12 (by decide +kernel) | (with_reducible refine jn1 ?_; first | (with_reducible assumption) | (with_reducible refine sl4 ?_; with_reducible assumption) | (with_reducible refine sl4 (sl4 ?_); with_reducible assumption)) | (with_reducible refine jn2 ?_ ?_; (first | (with_reducible assumption) | (with_reducible refine sl4 ?_; with_reducible assumption) | (with_reducible refine sl4 (sl4 ?_); with_reducible assumption)); (first | (with_reducible assumption) | (with_reducible refine sl4 ?_; with_reducible assumption) | (with_reducible refine sl4 (sl4 ?_); with_reducible assumption)))); (case hs => decide); intro _ _ _))
local macro_rules | `(tactic| walk_at "callWith ref nil") => `(tactic| (k_here; (with_reducible show wpAny _ _ (callWith _ _ _ (backTo _ (starEach (_ :: _) _)) (backToKw _ (keywordEach (_ :: _) _))) _ _ _); k_dflt (refine' callWith_KW ?k1 ?k2 ?k3 ?_; (case k1 => k_asm); (case k2 => k_is); (case k3 => exact rfl); k_whole)))
local macro_rules | `(tactic| walk_at "callWith ref nil") => `(tactic| (k_here; (with_reducible show wpAny _ _ (callWith _ _ _ (backTo _ (starEach [] _)) (backToKw _ (keywordEach (_ :: _) _))) _ _ _); k_dflt (refine' callWith_KW0 ?k1 ?k2 ?k3 ?_; (case k1 => k_in); (case k2 => k_is); (case k3 => exact rfl); k_whole)))
local macro_rules | `(tactic| walk_at "ite") => `(tactic| first | with_reducible refine ite_ff ?_ | with_reducible refine ite_tt ?_)
local macro_rules | `(tactic| walk_at "call builtin:isinstance") => `(tactic| (k_here; (with_reducible show wpAny _ _ (call _ [Value.str _ _, Value.ref _]) _ _ _); k_dflt (refine' isn_call (P := fun _ => True) ?k1 ?k2 ?k3 ?k4 ?k5 str_cls ?_; (case k1 => k_in); (case k2 => (intro M; exact Looks.of_pure rfl)); (case k3 => k_not); (case k4 => intro e; cases e); (case k5 => trivial); k_whole)))
local macro_rules | `(tactic| walk_at "call builtin:isinstance") => `(tactic| (k_here; (with_reducible show wpAny _ _ (call _ [Value.none, Value.ref _]) _ _ _); k_dflt (refine' isn_call (P := fun _ => True) ?k1 ?k2 ?k3 ?k4 ?k5 none_cls ?_; (case k1 => k_in); (case k2 => (intro M; exact Looks.of_pure rfl)); (case k3 => k_not); (case k4 => intro e; cases e); (case k5 => trivial); k_whole)))
local macro_rules | `(tactic| walk_at "call builtin:isinstance") => `(tactic| (k_here; (with_reducible show wpAny _ _ (call _ [Value.int _ _, Value.ref _]) _ _ _); k_dflt (refine' isn_call (P := fun _ => True) ?k1 ?k2 ?k3 ?k4 ?k5 int_cls ?_; (case k1 => k_in); (case k2 => (intro M; exact Looks.of_pure rfl)); (case k3 => k_not); (case k4 => intro e; cases e); (case k5 => trivial); k_whole)))
local macro_rules | `(tactic| walk_at "exec Raise some none") => `(tactic| (with_reducible refine Raise_new rfl ?_))
local macro_rules | `(tactic| walk_at "getAttr ref") => `(tactic| (k_here; (with_reducible show wpAny _ _ (getAttr (Value.ref 293) _ _) _ _ _); k_dflt (refine' cls_val ?k1 ?k2 ?k3 ?k4 ?k5 ?k6 ?_; (case k1 => k_asm); (case k2 => k_asm); (case k3 => k_is); (case k4 => k_is); (case k5 => k_is); (case k6 => k_handed); k_whole)))
set_option maxRecDepth 100000 in
set_option maxHeartbeats 8000000 in
theorem laid_call : ∀ {w : World} {loose : List Str} {mean : ExcName → Option Value} {mg mb : Str → Option Value} {dp un : Nat} {gd : Option (List Code)} {cn : Str} {nms : List (Str × NameKind)} {ig ic : Bool} {mo : List (Str × Const)} {L a : Addr} {ccd : Value} {cl : List (Str × Addr)} {outer : List Env} {A₀ : Around} {base h₀ : Heap} {m : Str → Option Value} {news : List (Addr × Obj)} {s : Shared} {Q E : Value → Shared → Prop} {n : Int} {t u : Tok},
  Below A₀ base outer h₀ → Fr h₀ L s.heap m → (hd.heap_39 w.params).In h₀ → News h₀ L s.heap news → Top hd.view_39 loose mean mg mb h₀ → dp + 32 < recursionLimit → un + 320 < cLine → 0 ≤ n → n < 10000 → 
  (∀ t h' tk', Fr h₀ L h' m → News h₀ L h' news → Q (.str (Str.ofString (toString n)) t) {s with heap := h', toks := tk'}) →
  wpAny (model Challenge.rw_ez0122_01.row.prog w) (ktrTop dp un gd cn ⟨.function, nms, ig, ic, mo⟩ L a ccd cl outer) (call (.ref 231) [.str (Str.ofString "%d") u, .int n t]) Q E s := (by
  w_on
  k_with_none
  k_fill
  intro w loose mean mg mb dp un gd cn nms ig ic mo L a ccd cl outer A₀ base h₀ m news s Q E n t u B F X N T hdp hun hu0 hu1 hret
  w_strict (walk1; ((rename Fr _ _ _ (fun y => List.lookup y _) => F9); replace F9 := fr_args F9 (l' := [(Str.ofString "value", .int n t), (Str.ofString "form", .str (Str.ofString "%d") u)]) (by kernel_rfl)); k_steps; all_goals (refine' cb_retS (Q := Q) hret ?e0 ?F ?N; (case e0 => (simp only [ofEmpty_app, app_ofEmpty])); (case F => k_asm); (case N => (first | k_asm | (rename News _ _ _ _ => kN9; exact drop1 kN9))))))
def grp (tx : Str) : Str := if (Txt.slice (Txt.partition tx (Str.ofString ".")).1 none (some 1) == Str.ofString "-") = true then (if 3 < (Txt.slice (Txt.partition tx (Str.ofString ".")).1 (some ((1 : Nat) : Int)) none).length then (Str.ofString "-" ++ Txt.join (Str.ofString ",") [Txt.slice (Txt.slice (Txt.partition tx (Str.ofString ".")).1 (some ((1 : Nat) : Int)) none) none (some (-3)), Txt.slice (Txt.slice (Txt.partition tx (Str.ofString ".")).1 (some ((1 : Nat) : Int)) none) (some (-3)) none] ++ (Txt.partition tx (Str.ofString ".")).2.1 ++ (Txt.partition tx (Str.ofString ".")).2.2) else (Str.ofString "-" ++ Txt.join (Str.ofString ",") [(Txt.slice (Txt.partition tx (Str.ofString ".")).1 (some ((1 : Nat) : Int)) none)] ++ (Txt.partition tx (Str.ofString ".")).2.1 ++ (Txt.partition tx (Str.ofString ".")).2.2)) else (if 3 < (Txt.slice (Txt.partition tx (Str.ofString ".")).1 (some ((0 : Nat) : Int)) none).length then (Str.ofString "" ++ Txt.join (Str.ofString ",") [Txt.slice (Txt.slice (Txt.partition tx (Str.ofString ".")).1 (some ((0 : Nat) : Int)) none) none (some (-3)), Txt.slice (Txt.slice (Txt.partition tx (Str.ofString ".")).1 (some ((0 : Nat) : Int)) none) (some (-3)) none] ++ (Txt.partition tx (Str.ofString ".")).2.1 ++ (Txt.partition tx (Str.ofString ".")).2.2) else (Str.ofString "" ++ Txt.join (Str.ofString ",") [(Txt.slice (Txt.partition tx (Str.ofString ".")).1 (some ((0 : Nat) : Int)) none)] ++ (Txt.partition tx (Str.ofString ".")).2.1 ++ (Txt.partition tx (Str.ofString ".")).2.2))
theorem ret_len {h₀ h' : Heap} {L : Addr} {m : Str → Option Value} {news : List (Addr × Obj)} {s : Shared} {Q : Value → Shared → Prop} {x y : Str} {t : Tok} {tk' : Nat} {n k : Nat}
    (hret : ∀ (t : Tok) (h' : Heap) (tk' : Nat), x.length ≤ n → Fr h₀ L h' m → News h₀ L h' news → Q (.str x t) { s with heap := h', toks := tk' }) (e : y = x) (hl : y.length ≤ k) (hk : k ≤ n) (F : Fr h₀ L h' m) (N : News h₀ L h' news) : Q (.str y t) { s with heap := h', toks := tk' } := by
  subst e
  exact hret t h' tk' (Nat.le_trans hl hk) F N
set_option maxRecDepth 100000 in
set_option maxHeartbeats 8000000 in
theorem grouped_call : ∀ {w : World} {loose : List Str} {mean : ExcName → Option Value} {mg mb : Str → Option Value} {dp un : Nat} {gd : Option (List Code)} {cn : Str} {nms : List (Str × NameKind)} {ig ic : Bool} {mo : List (Str × Const)} {L a : Addr} {ccd : Value} {cl : List (Str × Addr)} {outer : List Env} {A₀ : Around} {base h₀ : Heap} {m : Str → Option Value} {news : List (Addr × Obj)} {s : Shared} {Q E : Value → Shared → Prop} {tx : Str} {t : Tok},
  Below A₀ base outer h₀ → Fr h₀ L s.heap m → (hd.heap_39 w.params).In h₀ → News h₀ L s.heap news → Top hd.view_39 loose mean mg mb h₀ → dp + 32 < recursionLimit → un + 320 < cLine → tx.length ≤ 4 → 
  (∀ t h' tk', (grp tx).length ≤ 1000 → Fr h₀ L h' m → News h₀ L h' news → Q (.str (grp tx) t) {s with heap := h', toks := tk'}) →
  wpAny (model Challenge.rw_ez0122_01.row.prog w) (ktrTop dp un gd cn ⟨.function, nms, ig, ic, mo⟩ L a ccd cl outer) (call (.ref 238) [.str tx t]) Q E s := (by
  w_on
  k_with_none
  k_fill
  intro w loose mean mg mb dp un gd cn nms ig ic mo L a ccd cl outer A₀ base h₀ m news s Q E tx t B F X N T hdp hun hT hret
  have hP : (Txt.partition tx (Str.ofString ".")).1.length ≤ 4 := Nat.le_trans (fact_partition tx (Str.ofString ".")).1 hT
  have hP2 : (Txt.partition tx (Str.ofString ".")).2.1.length ≤ 4 := Nat.le_trans (fact_partition tx (Str.ofString ".")).2.1 hT
  have hP3 : (Txt.partition tx (Str.ofString ".")).2.2.length ≤ 4 := Nat.le_trans (fact_partition tx (Str.ofString ".")).2.2 hT
  by_cases hc : (Txt.slice (Txt.partition tx (Str.ofString ".")).fst none (some 1) == Str.ofString "-") = true
  · skip
    have hW : (Txt.slice (Txt.partition tx (Str.ofString ".")).1 (some ((1 : Nat) : Int)) none).length ≤ 4 := sl4 hP
    by_cases h3 : 3 < (Txt.slice (Txt.partition tx (Str.ofString ".")).1 (some ((1 : Nat) : Int)) none).length
    · w_strict (walk1; ((rename Fr _ _ _ (fun y => List.lookup y _) => F9); replace F9 := fr_args F9 (l' := [(Str.ofString "text", .str tx t)]) (by kernel_rfl)); k_steps; all_goals (refine' ret_len (Q := Q) hret ?e ?a ?b ?F ?N; (case e => (unfold grp; rw [if_pos hc, if_pos h3])); (case a => with_reducible assumption); (case b => decide); (case F => k_asm); (case N => (refine' cb_drop ?cbN ?cbS; (case cbN => assumption); (case cbS => kcj_all)))))
    · w_strict (walk1; ((rename Fr _ _ _ (fun y => List.lookup y _) => F9); replace F9 := fr_args F9 (l' := [(Str.ofString "text", .str tx t)]) (by kernel_rfl)); k_steps; all_goals (refine' ret_len (Q := Q) hret ?e ?a ?b ?F ?N; (case e => (unfold grp; rw [if_pos hc, if_neg h3])); (case a => with_reducible assumption); (case b => decide); (case F => k_asm); (case N => (refine' cb_drop ?cbN ?cbS; (case cbN => assumption); (case cbS => kcj_all)))))
  · have hc : (Txt.slice (Txt.partition tx (Str.ofString ".")).fst none (some 1) == Str.ofString "-") = false := by simpa using hc
    have hW : (Txt.slice (Txt.partition tx (Str.ofString ".")).1 (some ((0 : Nat) : Int)) none).length ≤ 4 := sl4 hP
    by_cases h3 : 3 < (Txt.slice (Txt.partition tx (Str.ofString ".")).1 (some ((0 : Nat) : Int)) none).length
    · w_strict (walk1; ((rename Fr _ _ _ (fun y => List.lookup y _) => F9); replace F9 := fr_args F9 (l' := [(Str.ofString "text", .str tx t)]) (by kernel_rfl)); k_steps; all_goals (refine' ret_len (Q := Q) hret ?e ?a ?b ?F ?N; (case e => (unfold grp; rw [if_neg (by rw [hc]; exact Bool.false_ne_true), if_pos h3])); (case a => with_reducible assumption); (case b => decide); (case F => k_asm); (case N => (refine' cb_drop ?cbN ?cbS; (case cbN => assumption); (case cbS => kcj_all)))))
    · w_strict (walk1; ((rename Fr _ _ _ (fun y => List.lookup y _) => F9); replace F9 := fr_args F9 (l' := [(Str.ofString "text", .str tx t)]) (by kernel_rfl)); k_steps; all_goals (refine' ret_len (Q := Q) hret ?e ?a ?b ?F ?N; (case e => (unfold grp; rw [if_neg (by rw [hc]; exact Bool.false_ne_true), if_neg h3])); (case a => with_reducible assumption); (case b => decide); (case F => k_asm); (case N => (refine' cb_drop ?cbN ?cbS; (case cbN => assumption); (case cbS => kcj_all))))))
local macro_rules | `(tactic| walk_at "call ref") => `(tactic| (k_here; (with_reducible show wpAny _ _ (call (Value.ref 231) _ _) _ _ _); k_dflt (show wpAny _ _ (call (Value.ref 231) [Value.str _ _, Value.int _ _]) _ _ _); k_dflt (refine' laid_call ?k1 ?k2 ?k3 ?k4 ?k5 ?kd ?ku ?p0 ?p1 ?_; (case k1 => k_asm); (case k2 => k_asm); (case k3 => k_asm); (case k4 => k_asm); (case k5 => k_asm); (case p0 => first | omega | assumption); (case p1 => first | omega | assumption); (case kd => k_room); (case ku => ktr_units); k_whole); intro t' h' tk' F' N'; (try k_sweep); (try dsimp only); (try k_fold)))
local macro_rules | `(tactic| walk_at "call ref") => `(tactic| (k_here; (with_reducible show wpAny _ _ (call (Value.ref 238) _ _) _ _ _); k_dflt (show wpAny _ _ (call (Value.ref 238) [Value.str _ _]) _ _ _); k_dflt (refine' grouped_call ?k1 ?k2 ?k3 ?k4 ?k5 ?kd ?ku ?p0 ?_; (case k1 => k_asm); (case k2 => k_asm); (case k3 => k_asm); (case k4 => k_asm); (case k5 => k_asm); (case p0 => exact toString_length_le (by omega) (by decide) (by omega)); (case kd => k_room); (case ku => ktr_units); k_whole); intro t' h' tk' le' F' N'; (try k_sweep); (try dsimp only); (try k_fold)))
def icT (n : Int) : Str := grp (Str.ofString (toString n))
set_option maxRecDepth 100000 in
set_option maxHeartbeats 8000000 in
theorem ic_call : ∀ {w : World} {loose : List Str} {mean : ExcName → Option Value} {mg mb : Str → Option Value} {dp un : Nat} {gd : Option (List Code)} {cn : Str} {nms : List (Str × NameKind)} {ig ic : Bool} {mo : List (Str × Const)} {L a : Addr} {ccd : Value} {cl : List (Str × Addr)} {outer : List Env} {A₀ : Around} {base h₀ : Heap} {m : Str → Option Value} {news : List (Addr × Obj)} {s : Shared} {Q E : Value → Shared → Prop} {n : Int} {t : Tok},
  Below A₀ base outer h₀ → Fr h₀ L s.heap m → (hd.heap_39 w.params).In h₀ → News h₀ L s.heap news → Top hd.view_39 loose mean mg mb h₀ → dp + 64 < recursionLimit → un + 640 < cLine → 0 ≤ n → n < 10000 → 
  (∀ t h' tk', (icT n).length ≤ 1000 → Fr h₀ L h' m → News h₀ L h' news → Q (.str (icT n) t) {s with heap := h', toks := tk'}) →
  wpAny (model Challenge.rw_ez0122_01.row.prog w) (ktrTop dp un gd cn ⟨.function, nms, ig, ic, mo⟩ L a ccd cl outer) (call (.ref 283) [.int n t]) Q E s := (by
  w_on
  k_with_none
  k_fill
  intro w loose mean mg mb dp un gd cn nms ig ic mo L a ccd cl outer A₀ base h₀ m news s Q E n t B F X N T hdp hun hn0 hn1 hret
  w_strict (walk1; ((rename Fr _ _ _ (fun y => List.lookup y _) => F9); replace F9 := fr_args F9 (l' := [(Str.ofString "ndigits", .none), (Str.ofString "value", .int n t)]) (by kernel_rfl)); k_steps; all_goals (refine' ret_len (Q := Q) hret ?e ?a ?b ?F ?N; (case e => rfl); (case a => with_reducible assumption); (case b => decide); (case F => k_asm); (case N => (refine' cb_drop ?cbN ?cbS; (case cbN => assumption); (case cbS => kcj_all))))))
def UnitOf (ut : Str) (mu : Int) : Prop := (ut = Str.ofString "seconds" ∧ mu = 2) ∨ (ut = Str.ofString "milliseconds" ∧ mu = 1) ∨ (ut = Str.ofString "microseconds" ∧ mu = 0)
theorem UnitOf.lo {ut : Str} {mu : Int} (h : UnitOf ut mu) : 0 ≤ mu := by rcases h with ⟨_, h⟩ | ⟨_, h⟩ | ⟨_, h⟩ <;> omega
theorem UnitOf.hi {ut : Str} {mu : Int} (h : UnitOf ut mu) : mu ≤ 2 := by rcases h with ⟨_, h⟩ | ⟨_, h⟩ | ⟨_, h⟩ <;> omega
theorem UnitOf.up {ut : Str} {mu : Int} (h : UnitOf ut mu) : Builtin.Str.tooLong (Txt.upper ut).length = false := by
  rcases h with ⟨h, _⟩ | ⟨h, _⟩ | ⟨h, _⟩ <;> subst h <;> decide +kernel
theorem up_call {prog : Program} {w : World} {A : Around} {E : Value → Shared → Prop} {s : Shared} {ut : Str} {mu : Int} {t : Tok} {Q : Value → Shared → Prop} (hU : UnitOf ut mu) (h : ∀ t' k, Q (.str (Txt.upper ut) t') { s with toks := k }) :
    wpAny (model prog w) A (call (.builtin "str.upper") [.str ut t]) Q E s := SC.upper hU.up (h _ _)
def numS (n : Int) (z : String) : Str := Str.ofString (toString n) ++ Str.ofString z
def yrS (n : Int) (z : String) : Str := (Str.ofString "1 year, " ++ Str.ofString (toString n)) ++ Str.ofString z
/-- naturaldelta's words of a span of D days, S seconds, U microseconds -/
def ndT (D S U : Int) (mo : Bool) (mu : Int) : Str :=
  if D / 365 = 0 ∧ D % 365 < 1 then
    (if S = 0 then
      (if mu = 0 ∧ U < 1000 then (if U = 1 then numS U " microsecond" else numS U " microseconds")
       else if mu = 1 ∨ mu = 0 then (if U / 1000 = 1 then numS (U / 1000) " millisecond" else numS (U / 1000) " milliseconds")
       else Str.ofString "a moment")
     else if S = 1 then Str.ofString "a second"
     else if S < 60 then numS S " seconds"
     else if S < 3600 then (if rnd S 60 = 1 then Str.ofString "a minute" else if rnd S 60 = 60 then Str.ofString "an hour" else numS (rnd S 60) " minutes")
     else (if rnd S 3600 = 1 then Str.ofString "an hour" else if rnd S 3600 = 24 then Str.ofString "a day" else numS (rnd S 3600) " hours"))
  else if D / 365 = 0 then
    (if D % 365 = 1 then Str.ofString "a day"
     else if mo = false ∨ rnd (2 * (D % 365)) 61 = 0 then numS (D % 365) " days"
     else if rnd (2 * (D % 365)) 61 = 1 then Str.ofString "a month"
     else if rnd (2 * (D % 365)) 61 = 12 then Str.ofString "a year"
     else numS (rnd (2 * (D % 365)) 61) " months")
  else if D / 365 = 1 then
    (if rnd (2 * (D % 365)) 61 = 0 ∧ D % 365 = 0 then Str.ofString "a year"
     else if mo = false ∨ rnd (2 * (D % 365)) 61 = 0 then (if D % 365 = 1 then yrS (D % 365) " day" else yrS (D % 365) " days")
     else if rnd (2 * (D % 365)) 61 = 1 then Str.ofString "1 year, 1 month"
     else if rnd (2 * (D % 365)) 61 = 12 then numS (D / 365 + 1) " years"
     else yrS (rnd (2 * (D % 365)) 61) " months")
  else icT (rnd D 365) ++ Str.ofString " years"
def ndText (n : Int) (mo : Bool) (mu : Int) : Str := ndT (n / 86400000000) (n % 86400000000 / 1000000) (n % 86400000000 % 1000000) mo mu
theorem numS_len {n : Int} {z : String} (h0 : 0 ≤ n) (h1 : n < 10 ^ 10) (hz : decide ((Str.ofString z).length ≤ 20) = true) : (numS n z).length ≤ 1100 := by
  unfold numS
  rw [Str.length_append]
  have := toString_length_le h0 (k := 10) (by decide) h1
  have := of_decide_eq_true hz
  omega
theorem yrS_len {n : Int} {z : String} (h0 : 0 ≤ n) (h1 : n < 10 ^ 10) (hz : decide ((Str.ofString z).length ≤ 20) = true) : (yrS n z).length ≤ 1100 := by
  unfold yrS
  rw [Str.length_append, Str.length_append]
  have := toString_length_le h0 (k := 10) (by decide) h1
  have := of_decide_eq_true hz
  have h8 : (Str.ofString "1 year, ").length ≤ 20 := of_decide_eq_true (by decide +kernel)
  omega
theorem lit_len {z : String} (hz : decide ((Str.ofString z).length ≤ 1100) = true) : (Str.ofString z).length ≤ 1100 := of_decide_eq_true hz
theorem unit_s : UnitOf (Str.ofString "seconds") 2 := Or.inl ⟨rfl, rfl⟩
set_option maxRecDepth 100000 in
set_option maxHeartbeats 8000000 in
theorem units_item : ∀ {w : World} {loose : List Str} {mean : ExcName → Option Value} {mg mb : Str → Option Value} {dp un : Nat} {gd : Option (List Code)} {cn : Str} {nms : List (Str × NameKind)} {ig ic : Bool} {mo : List (Str × Const)} {L a : Addr} {ccd : Value} {cl : List (Str × Addr)} {outer : List Env} {A₀ : Around} {base h₀ : Heap} {m : Str → Option Value} {news : List (Addr × Obj)} {s : Shared} {Q E : Value → Shared → Prop} {ut : Str} {mu : Int} {nm : Str} {f : Expr} {as : List Expr} {ks : List Keyword} {p1 p2 : Pos} {t : Tok},
  Below A₀ base outer h₀ → Fr h₀ L s.heap m → (hd.heap_39 w.params).In h₀ → News h₀ L s.heap news → Top hd.view_39 loose mean mg mb h₀ → dp + 32 < recursionLimit → un + 320 < cLine → UnitOf ut mu → 
  (∀ t h' tk', Fr h₀ L h' m → News h₀ L h' news → Q (.int mu t) {s with heap := h', toks := tk'}) →
  wpAny (model Challenge.rw_ez0122_01.row.prog w) (ktrTop dp un gd cn ⟨.function, nms, ig, ic, mo⟩ L a ccd cl outer) (subscriptTail (Expr.Name nm p1) (Expr.Call f as ks p2) (.ref 298) (.str (Txt.upper ut) t)) Q E s := (by
  w_on
  k_with_none
  k_fill
  intro w loose mean mg mb dp un gd cn nms ig ic mo L a ccd cl outer A₀ base h₀ m news s Q E ut mu nm f as ks p1 p2 t B F X N T hdp hun hU hret
  rcases hU with ⟨h1, h2⟩ | ⟨h1, h2⟩ | ⟨h1, h2⟩ <;> subst h1 <;> subst h2
  · rw [show Txt.upper (Str.ofString "seconds") = Str.ofString "SECONDS" from by decide +kernel]
    w_strict (walk1; exact hret _ _ _ (by assumption) (by assumption))
  · rw [show Txt.upper (Str.ofString "milliseconds") = Str.ofString "MILLISECONDS" from by decide +kernel]
    w_strict (walk1; exact hret _ _ _ (by assumption) (by assumption))
  · rw [show Txt.upper (Str.ofString "microseconds") = Str.ofString "MICROSECONDS" from by decide +kernel]
    w_strict (walk1; exact hret _ _ _ (by assumption) (by assumption)))
local macro_rules | `(tactic| walk_at "call ref") => `(tactic| (k_here; (with_reducible show wpAny _ _ (call (Value.ref 283) _ _) _ _ _); k_dflt (show wpAny _ _ (call (Value.ref 283) [Value.int _ _]) _ _ _); k_dflt (refine' ic_call ?k1 ?k2 ?k3 ?k4 ?k5 ?kd ?ku ?p0 ?p1 ?_; (case k1 => k_asm); (case k2 => k_asm); (case k3 => k_asm); (case k4 => k_asm); (case k5 => k_asm); (case p0 => first | omega | assumption); (case p1 => first | omega | assumption); (case kd => k_room); (case ku => ktr_units); k_whole); intro t' h' tk' le' F' N'; (try k_sweep); (try dsimp only); (try k_fold)))
local macro_rules | `(tactic| walk_at "call builtin:str.upper") => `(tactic| (k_dflt (show wpAny _ _ (call (Value.builtin "str.upper") [Value.str _ _]) _ _ _); (refine up_call (by with_reducible assumption) ?_); intro _ _))
local macro_rules | `(tactic| walk_at "subscriptTail") => `(tactic| (k_here; (with_reducible show wpAny _ _ (subscriptTail _ _ (Value.ref 298) (Value.str (Txt.upper _) _)) _ _ _); k_dflt (refine' units_item ?k1 ?k2 ?k3 ?k4 ?k5 ?kd ?ku ?p0 ?_; (case p0 => with_reducible assumption); (case k1 => k_asm); (case k2 => k_asm); (case k3 => k_asm); (case k4 => k_asm); (case k5 => k_asm); (case kd => k_room); (case ku => ktr_units); k_whole); intro t' h' tk' F' N'; (try k_sweep); (try dsimp only); (try k_fold)))
local macro_rules | `(tactic| walk_at "ite") => `(tactic| (k_openite; refine ite_neg (by ((simp only [List.any_cons, List.any_nil, Array.any_toList, List.any_toArray, Bool.or_false, Bool.not_eq_true', Bool.or_eq_false_iff, beq_eq_false_iff_ne, ne_eq]); omega)) ?_))
theorem eq_pos {α : Type} {c : Prop} [Decidable c] {a b t : α} (h : c) (e : t = a) : t = (if c then a else b) := by rw [if_pos h]; exact e
theorem eq_neg {α : Type} {c : Prop} [Decidable c] {a b t : α} (h : ¬ c) (e : t = b) : t = (if c then a else b) := by rw [if_neg h]; exact e
theorem no_or {b : Bool} {P : Prop} (h : b = true) (hp : ¬ P) : ¬ (b = false ∨ P) := by
  rintro (e | e)
  · rw [h] at e; exact nomatch e
  · exact hp e
theorem ret_nd {h₀ h' : Heap} {L : Addr} {m : Str → Option Value} {news : List (Addr × Obj)} {s : Shared} {Q : Value → Shared → Prop} {x y : Str} {t : Tok} {tk' : Nat}
    (hret : ∀ (t : Tok) (h' : Heap) (tk' : Nat), Fr h₀ L h' m → News h₀ L h' news → Q (.str x t) { s with heap := h', toks := tk' }) (e : y = x) (F : Fr h₀ L h' m) (N : News h₀ L h' news) : Q (.str y t) { s with heap := h', toks := tk' } := by
  subst e
  exact hret t h' tk' F N
set_option maxRecDepth 100000 in
set_option maxHeartbeats 8000000 in
theorem nd_td : ∀ {w : World} {loose : List Str} {mean : ExcName → Option Value} {mg mb : Str → Option Value} {dp un : Nat} {gd : Option (List Code)} {cn : Str} {nms : List (Str × NameKind)} {ig ic : Bool} {mo : List (Str × Const)} {L a : Addr} {ccd : Value} {cl : List (Str × Addr)} {outer : List Env} {A₀ : Around} {base h₀ : Heap} {m : Str → Option Value} {news : List (Addr × Obj)} {s : Shared} {Q E : Value → Shared → Prop} {x dx : Addr} {us mu : Int} {ut : Str} {mo' : Bool} {t : Tok} {k1 k2 k3 v1 v2 v3 : Tok},
  Below A₀ base outer h₀ → Fr h₀ L s.heap m → (hd.heap_39 w.params).In h₀ → News h₀ L s.heap news → Top hd.view_39 loose mean mg mb h₀ → dp + 128 < recursionLimit → un + 1280 < cLine → UnitOf ut mu → (x, instObj 46 dx) ∈ news → (dx, tdObj w.params us k1 k2 k3 v1 v2 v3) ∈ news → -100000000000000000 < us → us < 100000000000000000 → 
  (∀ t h' tk', Fr h₀ L h' m → News h₀ L h' news → Q (.str (ndText us.natAbs mo' mu) t) {s with heap := h', toks := tk'}) →
  wpAny (model Challenge.rw_ez0122_01.row.prog w) (ktrTop dp un gd cn ⟨.function, nms, ig, ic, mo⟩ L a ccd cl outer) (call (.ref 328) [.ref x, .bool mo', .str ut t]) Q E s := (by
  w_on
  k_with_none
  k_fill
  intro w loose mean mg mb dp un gd cn nms ig ic mo L a ccd cl outer A₀ base h₀ m news s Q E x dx us mu ut mo' t k1 k2 k3 v1 v2 v3 B F X N T hdp hun hU hx hdx hu0 hu1 hret
  have hmu0 := hU.lo
  have hmu2 := hU.hi
  w_strict (walk1; ((rename Fr _ _ _ (fun y => List.lookup y _) => F9); replace F9 := fr_args F9 (l' := [(Str.ofString "minimum_unit", .str ut t), (Str.ofString "months", .bool mo'), (Str.ofString "value", .ref x)]) (by kernel_rfl)); k_steps; all_goals ((try (rename (_ = rnd _ _) => re9; subst re9)); (try (rename (_ = rnd _ _) => re9; subst re9)); (try dsimp only); refine' ret_nd (Q := Q) hret ?e ?F ?N; (case F => k_asm); (case N => (first | (with_reducible assumption) | (rename News _ _ _ _ => kN9; first | exact drop1 (drop2 kN9) | exact drop1 (drop2 (drop2 kN9)) | exact drop2 kN9 | exact drop1 kN9))); (case e => ((try dsimp only); unfold ndText ndT; (repeat (first | (with_reducible refine eq_pos (by first | (with_reducible assumption) | exact And.intro (by with_reducible assumption) (by with_reducible assumption) | exact Or.inl (by with_reducible assumption) | exact Or.inr (by with_reducible assumption) | omega) ?_) | (with_reducible refine eq_neg (by first | (with_reducible assumption) | exact no_or (by with_reducible assumption) (by with_reducible assumption) | omega) ?_))); first | (with_reducible rfl) | (unfold numS; with_reducible rfl) | (unfold yrS; with_reducible rfl))))))
set_option maxRecDepth 100000 in
set_option maxHeartbeats 8000000 in
theorem nd_int : ∀ {w : World} {loose : List Str} {mean : ExcName → Option Value} {mg mb : Str → Option Value} {dp un : Nat} {gd : Option (List Code)} {cn : Str} {nms : List (Str × NameKind)} {ig ic : Bool} {mo : List (Str × Const)} {L a : Addr} {ccd : Value} {cl : List (Str × Addr)} {outer : List Env} {A₀ : Around} {base h₀ : Heap} {m : Str → Option Value} {news : List (Addr × Obj)} {s : Shared} {Q E : Value → Shared → Prop} {v mu : Int} {ut : Str} {mo' : Bool} {t tv : Tok},
  Below A₀ base outer h₀ → Fr h₀ L s.heap m → (hd.heap_39 w.params).In h₀ → News h₀ L s.heap news → Top hd.view_39 loose mean mg mb h₀ → dp + 128 < recursionLimit → un + 1280 < cLine → UnitOf ut mu → -100000000000 < v → v < 100000000000 → 
  (∀ t h' tk', Fr h₀ L h' m → News h₀ L h' news → Q (.str (ndText (v * 1000000).natAbs mo' mu) t) {s with heap := h', toks := tk'}) →
  wpAny (model Challenge.rw_ez0122_01.row.prog w) (ktrTop dp un gd cn ⟨.function, nms, ig, ic, mo⟩ L a ccd cl outer) (call (.ref 328) [.int v tv, .bool mo', .str ut t]) Q E s := (by
  w_on
  k_with_none
  k_fill
  intro w loose mean mg mb dp un gd cn nms ig ic mo L a ccd cl outer A₀ base h₀ m news s Q E v mu ut mo' t tv B F X N T hdp hun hU hu0 hu1 hret
  have hmu0 := hU.lo
  have hmu2 := hU.hi
  w_strict (walk1; ((rename Fr _ _ _ (fun y => List.lookup y _) => F9); replace F9 := fr_args F9 (l' := [(Str.ofString "minimum_unit", .str ut t), (Str.ofString "months", .bool mo'), (Str.ofString "value", .int v tv)]) (by kernel_rfl)); k_steps; all_goals ((try (rename (_ = rnd _ _) => re9; subst re9)); (try (rename (_ = rnd _ _) => re9; subst re9)); (try dsimp only); refine' ret_nd (Q := Q) hret ?e ?F ?N; (case F => k_asm); (case N => (first | (with_reducible assumption) | (rename News _ _ _ _ => kN9; first | exact drop1 (drop2 kN9) | exact drop1 (drop2 (drop2 kN9)) | exact drop2 kN9 | exact drop1 kN9))); (case e => ((try dsimp only); unfold ndText ndT; (repeat (first | (with_reducible refine eq_pos (by first | (with_reducible assumption) | exact And.intro (by with_reducible assumption) (by with_reducible assumption) | exact Or.inl (by with_reducible assumption) | exact Or.inr (by with_reducible assumption) | omega) ?_) | (with_reducible refine eq_neg (by first | (with_reducible assumption) | exact no_or (by with_reducible assumption) (by with_reducible assumption) | omega) ?_))); first | (with_reducible rfl) | (unfold numS; with_reducible rfl) | (unfold yrS; with_reducible rfl))))))
theorem fills_none {K : Frag} {M : Model} {D : Addr} {h : Heap} {nm : String} {cd : ClassData} (X : K.In h) (hc : clsIn K D = some cd) (hm : cd.mro = [.ref D, .type "object"])
    (h1 : findIn K (.ref D) (PySem.dunder nm) = some none) (h2 : findIn K (.ref D) (dunderR nm) = some none) (h3 : findIn K (.type "object") (PySem.dunder nm) = some none) (h4 : findIn K (.type "object") (dunderR nm) = some none) :
    Looks M h (fillsNumberSlot (.ref D) nm) false := by
  intro A Q E s k q
  have T4 := ksp_fillsT (M := M) X h3 h4 A Q E s k q
  unfold fillsNumberSlot
  refine wpAny_bind ((looks_clsIn X hc).andThen (f := fun cd => pure cd.mro) .now A _ E s k ?_)
  rw [hm, List.anyM_cons]
  refine wpAny_bind ?_
  show wpAny M A (List.anyM _ [PySem.dunder nm, dunderR nm]) _ _ _
  rw [List.anyM_cons]
  refine wpAny_bind (wpAny_bind (looks_findIn X h1 A _ E s k ?_))
  refine wpAny_pure ?_
  rw [if_neg Bool.false_ne_true, List.anyM_cons]
  refine wpAny_bind (wpAny_bind (looks_findIn X h2 A _ E s k ?_))
  refine wpAny_pure ?_
  rw [if_neg Bool.false_ne_true]
  refine wpAny_pure ?_
  rw [if_neg Bool.false_ne_true, List.anyM_cons]
  refine wpAny_bind ?_
  refine wpAny_bind (looks_findIn X h3 A _ E s k ?_)
  refine wpAny_bind (looks_findIn X h4 A _ E s k ?_)
  refine wpAny_pure ?_
  show wpAny M A (if false = true then _ else _) _ _ _
  rw [if_neg Bool.false_ne_true]
  exact wpAny_pure q
theorem binop_K2 {prog : Program} {w : World} {A : Around} {E : Value → Shared → Prop} {s : Shared} {K : Frag} {x C D L f : Addr} {h₀ : Heap} {m : Str → Option Value} {ox : Obj} {od : Option Obj} {cd : ClassData} {op : Operator} {b : Value} {Q : Value → Shared → Prop}
    (F : Fr h₀ L s.heap m) (X₀ : K.In h₀) (I : InstAt s.heap x ox C od) (hb : Looks (model prog w) s.heap (typeOf b) (.ref D)) (hne : C ≠ D) (hc : selfFirst K C = true)
    (hs : findIn K (.ref C) (PySem.dunder op.info.2) = some (some (.ref f))) (hf : isFn K (.ref f) = true)
    (hcD : clsIn K D = some cd) (hmD : cd.mro = [.ref D, .type "object"])
    (h1 : findIn K (.ref D) (PySem.dunder op.info.2) = some none) (h2 : findIn K (.ref D) (dunderR op.info.2) = some none) (h3 : findIn K (.type "object") (PySem.dunder op.info.2) = some none) (h4 : findIn K (.type "object") (dunderR op.info.2) = some none)
    (h : wpAny (model prog w) A (call (.ref f) [.ref x, b]) (W.CmpBack Q) E s) : wpAny (model prog w) A (binaryOp op (.ref x) b) Q E s := by
  have X := X₀.keeps F.keep
  obtain ⟨cdC, rest, hcd, hm⟩ := ksp_first hc
  rcases hi : op.info with ⟨sym, nm'⟩
  rw [hi] at hs h1 h2 h3 h4
  dsimp only at hs h1 h2 h3 h4
  have one := ksp_try X I hs hf h
  obtain ⟨hh, g, d, tt, os⟩ := s
  have L1 : Looks (model prog w) hh (typeOf (.ref x)) (.ref C) := I.type
  have L2 : Looks (model prog w) hh (typeOf b) (.ref D) := hb
  have L3 : Looks (model prog w) hh (fillsNumberSlot (.ref C) nm') true := fills_K X hcd hm hs
  have L4 : Looks (model prog w) hh (fillsNumberSlot (.ref D) nm') false := fills_none X hcD hmD h1 h2 h3 h4
  have hne' : (Value.ref C == Value.ref D) = false := Bool.eq_false_iff.mpr fun q => by
    have := beq_iff_eq.mp q
    injection this with e
    exact hne e
  simp only [binaryOp, hi]
  refine wpAny_holding (wpAny_bind ?_)
  unfold binaryOp1
  refine wpAny_bind (L1.at (wpAny_bind (L2.at (wpAny_bind (L3.at ?_)))))
  simp only [hne', Bool.false_eq_true, if_false]
  ksp_lk
  refine wpAny_mono one (fun r s' hr' => ?_) fun _ _ e => e
  obtain ⟨v, rfl, hq⟩ := hr'
  ksp_lk
  exact hq
theorem grp_len {tx : Str} (hT : tx.length ≤ 4) : (grp tx).length ≤ 1000 := by
  have hP : (Txt.partition tx (Str.ofString ".")).1.length ≤ 4 := Nat.le_trans (fact_partition tx (Str.ofString ".")).1 hT
  have hP2 : (Txt.partition tx (Str.ofString ".")).2.1.length ≤ 4 := Nat.le_trans (fact_partition tx (Str.ofString ".")).2.1 hT
  have hP3 : (Txt.partition tx (Str.ofString ".")).2.2.length ≤ 4 := Nat.le_trans (fact_partition tx (Str.ofString ".")).2.2 hT
  have app : ∀ {x y : Str} {i j : Nat}, x.length ≤ i → y.length ≤ j → (x ++ y).length ≤ i + j := fun h h' => by rw [Str.length_append]; omega
  unfold grp
  split
  · split
    · exact Nat.le_trans (app (app (app (lit12 12 (by decide +kernel)) (jn2 (sl4 (sl4 hP)) (sl4 (sl4 hP)))) hP2) hP3) (by decide)
    · exact Nat.le_trans (app (app (app (lit12 12 (by decide +kernel)) (jn1 (sl4 hP))) hP2) hP3) (by decide)
  · split
    · exact Nat.le_trans (app (app (app (lit12 12 (by decide +kernel)) (jn2 (sl4 (sl4 hP)) (sl4 (sl4 hP)))) hP2) hP3) (by decide)
    · exact Nat.le_trans (app (app (app (lit12 12 (by decide +kernel)) (jn1 (sl4 hP))) hP2) hP3) (by decide)
theorem icT_len {n : Int} (h0 : 0 ≤ n) (h1 : n < 10000) : (icT n).length ≤ 1000 := grp_len (toString_length_le h0 (by decide) (by omega))
theorem ite_len {c : Prop} [Decidable c] {a b : Str} {k : Nat} (h : a.length ≤ k) (h' : b.length ≤ k) : (if c then a else b).length ≤ k := by split <;> assumption
theorem yr_len {n : Int} (h0 : 0 ≤ n) (h1 : n < 10000) : (icT n ++ Str.ofString " years").length ≤ 1100 := by
  have h8 : (Str.ofString " years").length ≤ 20 := of_decide_eq_true (by decide +kernel)
  rw [Str.length_append]
  exact Nat.le_trans (Nat.add_le_add (icT_len h0 h1) h8) (by decide)
set_option maxHeartbeats 1000000 in
theorem ndT_len {D S U mu : Int} {mo : Bool} (hD : 0 ≤ D) (hD' : D < 3000000) (hS : 0 ≤ S) (hS' : S < 86400) (hU : 0 ≤ U) (hU' : U < 1000000) : (ndT D S U mo mu).length ≤ 1100 := by
  have r1 := rnd_lo S 60
  have r2 := rnd_hi S 60
  have r3 := rnd_lo S 3600
  have r4 := rnd_hi S 3600
  have r5 := rnd_lo (2 * (D % 365)) 61
  have r6 := rnd_hi (2 * (D % 365)) 61
  have r7 := rnd_lo D 365
  have r8 := rnd_hi D 365
  unfold ndT
  (repeat' (with_reducible refine ite_len ?_ ?_)) <;> first
    | (with_reducible refine lit_len ?_; decide +kernel)
    | (with_reducible refine numS_len ?_ ?_ ?_ <;> first | omega | decide +kernel)
    | (with_reducible refine yrS_len ?_ ?_ ?_ <;> first | omega | decide +kernel)
    | exact yr_len (by omega) (by omega)
theorem ndText_len {n mu : Int} {mo : Bool} (h0 : 0 ≤ n) (h1 : n < 200000000000000000) : (ndText n mo mu).length ≤ 1000000 :=
  by
  unfold ndText
  exact Nat.le_trans (ndT_len (by omega) (by omega) (by omega) (by omega) (by omega) (by omega)) (by decide)
def ntText (n : Int) (fut mo : Bool) (mu : Int) : Str := if ndText n mo mu = Str.ofString "a moment" then Str.ofString "now" else ndText n mo mu ++ (if fut = true then Str.ofString " from now" else Str.ofString " ago")
theorem nt_now {n n' mu : Int} {fut mo : Bool} (h : (ndText n' mo mu == Str.ofString "a moment") = true) (e : n' = n) : Str.ofString "now" = ntText n fut mo mu := by
  subst e; unfold ntText; rw [if_pos (by simpa using h)]
theorem nt_from {n n' mu : Int} {fut mo : Bool} (e : n' = n) (h : (ndText n' mo mu == Str.ofString "a moment") = false) (hf : fut = true) : ndText n' mo mu ++ Str.ofString " from now" = ntText n fut mo mu := by
  subst e; unfold ntText; rw [if_neg (by simpa using h), if_pos hf]
theorem nt_ago {n n' mu : Int} {fut mo : Bool} (e : n' = n) (h : (ndText n' mo mu == Str.ofString "a moment") = false) (hf : fut = false) : ndText n' mo mu ++ Str.ofString " ago" = ntText n fut mo mu := by
  subst e; unfold ntText; rw [if_neg (by simpa using h), if_neg (by rw [hf]; exact Bool.false_ne_true)]
section
variable {prog : Program} {w : World} {A : Around} {E : Value → Shared → Prop} {s : Shared} {h₀ : Heap} {L : Addr} {m : Str → Option Value} {news : List (Addr × Obj)}
def KOne (h₀ : Heap) (L : Addr) (m : Str → Option Value) (news : List (Addr × Obj)) (s : Shared) (x : Str) (Q' : Value → Shared → Prop) : Prop :=
  ∀ t h tk, Fr h₀ L h m → News h₀ L h news → Q' (.str x t) { s with heap := h, toks := tk }
theorem KOne.go {Q' : Value → Shared → Prop} {x : Str} {t : Tok} {h : Heap} {tk : Nat} (K : KOne h₀ L m news s x Q') (F : Fr h₀ L h m) (N : News h₀ L h news) : Q' (.str x t) { s with heap := h, toks := tk } := K t h tk F N
theorem ite_two {c : Prop} {ic : Decidable c} {T1 T2 : Sem Value} {Q : Value → Shared → Prop} (x1 x2 : Str) (_F : Fr h₀ L s.heap m) (_N : News h₀ L s.heap news)
    (h1 : ∀ Q', KOne h₀ L m news s x1 Q' → wpAny (model prog w) A T1 Q' E s) (h2 : ∀ Q', KOne h₀ L m news s x2 Q' → wpAny (model prog w) A T2 Q' E s)
    (h : ∀ t h tk, Fr h₀ L h m → News h₀ L h news → Q (.str (if c then x1 else x2) t) { s with heap := h, toks := tk }) : if c then wpAny (model prog w) A T1 Q E s else wpAny (model prog w) A T2 Q E s := by
  split
  · next hc => exact h1 Q fun t h' tk F N => by have := h t h' tk F N; rw [if_pos hc] at this; exact this
  · next hc => exact h2 Q fun t h' tk F N => by have := h t h' tk F N; rw [if_neg hc] at this; exact this
end
theorem fms12 {prog : Program} {w : World} {A : Around} {E : Value → Shared → Prop} {s : Shared} {n : Str} {t u : Tok} {c : Prop} {ic : Decidable c} {Q : Value → Shared → Prop} (hn0 : n.length ≤ 1000000)
    (h : ∀ t' k, Q (.str (n ++ (if c then Str.ofString " from now" else Str.ofString " ago")) t') { s with toks := k }) : wpAny (model prog w) A (binaryOp .Mod (.str (if c then Str.ofString "%s from now" else Str.ofString "%s ago") t) (.str n u)) Q E s := by
  by_cases hc : c
  · rw [if_pos hc]
    exact fms2 hn0 fun t' k => by have := h t' k; rw [if_pos hc] at this; exact this
  · rw [if_neg hc]
    exact fms1 hn0 fun t' k => by have := h t' k; rw [if_neg hc] at this; exact this
theorem nt_both {n n' mu : Int} {fut mo : Bool} {c : Prop} {ic : Decidable c} (e : n' = n) (h : (ndText n' mo mu == Str.ofString "a moment") = false) (hf : fut = true ↔ c) : ndText n' mo mu ++ (if c then Str.ofString " from now" else Str.ofString " ago") = ntText n fut mo mu := by
  by_cases hc : c
  · rw [if_pos hc]; exact nt_from e h (hf.2 hc)
  · rw [if_neg hc]; exact nt_ago e h (Bool.eq_false_iff.2 fun q => hc (hf.1 q))
theorem tr_lookup_none : typeLookup (.type "NoneType") (PySem.dunder "add") = pure none := by rw [typeLookup_type, builtinLookup_eq_fast]; kernel_rfl
theorem tr_lookupR_none : typeLookup (.type "NoneType") (dunderR "add") = pure none := by rw [typeLookup_type, builtinLookup_eq_fast]; kernel_rfl
theorem noFill_none_add : fillsNumberSlot (.type "NoneType") "add" = pure false := by
  simp only [fillsNumberSlot, tr_lookup_none, tr_lookupR_none, pure_bind]
  rfl
section
variable {prog : Program} {w : World} {A : Around} {E : Value → Shared → Prop} {s : Shared}
theorem add_int_bad {a : Int} {t : Tok} {b : Value} {U : String} {Q : Value → Shared → Prop} (hTU : "int" ≠ U) (hb : s.TypeIs b U) (hfU : fillsNumberSlot (.type U) "add" = pure false) (hnb : (Value.type U == Value.type "builtin_function_or_method") = false) (hU : (shownName U).length ≤ 1000)
    (hc : ∀ Q' : Value → Shared → Prop, Q' .notImplemented s → wpAny (model prog w) A (call (.builtin "int.__add__") [.int a t, b]) Q' E s) (hh : A.handled = none)
    (h : ∀ h' tk e, Heap.NewExc s.heap h' e "TypeError" → E (.ref e) { s with heap := h', toks := tk }) : wpAny (model prog w) A (binaryOp .Add (.int a t) b) Q E s := by
  have hne : (Value.type "int" == Value.type U) = false := by simpa using hTU
  have h1 : ∀ Q' : Option Value → Shared → Prop, Q' none s → wpAny (model prog w) A (binaryOp1 "add" (.int a t) b) Q' E s := by
    intro Q' hq
    simp only [binaryOp1]
    refine wpAny_bind (wpAny_typeOf (PySem.typeIs_int s a t) (wpAny_bind (wpAny_typeOf hb (wpAny_bind (wpAny_of_eq PySem.F.fills_int_add ?_)))))
    simp only [hne, Bool.false_eq_true, if_false]
    refine wpAny_bind (wpAny_of_eq hfU ?_)
    simp only [Bool.and_false, Bool.false_and, Bool.false_eq_true, if_false, pure_bind, if_true]
    exact wpAny_bind (wpAny_tryMethod_declines (PySem.typeIs_int s a t) PySem.F.slot_int_add (hc _ ⟨rfl, wpAny_pure hq⟩))
  unfold binaryOp
  refine wpAny_holding ?_
  show wpAny _ _ (binaryOp1 "add" (.int a t) b >>= _) _ _ _
  refine wpAny_bind (h1 _ ?_)
  refine wpAny_bind (wpAny_typeOf (PySem.typeIs_int s a t) ?_)
  refine wpAny_bind (wpAny_of_eq (lm_seqSlot_no (T := "int") (name := "__add__") (id := "int.__add__") PySem.F.slot_int_add.lookup (by decide +kernel)) ?_)
  unfold binopTypeError
  refine wpAny_bind (wpAny_rule (wpAny_bind (wpAny_typeNameOf' (PySem.typeIs_int s a t) (by decide) (wpAny_bind (wpAny_typeNameOf' hb hnb (wpAny_raiseTypeError hh h ?_))))))
  show (Str.ofString _).length ≤ sizeLine
  rw [PySem.ofString_length, sizeLine_eq]
  simp only [String.length_append, toString]
  have e0 : (shownName "int").length ≤ 1000 := by decide
  have e1 : "'".length ≤ 100 := by decide
  have e2 : "+".length ≤ 100 := by decide
  have e3 : "unsupported operand type(s) for ".length ≤ 100 := by decide
  have e4 : "' and '".length ≤ 100 := by decide
  have e5 : ": '".length ≤ 100 := by decide
  omega
theorem add_int_str {a : Int} {t u : Tok} {x : Str} {Q : Value → Shared → Prop} (hh : A.handled = none) (h : ∀ h' tk e, Heap.NewExc s.heap h' e "TypeError" → E (.ref e) { s with heap := h', toks := tk }) : wpAny (model prog w) A (binaryOp .Add (.int a t) (.str x u)) Q E s :=
  add_int_bad (U := "str") (by decide) (PySem.typeIs_str s x u) PySem.noFill_str_add (by decide) (by decide) (fun _ hq => call_gives PySem.F.slot_int_add (PySem.typeIs_int s a t) PySem.F.entry_int_add (PySem.F.args_int_add_2 _ _) (AutoIntG6.int___add___int_str_0 a t x u) hq) hh h
theorem add_int_none {a : Int} {t : Tok} {Q : Value → Shared → Prop} (hh : A.handled = none) (h : ∀ h' tk e, Heap.NewExc s.heap h' e "TypeError" → E (.ref e) { s with heap := h', toks := tk }) : wpAny (model prog w) A (binaryOp .Add (.int a t) .none) Q E s :=
  add_int_bad (U := "NoneType") (by decide) (PySem.typeIs_none s) noFill_none_add (by decide) (by decide) (fun _ hq => call_gives PySem.F.slot_int_add (PySem.typeIs_int s a t) PySem.F.entry_int_add (PySem.F.args_int_add_2 _ _) (AutoIntG5.int___add___int_none_0 a t) hq) hh h
theorem int_add_seq {a : Int} {t : Tok} {x : Addr} {o : Obj} {items : Array Value} {n : Nat} (ho : s.heap.get? x = some o) (hd : o.data = .seq items n) {Q' : Value → Shared → Prop} (hq : Q' .notImplemented s) : wpAny (model prog w) A (call (.builtin "int.__add__") [.int a t, .ref x]) Q' E s := by
  refine wpAny_call_entry PySem.F.slot_int_add (PySem.typeIs_int s a t) PySem.F.entry_int_add ?_ (PySem.F.args_int_add_2 _ _)
  show wpAny _ _ (do
    let r ← (do match (← load x).data with
      | .prim (.int i _) => pure (some i)
      | _ => pure none : Sem (Option Int))
    let some y := r | rule "int.binary.not-an-int"; ret .notImplemented
    retInt (a + y)) _ _ s
  refine wpAny_bind (wpAny_bind (wpAny_load ho ?_))
  rw [hd]
  exact wpAny_pure (wpAny_bind (wpAny_rule (wpAny_pure ⟨_, rfl, hq⟩)))
theorem add_int_list {a : Int} {t : Tok} {x : Addr} {items : Array Value} {n : Nat} {Q : Value → Shared → Prop} (ho : s.heap.get? x = some (W.listOf items n)) (hh : A.handled = none) (h : ∀ h' tk e, Heap.NewExc s.heap h' e "TypeError" → E (.ref e) { s with heap := h', toks := tk }) : wpAny (model prog w) A (binaryOp .Add (.int a t) (.ref x)) Q E s :=
  add_int_bad (U := "list") (by decide) ⟨_, ho, rfl⟩ PySem.noFill_list_add (by decide) (by decide) (fun _ hq => int_add_seq ho rfl hq) hh h
theorem add_int_tup {a : Int} {t : Tok} {x : Addr} {items : Array Value} {Q : Value → Shared → Prop} (ho : s.heap.get? x = some { cls := .type "tuple", data := .seq items }) (hh : A.handled = none) (h : ∀ h' tk e, Heap.NewExc s.heap h' e "TypeError" → E (.ref e) { s with heap := h', toks := tk }) : wpAny (model prog w) A (binaryOp .Add (.int a t) (.ref x)) Q E s :=
  add_int_bad (U := "tuple") (by decide) ⟨_, ho, rfl⟩ PySem.noFill_tuple_add (by decide) (by decide) (fun _ hq => int_add_seq ho rfl hq) hh h
end
theorem news_get {h₀ h : Heap} {L : Addr} {news : List (Addr × Obj)} {x : Addr} {o : Obj} (N : News h₀ L h news) (hm : (x, o) ∈ news) : h.get? x = some o := (N _ hm).1
section
variable {prog : Program} {w : World} {A : Around} {E : Value → Shared → Prop} {s : Shared} {h₀ : Heap} {L : Addr} {m : Str → Option Value} {news : List (Addr × Obj)}
theorem str_l3 {x : Addr} {t : Tok} {Q : Value → Shared → Prop} (F : Fr h₀ L s.heap m) (N : News h₀ L s.heap news) (hm : (x, W.listOf #[.int 3 t] 0) ∈ news) (hg : A.guards = some []) (hu : A.units + 5 < cLine)
    (h : ∀ h' u tk, Fr h₀ L h' m → News h₀ L h' news → Q (.str (Str.ofString "[3]") u) { s with heap := h', toks := tk }) : wpAny (model prog w) A (call (.type "str") [.ref x]) Q E s :=
  str_via (d := .list [.int 3]) (ReadsVia.list (vs := [.int 3 t]) hm (.cons (.int 3 t) .nil)) F N (by decide +kernel) (by decide +kernel) rfl hg (Nat.lt_of_le_of_lt (Nat.add_le_add_left (show PyData.depth (.list [.int 3]) + 3 ≤ 5 by decide +kernel) _) hu)
    (fun h' u tk F' N' => by
      have e : PyData.shown (.list [.int 3]) = Str.ofString "[3]" := by decide +kernel
      rw [e]; exact h h' u tk F' N') (by decide +kernel)
theorem str_t12 {x : Addr} {t t2 : Tok} {Q : Value → Shared → Prop} (F : Fr h₀ L s.heap m) (N : News h₀ L s.heap news) (hm : (x, ({ cls := .type "tuple", data := .seq #[.int 1 t, .int 2 t2] } : Obj)) ∈ news) (hg : A.guards = some []) (hu : A.units + 5 < cLine)
    (h : ∀ h' u tk, Fr h₀ L h' m → News h₀ L h' news → Q (.str (Str.ofString "(1, 2)") u) { s with heap := h', toks := tk }) : wpAny (model prog w) A (call (.type "str") [.ref x]) Q E s :=
  str_via (d := .tuple [.int 1, .int 2]) (ReadsVia.tuple (vs := [.int 1 t, .int 2 t2]) hm (.cons (.int 1 t) (.cons (.int 2 t2) .nil))) F N (by decide +kernel) (by decide +kernel) rfl hg (Nat.lt_of_le_of_lt (Nat.add_le_add_left (show PyData.depth (.tuple [.int 1, .int 2]) + 3 ≤ 5 by decide +kernel) _) hu)
    (fun h' u tk F' N' => by
      have e : PyData.shown (.tuple [.int 1, .int 2]) = Str.ofString "(1, 2)" := by decide +kernel
      rw [e]; exact h h' u tk F' N') (by decide +kernel)
end
theorem topItem_miss {prog : Program} {w : World} {A : Around} {E : Value → Shared → Prop} {s : Shared} {h₀ : Heap} {L a : Addr} {m : Str → Option Value} {K : Frag} {es : Array DictEntry} {n : Nat} {x : Str} {t : Tok} {value slice : PySem.Expr} {Q : Value → Shared → Prop}
    (F : Fr h₀ L s.heap m) (X₀ : K.In h₀) (hl : K.lookup a = some ⟨.type "dict", none, .dict es n, #[]⟩) (hk : KeysLit w.params es.toList) (e : nsIn K a x = some none) (hd : (a == sysModules) = false) (hh : A.handled = none)
    (h : ∀ h' e, Heap.NewExc s.heap h' e "KeyError" → E (.ref e) { s with heap := h', toks := s.toks + 1 })
    (hs : subscripted slice false (.ref a) (.str x t) = operate [.ref a, .str x t] (getItem (.ref a) (.str x t)) := by with_unfolding_all rfl) :
    wpAny (model prog w) A (subscriptTail value slice (.ref a) (.str x t)) Q E s :=
  have hm := mapOf_K (prog := prog) (X₀.keeps F.keep) hl hk
  tail_any hm.typeIs slot_dict_getitem.lookup (wpAny_getItem_missing_of (strKind_is prog w x t) hd hh hm (find_K hl e) h) hs
theorem RaisedN.nil {base h : Heap} {l : List Env} {e : Addr} {cls : Value} {news : List (Addr × Obj)} (R : RaisedN base l e cls news h) : RaisedN base l e cls [] h := by
  obtain ⟨B, a0, hB, _, hfl⟩ := R
  exact ⟨B, a0, hB, (fun _ hq => nomatch hq), hfl⟩
section
variable {prog : Program} {w : World} {A : Around} {E : Value → Shared → Prop} {s : Shared} {h₀ : Heap} {L : Addr} {m : Str → Option Value} {news : List (Addr × Obj)}
def KAny (h₀ : Heap) (L : Addr) (m : Str → Option Value) (news : List (Addr × Obj)) (s : Shared) (Q' : Value → Shared → Prop) : Prop :=
  ∀ x t h tk, Fr h₀ L h m → News h₀ L h news → Q' (.str x t) { s with heap := h, toks := tk }
theorem KAny.go {Q' : Value → Shared → Prop} {x : Str} {t : Tok} {h : Heap} {tk : Nat} (K : KAny h₀ L m news s Q') (F : Fr h₀ L h m) (N : News h₀ L h news) : Q' (.str x t) { s with heap := h, toks := tk } := K x t h tk F N
theorem ite_any {c : Prop} {ic : Decidable c} {T1 T2 : Sem Value} {Q : Value → Shared → Prop} (_F : Fr h₀ L s.heap m) (_N : News h₀ L s.heap news)
    (h1 : ∀ Q', KAny h₀ L m news s Q' → wpAny (model prog w) A T1 Q' E s) (h2 : ∀ Q', KAny h₀ L m news s Q' → wpAny (model prog w) A T2 Q' E s)
    (h : ∀ x t h tk, Fr h₀ L h m → News h₀ L h news → Q (.str x t) { s with heap := h, toks := tk }) : if c then wpAny (model prog w) A T1 Q E s else wpAny (model prog w) A T2 Q E s := by
  split
  · exact h1 Q h
  · exact h2 Q h
end
local macro_rules | `(tactic| walk_at "call ref") => `(tactic| (k_here; (with_reducible show wpAny _ _ (call (Value.ref 328) _ _) _ _ _); k_dflt (show wpAny _ _ (call (Value.ref 328) [Value.ref _, Value.bool _, Value.str _ _]) _ _ _); k_dflt (refine' nd_td ?k1 ?k2 ?k3 ?k4 ?k5 ?kd ?ku ?p0 ?p1 ?p2 ?p3 ?p4 ?_; (case k1 => k_asm); (case k2 => k_asm); (case k3 => k_asm); (case k4 => k_asm); (case k5 => k_asm); (case p0 => first | (with_reducible assumption) | with_reducible exact unit_s); (case p1 => k_mem); (case p2 => k_mem); (case p3 => first | omega | assumption); (case p4 => first | omega | assumption); (case kd => k_room); (case ku => ktr_units); k_whole); intro t' h' tk' F' N'; (try k_sweep); (try dsimp only); (try k_fold)))
local macro_rules | `(tactic| walk_at "call ref") => `(tactic| (k_here; (with_reducible show wpAny _ _ (call (Value.ref 328) _ _) _ _ _); k_dflt (show wpAny _ _ (call (Value.ref 328) [Value.int _ _, Value.bool _, Value.str _ _]) _ _ _); k_dflt (refine' nd_int ?k1 ?k2 ?k3 ?k4 ?k5 ?kd ?ku ?p0 ?p1 ?p2 ?_; (case k1 => k_asm); (case k2 => k_asm); (case k3 => k_asm); (case k4 => k_asm); (case k5 => k_asm); (case p0 => first | (with_reducible assumption) | with_reducible exact unit_s); (case p1 => first | omega | assumption); (case p2 => first | omega | assumption); (case kd => k_room); (case ku => ktr_units); k_whole); intro t' h' tk' F' N'; (try k_sweep); (try dsimp only); (try k_fold)))
local macro_rules | `(tactic| walk_at "binaryOp Sub ref ref") => `(tactic| (k_here; (with_reducible show wpAny _ _ (binaryOp Operator.Sub (Value.ref _) (Value.ref _)) _ _ _); k_dflt (refine' binop_K2 ?F ?X ?I ?hb ?hne ?hc ?hs ?hf ?hcD ?hmD ?h1 ?h2 ?h3 ?h4 ?_; (case F => k_asm); (case X => k_asm); (case I => k_inst); (case hb => k_typeOf); (case hne => decide); (case hc => k_is); (case hs => k_is); (case hf => k_is); (case hcD => exact rfl); (case hmD => exact rfl); (case h1 => k_is); (case h2 => k_is); (case h3 => k_is); (case h4 => k_is); k_whole)))
local macro_rules | `(tactic| k_units) => `(tactic| first | ktr_units | omega)
local macro_rules | `(tactic| walk_at "binaryOp Mod str str") => `(tactic| ((first | (with_reducible refine fms1 ?fa ?_) | (with_reducible refine fms2 ?fa ?_)); (case fa => exact ndText_len (by omega) (by omega)); intro _ _))
local macro_rules | `(tactic| walk_at "call type:str") => `(tactic| (with_reducible refine P.str_of_str ?_))
set_option maxRecDepth 100000 in
set_option maxHeartbeats 8000000 in
theorem dd_td : ∀ {w : World} {loose : List Str} {mean : ExcName → Option Value} {mg mb : Str → Option Value} {dp un : Nat} {gd : Option (List Code)} {cn : Str} {nms : List (Str × NameKind)} {ig ic : Bool} {mo : List (Str × Const)} {L a : Addr} {ccd : Value} {cl : List (Str × Addr)} {outer : List Env} {A₀ : Around} {base h₀ : Heap} {m : Str → Option Value} {news : List (Addr × Obj)} {s : Shared} {Q E : Value → Shared → Prop} {x dx : Addr} {us : Int} {k1 k2 k3 v1 v2 v3 : Tok} {y dy : Addr} {wh : Int} {k4 v4 : Tok},
  Below A₀ base outer h₀ → Fr h₀ L s.heap m → (hd.heap_39 w.params).In h₀ → News h₀ L s.heap news → Top hd.view_39 loose mean mg mb h₀ → dp + 200 < recursionLimit → un + 2000 < cLine → (x, instObj 46 dx) ∈ news → (dx, tdObj w.params us k1 k2 k3 v1 v2 v3) ∈ news → (y, instObj 81 dy) ∈ news → (dy, dtObj w.params wh k4 v4) ∈ news → 0 ≤ wh → wh < 315537897600000000 → -100000000000000000 < us → us < 100000000000000000 → 0 ≤ wh - us → wh - us < 315537897600000000 → 
  (∀ D p dp q dq b0 c0 b1 b2 b3 c1 c2 c3 h' tk', Fr h₀ L h' m → News h₀ L h' ((D, { cls := .type "tuple", data := .seq #[.ref p, .ref q] }) :: (q, instObj 46 dq) :: (dq, tdObj w.params (us.natAbs : Int) b1 b2 b3 c1 c2 c3) :: (p, instObj 81 dp) :: (dp, dtObj w.params (wh - us) b0 c0) :: news) → Q (.ref D) {s with heap := h', toks := tk'}) →
  wpAny (model Challenge.rw_ez0122_01.row.prog w) (ktrTop dp un gd cn ⟨.function, nms, ig, ic, mo⟩ L a ccd cl outer) (call (.ref 320) [.ref x] [(Str.ofString "now", .ref y)]) Q E s := (by
  w_on
  k_with_none
  k_fill
  intro w loose mean mg mb dp un gd cn nms ig ic mo L a ccd cl outer A₀ base h₀ m news s Q E x dx us k1 k2 k3 v1 v2 v3 y dy wh k4 v4 B F X N T hdp hun  hx hdx hy hdy hw0 hw1 hu0 hu1 hd0 hd1 hret
  w_strict (walk1; ((rename Fr _ _ _ (fun y => List.lookup y _) => F9); replace F9 := fr_args F9 (l' := [(Str.ofString "precise", .bool false), (Str.ofString "now", .ref y), (Str.ofString "value", .ref x)]) (by kernel_rfl)); k_steps; all_goals ((rename News _ _ _ _ => kN9); refine' hret _ _ _ _ _ _ _ _ _ _ _ _ _ _ _ ?F ?N; (case F => k_asm); (case N => first | (with_reducible exact kN9) | exact cb_drop kN9 (by kcj_all)))))
set_option maxRecDepth 100000 in
set_option maxHeartbeats 8000000 in
theorem dd_dt : ∀ {w : World} {loose : List Str} {mean : ExcName → Option Value} {mg mb : Str → Option Value} {dp un : Nat} {gd : Option (List Code)} {cn : Str} {nms : List (Str × NameKind)} {ig ic : Bool} {mo : List (Str × Const)} {L a : Addr} {ccd : Value} {cl : List (Str × Addr)} {outer : List Env} {A₀ : Around} {base h₀ : Heap} {m : Str → Option Value} {news : List (Addr × Obj)} {s : Shared} {Q E : Value → Shared → Prop} {x dx : Addr} {at' : Int} {k1 v1 : Tok} {y dy : Addr} {wh : Int} {k4 v4 : Tok},
  Below A₀ base outer h₀ → Fr h₀ L s.heap m → (hd.heap_39 w.params).In h₀ → News h₀ L s.heap news → Top hd.view_39 loose mean mg mb h₀ → dp + 200 < recursionLimit → un + 2000 < cLine → (x, instObj 81 dx) ∈ news → (dx, dtObj w.params at' k1 v1) ∈ news → (y, instObj 81 dy) ∈ news → (dy, dtObj w.params wh k4 v4) ∈ news → 0 ≤ wh → wh < 315537897600000000 → 0 ≤ at' → at' < 315537897600000000 → -100000000000000000 < wh - at' → wh - at' < 100000000000000000 → 
  (∀ D q dq b1 b2 b3 c1 c2 c3 h' tk', Fr h₀ L h' m → News h₀ L h' ((D, { cls := .type "tuple", data := .seq #[.ref x, .ref q] }) :: (q, instObj 46 dq) :: (dq, tdObj w.params ((wh - at').natAbs : Int) b1 b2 b3 c1 c2 c3) :: news) → Q (.ref D) {s with heap := h', toks := tk'}) →
  wpAny (model Challenge.rw_ez0122_01.row.prog w) (ktrTop dp un gd cn ⟨.function, nms, ig, ic, mo⟩ L a ccd cl outer) (call (.ref 320) [.ref x] [(Str.ofString "now", .ref y)]) Q E s := (by
  w_on
  k_with_none
  k_fill
  intro w loose mean mg mb dp un gd cn nms ig ic mo L a ccd cl outer A₀ base h₀ m news s Q E x dx at' k1 v1 y dy wh k4 v4 B F X N T hdp hun  hx hdx hy hdy hw0 hw1 hu0 hu1 hd0 hd1 hret
  w_strict (walk1; ((rename Fr _ _ _ (fun y => List.lookup y _) => F9); replace F9 := fr_args F9 (l' := [(Str.ofString "precise", .bool false), (Str.ofString "now", .ref y), (Str.ofString "value", .ref x)]) (by kernel_rfl)); k_steps; all_goals ((rename News _ _ _ _ => kN9); refine' hret _ _ _ _ _ _ _ _ _ _ _ ?F ?N; (case F => k_asm); (case N => first | (with_reducible exact kN9) | exact cb_drop kN9 (by kcj_all)))))
set_option maxRecDepth 100000 in
set_option maxHeartbeats 8000000 in
theorem dd_int : ∀ {w : World} {loose : List Str} {mean : ExcName → Option Value} {mg mb : Str → Option Value} {dp un : Nat} {gd : Option (List Code)} {cn : Str} {nms : List (Str × NameKind)} {ig ic : Bool} {mo : List (Str × Const)} {L a : Addr} {ccd : Value} {cl : List (Str × Addr)} {outer : List Env} {A₀ : Around} {base h₀ : Heap} {m : Str → Option Value} {news : List (Addr × Obj)} {s : Shared} {Q E : Value → Shared → Prop} {v : Int} {tv : Tok} {y dy : Addr} {wh : Int} {k4 v4 : Tok},
  Below A₀ base outer h₀ → Fr h₀ L s.heap m → (hd.heap_39 w.params).In h₀ → News h₀ L s.heap news → Top hd.view_39 loose mean mg mb h₀ → dp + 200 < recursionLimit → un + 2000 < cLine → (y, instObj 81 dy) ∈ news → (dy, dtObj w.params wh k4 v4) ∈ news → 0 ≤ wh → wh < 315537897600000000 → -50000000000 < v → v < 50000000000 → 0 ≤ wh - v * 1000000 → wh - v * 1000000 < 315537897600000000 → 
  (∀ D p dp q dq b0 c0 b1 b2 b3 c1 c2 c3 h' tk', Fr h₀ L h' m → News h₀ L h' ((D, { cls := .type "tuple", data := .seq #[.ref p, .ref q] }) :: (q, instObj 46 dq) :: (dq, tdObj w.params ((v * 1000000).natAbs : Int) b1 b2 b3 c1 c2 c3) :: (p, instObj 81 dp) :: (dp, dtObj w.params (wh - v * 1000000) b0 c0) :: news) → Q (.ref D) {s with heap := h', toks := tk'}) →
  wpAny (model Challenge.rw_ez0122_01.row.prog w) (ktrTop dp un gd cn ⟨.function, nms, ig, ic, mo⟩ L a ccd cl outer) (call (.ref 320) [.int v tv] [(Str.ofString "now", .ref y)]) Q E s := (by
  w_on
  k_with_none
  k_fill
  intro w loose mean mg mb dp un gd cn nms ig ic mo L a ccd cl outer A₀ base h₀ m news s Q E v tv y dy wh k4 v4 B F X N T hdp hun  hy hdy hw0 hw1 hu0 hu1 hd0 hd1 hret
  w_strict (walk1; ((rename Fr _ _ _ (fun y => List.lookup y _) => F9); replace F9 := fr_args F9 (l' := [(Str.ofString "precise", .bool false), (Str.ofString "now", .ref y), (Str.ofString "value", .int v tv)]) (by kernel_rfl)); k_steps; all_goals ((rename News _ _ _ _ => kN9); refine' hret _ _ _ _ _ _ _ _ _ _ _ _ _ _ _ ?F ?N; (case F => k_asm); (case N => first | (with_reducible exact kN9) | exact cb_drop kN9 (by kcj_all)))))
local macro_rules | `(tactic| walk_at "call ref") => `(tactic| (k_here; (with_reducible show wpAny _ _ (call (Value.ref 320) _ _) _ _ _); k_dflt (show wpAny _ _ (call (Value.ref 320) [Value.int _ _] [(_, Value.ref _)]) _ _ _); k_dflt (refine' dd_int ?k1 ?k2 ?k3 ?k4 ?k5 ?kd ?ku ?p0 ?p1 ?p2 ?p3 ?p4 ?p5 ?p6 ?p7 ?_; (case k1 => k_asm); (case k2 => k_asm); (case k3 => k_asm); (case k4 => k_asm); (case k5 => k_asm); (case p0 => k_mem); (case p1 => k_mem); (case p2 => first | omega | assumption); (case p3 => first | omega | assumption); (case p4 => first | omega | assumption); (case p5 => first | omega | assumption); (case p6 => first | omega | assumption); (case p7 => first | omega | assumption); (case kd => k_room); (case ku => ktr_units); k_whole); intro D' p' dp' q' dq' b0' c0' b1' b2' b3' c1' c2' c3' h' tk' F' N'; (try k_sweep); (try dsimp only); (try k_fold)))
local macro_rules | `(tactic| walk_at "call ref") => `(tactic| (k_here; (with_reducible show wpAny _ _ (call (Value.ref 320) _ _) _ _ _); k_dflt (show wpAny _ _ (call (Value.ref 320) [Value.ref _] [(_, Value.ref _)]) _ _ _); k_dflt (refine' dd_dt ?k1 ?k2 ?k3 ?k4 ?k5 ?kd ?ku ?p0 ?p1 ?p2 ?p3 ?p4 ?p5 ?p6 ?p7 ?p8 ?p9 ?_; (case k1 => k_asm); (case k2 => k_asm); (case k3 => k_asm); (case k4 => k_asm); (case k5 => k_asm); (case p0 => k_mem); (case p1 => k_mem); (case p2 => k_mem); (case p3 => k_mem); (case p4 => first | omega | assumption); (case p5 => first | omega | assumption); (case p6 => first | omega | assumption); (case p7 => first | omega | assumption); (case p8 => first | omega | assumption); (case p9 => first | omega | assumption); (case kd => k_room); (case ku => ktr_units); k_whole); intro D' q' dq' b1' b2' b3' c1' c2' c3' h' tk' F' N'; (try k_sweep); (try dsimp only); (try k_fold)))
local macro_rules | `(tactic| walk_at "call ref") => `(tactic| (k_here; (with_reducible show wpAny _ _ (call (Value.ref 320) _ _) _ _ _); k_dflt (show wpAny _ _ (call (Value.ref 320) [Value.ref _] [(_, Value.ref _)]) _ _ _); k_dflt (refine' dd_td ?k1 ?k2 ?k3 ?k4 ?k5 ?kd ?ku ?p0 ?p1 ?p2 ?p3 ?p4 ?p5 ?p6 ?p7 ?p8 ?p9 ?_; (case k1 => k_asm); (case k2 => k_asm); (case k3 => k_asm); (case k4 => k_asm); (case k5 => k_asm); (case p0 => k_mem); (case p1 => k_mem); (case p2 => k_mem); (case p3 => k_mem); (case p4 => first | omega | assumption); (case p5 => first | omega | assumption); (case p6 => first | omega | assumption); (case p7 => first | omega | assumption); (case p8 => first | omega | assumption); (case p9 => first | omega | assumption); (case kd => k_room); (case ku => ktr_units); k_whole); intro D' p' dp' q' dq' b0' c0' b1' b2' b3' c1' c2' c3' h' tk' F' N'; (try k_sweep); (try dsimp only); (try k_fold)))
local macro_rules | `(tactic| walk_at "ite") => `(tactic| (k_openite; (with_reducible refine' ite_two (T1 := eval (PySem.Expr.Call _ _ _ _) _) (T2 := eval (PySem.Expr.Call _ _ _ _) _) (Str.ofString "%s from now") (Str.ofString "%s ago") ?zF ?zN ?_ ?_ ?_); (case zF => k_asm); (case zN => k_asm); intro Q' hQ; rotate_left 1; intro Q' hQ; rotate_left 1; intro t' h' tk' F' N'; (try k_sweep); (try dsimp only); (try k_fold)))
local macro_rules | `(tactic| walk_at "binaryOp Mod str str") => `(tactic| (with_reducible refine fms12 ?fa ?_; (case fa => exact ndText_len (by omega) (by omega)); intro _ _))
local macro_rules | `(tactic| walk_at "binaryOp Add int str") => `(tactic| (k_here; (with_reducible refine add_int_str ?zh ?_); (case zh => with_unfolding_all rfl); intro h' tk' e' hx'))
local macro_rules | `(tactic| walk_at "binaryOp Add int none") => `(tactic| (k_here; (with_reducible refine add_int_none ?zh ?_); (case zh => with_unfolding_all rfl); intro h' tk' e' hx'))
local macro_rules | `(tactic| walk_at "binaryOp Add int ref") => `(tactic| (k_here; first | ((with_reducible refine' add_int_list ?zo ?zh ?_); (case zo => exact (news_get (by k_asm) (by k_mem))); (case zh => with_unfolding_all rfl); intro h' tk' e' hx') | ((with_reducible refine' add_int_tup ?zo ?zh ?_); (case zo => exact (news_get (by k_asm) (by k_mem))); (case zh => with_unfolding_all rfl); intro h' tk' e' hx')))
local macro_rules | `(tactic| walk_at "InitBack") => `(tactic| (dsimp only [InitBack]))
local macro_rules | `(tactic| k_enter) => `(tactic| (kp_kind "kwonly"; (fail_if_success k_inElt); (refine' code_defS ?k1 ?k2 ?k3 ?k4 ?k5 ?XB ?TB ?D ?T0 ?kA ?k6 ?k7 ?k8 ?k9 ?kB ?_ ?cK ?c2 ?c3 ?c4 ?c5; (case kA => exact rfl); (case k2 => k_asm); (case k1 => k_asm); (case XB => assumption); (case TB => assumption); (case D => assumption); (case T0 => first | assumption | exact KtsTurn.refl); (case k3 => k_asm); (case k4 => k_asm); (case k5 => k_asm); (case k6 => k_is); (case k7 => k_is); (case k8 => k_room); (case k9 => (refine' kp_binds ?kx ?ke; (case kx => k_in); (case ke => exact fun _ => rfl))); (case kB => exact locs rfl); (case cK => exact rfl); (case c2 => exact rfl); (case c3 => exact rfl); (case c4 => exact rfl); (case c5 => decide); k_whole; intro g' L' h' FG' F' N' B' X' T' D'; (try dsimp only); (try k_lift B'); (try k_fold))))
local macro_rules | `(tactic| walk_at "call type:str") => `(tactic| (k_dflt (k_here; (with_reducible show wpAny _ _ (call (Value.type "str") [Value.ref _]) _ _ _); first | ((with_reducible refine' str_l3 ?zF ?zN ?zm ?zg ?zu ?_); (case zF => k_asm); (case zN => k_asm); (case zm => k_mem); (case zg => with_unfolding_all rfl); (case zu => k_units); intro h' t' tk' F' N') | ((with_reducible refine' str_t12 ?zF ?zN ?zm ?zg ?zu ?_); (case zF => k_asm); (case zN => k_asm); (case zm => k_mem); (case zg => with_unfolding_all rfl); (case zu => k_units); intro h' t' tk' F' N'))))
local macro_rules | `(tactic| walk_at "call type:str") => `(tactic| (with_reducible refine P.str_of_none ?_))
local macro_rules | `(tactic| walk_at "subscriptTail") => `(tactic| (k_here; (with_reducible show wpAny _ _ (subscriptTail _ _ (Value.ref 298) (Value.str (Str.ofString "WEEKS") _)) _ _ _); k_dflt (refine' topItem_miss ?zF ?zX ?zl ?zk ?ze ?zd ?zh ?_ ?zs; (case zF => k_asm); (case zX => k_asm); (case zl => k_is); (case zk => k_keys); (case ze => k_is); (case zd => decide); (case zh => with_unfolding_all rfl); (case zs => with_unfolding_all rfl); k_whole); intro h' e' x'))
local macro_rules | `(tactic| walk_at "InitBack") => `(tactic| (dsimp only [InitBack]))
set_option maxRecDepth 100000 in
set_option maxHeartbeats 8000000 in
theorem nt_td : ∀ {w : World} {loose : List Str} {mean : ExcName → Option Value} {mg mb : Str → Option Value} {dp un : Nat} {gd : Option (List Code)} {cn : Str} {nms : List (Str × NameKind)} {ig ic : Bool} {mo : List (Str × Const)} {L a : Addr} {ccd : Value} {cl : List (Str × Addr)} {outer : List Env} {A₀ : Around} {base h₀ : Heap} {m : Str → Option Value} {news : List (Addr × Obj)} {s : Shared} {Q E : Value → Shared → Prop} {x dx : Addr} {us mu : Int} {k1 k2 k3 v1 v2 v3 : Tok} {ut : Str} {fl mo' : Bool} {t : Tok} {y dy : Addr} {wh : Int} {k4 v4 : Tok},
  Below A₀ base outer h₀ → Fr h₀ L s.heap m → (hd.heap_39 w.params).In h₀ → News h₀ L s.heap news → Top hd.view_39 loose mean mg mb h₀ → dp + 256 < recursionLimit → un + 2560 < cLine → UnitOf ut mu → (x, instObj 46 dx) ∈ news → (dx, tdObj w.params us k1 k2 k3 v1 v2 v3) ∈ news → (y, instObj 81 dy) ∈ news → (dy, dtObj w.params wh k4 v4) ∈ news → 0 ≤ wh → wh < 315537897600000000 → -100000000000000000 < us → us < 100000000000000000 → 0 ≤ wh - us → wh - us < 315537897600000000 → 
  (∀ t h' tk', Fr h₀ L h' m → News h₀ L h' news → Q (.str (ntText (us.natAbs : Int) (decide (us < 0)) mo' mu) t) {s with heap := h', toks := tk'}) →
  wpAny (model Challenge.rw_ez0122_01.row.prog w) (ktrTop dp un gd cn ⟨.function, nms, ig, ic, mo⟩ L a ccd cl outer) (call (.ref 336) [.ref x, .bool fl, .bool mo', .str ut t, .ref y]) Q E s := (by
  w_on
  k_with_none
  k_fill
  intro w loose mean mg mb dp un gd cn nms ig ic mo L a ccd cl outer A₀ base h₀ m news s Q E x dx us mu k1 k2 k3 v1 v2 v3 ut fl mo' t y dy wh k4 v4 B F X N T hdp hun hU hx hdx hy hdy hw0 hw1 hu0 hu1 hd0 hd1 hret
  w_strict (walk1; ((rename Fr _ _ _ (fun y => List.lookup y _) => F9); replace F9 := fr_args F9 (l' := [(Str.ofString "when", .ref y), (Str.ofString "minimum_unit", .str ut t), (Str.ofString "months", .bool mo'), (Str.ofString "future", .bool fl), (Str.ofString "value", .ref x)]) (by kernel_rfl)); k_steps; all_goals ((try dsimp only); first | ((rename KOne _ _ _ _ _ _ _ => kq); (rename Fr _ _ _ _ => kF9); (rename News _ _ _ _ => kN9); (refine' KOne.go kq ?xF ?xN); (case xF => exact kF9); (case xN => with_reducible exact kN9)) | (refine' ret_nd (Q := Q) hret ?e ?F ?N; (case F => k_asm); (case N => (first | (with_reducible assumption) | (rename News _ _ _ _ => kN9; first | (with_reducible exact drop2 (drop2 (drop2 (drop2 (drop2 kN9))))) | (with_reducible exact drop2 (drop2 (drop2 (drop2 kN9)))) | (with_reducible exact drop2 (drop2 (drop2 kN9))) | (with_reducible exact drop1 (drop2 (drop2 (drop2 kN9)))) | (with_reducible exact drop2 (drop2 (drop2 (drop2 kN9)))) | (with_reducible exact drop1 (drop2 (drop2 kN9))) | (with_reducible exact drop2 (drop2 kN9)) | (with_reducible exact drop1 (drop2 kN9)) | (with_reducible exact drop2 kN9) | (with_reducible exact drop1 kN9)))); (case e => (first | with_reducible exact nt_now (by assumption) (by omega) | with_reducible exact nt_both (by omega) (by assumption) (by first | exact Iff.rfl | (simp only [decide_eq_true_eq]; omega))))))))
set_option maxRecDepth 100000 in
set_option maxHeartbeats 8000000 in
theorem nt_td0 : ∀ {w : World} {loose : List Str} {mean : ExcName → Option Value} {mg mb : Str → Option Value} {dp un : Nat} {gd : Option (List Code)} {cn : Str} {nms : List (Str × NameKind)} {ig ic : Bool} {mo : List (Str × Const)} {L a : Addr} {ccd : Value} {cl : List (Str × Addr)} {outer : List Env} {A₀ : Around} {base h₀ : Heap} {m : Str → Option Value} {news : List (Addr × Obj)} {s : Shared} {Q E : Value → Shared → Prop} {x dx : Addr} {us mu : Int} {k1 k2 k3 v1 v2 v3 : Tok} {ut : Str} {fl mo' : Bool} {t : Tok},
  Below A₀ base outer h₀ → Fr h₀ L s.heap m → (hd.heap_39 w.params).In h₀ → News h₀ L s.heap news → Top hd.view_39 loose mean mg mb h₀ → dp + 256 < recursionLimit → un + 2560 < cLine → UnitOf ut mu → (x, instObj 46 dx) ∈ news → (dx, tdObj w.params us k1 k2 k3 v1 v2 v3) ∈ news → -100000000000000000 < us → us < 100000000000000000 → 0 ≤ 63902822400000000 - us → 63902822400000000 - us < 315537897600000000 → 
  (∀ t h' tk', Fr h₀ L h' m → News h₀ L h' news → Q (.str (ntText (us.natAbs : Int) (decide (us < 0)) mo' mu) t) {s with heap := h', toks := tk'}) →
  wpAny (model Challenge.rw_ez0122_01.row.prog w) (ktrTop dp un gd cn ⟨.function, nms, ig, ic, mo⟩ L a ccd cl outer) (call (.ref 336) [.ref x, .bool fl, .bool mo', .str ut t]) Q E s := (by
  w_on
  k_with_none
  k_fill
  intro w loose mean mg mb dp un gd cn nms ig ic mo L a ccd cl outer A₀ base h₀ m news s Q E x dx us mu k1 k2 k3 v1 v2 v3 ut fl mo' t B F X N T hdp hun hU hx hdx hu0 hu1 hd0 hd1 hret
  w_strict (walk1; ((rename Fr _ _ _ (fun y => List.lookup y _) => F9); replace F9 := fr_args F9 (l' := [(Str.ofString "when", .none), (Str.ofString "minimum_unit", .str ut t), (Str.ofString "months", .bool mo'), (Str.ofString "future", .bool fl), (Str.ofString "value", .ref x)]) (by kernel_rfl)); k_steps; all_goals ((try dsimp only); first | ((rename KOne _ _ _ _ _ _ _ => kq); (rename Fr _ _ _ _ => kF9); (rename News _ _ _ _ => kN9); (refine' KOne.go kq ?xF ?xN); (case xF => exact kF9); (case xN => with_reducible exact kN9)) | (refine' ret_nd (Q := Q) hret ?e ?F ?N; (case F => k_asm); (case N => (first | (with_reducible assumption) | (rename News _ _ _ _ => kN9; first | (with_reducible exact drop2 (drop2 (drop2 (drop2 (drop2 kN9))))) | (with_reducible exact drop2 (drop2 (drop2 (drop2 kN9)))) | (with_reducible exact drop2 (drop2 (drop2 kN9))) | (with_reducible exact drop1 (drop2 (drop2 (drop2 kN9)))) | (with_reducible exact drop2 (drop2 (drop2 (drop2 kN9)))) | (with_reducible exact drop1 (drop2 (drop2 kN9))) | (with_reducible exact drop2 (drop2 kN9)) | (with_reducible exact drop1 (drop2 kN9)) | (with_reducible exact drop2 kN9) | (with_reducible exact drop1 kN9)))); (case e => (first | with_reducible exact nt_now (by assumption) (by omega) | with_reducible exact nt_both (by omega) (by assumption) (by first | exact Iff.rfl | (simp only [decide_eq_true_eq]; omega))))))))
set_option maxRecDepth 100000 in
set_option maxHeartbeats 8000000 in
theorem nt_dt : ∀ {w : World} {loose : List Str} {mean : ExcName → Option Value} {mg mb : Str → Option Value} {dp un : Nat} {gd : Option (List Code)} {cn : Str} {nms : List (Str × NameKind)} {ig ic : Bool} {mo : List (Str × Const)} {L a : Addr} {ccd : Value} {cl : List (Str × Addr)} {outer : List Env} {A₀ : Around} {base h₀ : Heap} {m : Str → Option Value} {news : List (Addr × Obj)} {s : Shared} {Q E : Value → Shared → Prop} {x dx : Addr} {at' mu : Int} {k1 v1 : Tok} {ut : Str} {fl mo' : Bool} {t : Tok} {y dy : Addr} {wh : Int} {k4 v4 : Tok},
  Below A₀ base outer h₀ → Fr h₀ L s.heap m → (hd.heap_39 w.params).In h₀ → News h₀ L s.heap news → Top hd.view_39 loose mean mg mb h₀ → dp + 256 < recursionLimit → un + 2560 < cLine → UnitOf ut mu → (x, instObj 81 dx) ∈ news → (dx, dtObj w.params at' k1 v1) ∈ news → (y, instObj 81 dy) ∈ news → (dy, dtObj w.params wh k4 v4) ∈ news → 0 ≤ wh → wh < 315537897600000000 → 0 ≤ at' → at' < 315537897600000000 → -100000000000000000 < wh - at' → wh - at' < 100000000000000000 → 
  (∀ t h' tk', Fr h₀ L h' m → News h₀ L h' news → Q (.str (ntText ((wh - at').natAbs : Int) (decide (wh < at')) mo' mu) t) {s with heap := h', toks := tk'}) →
  wpAny (model Challenge.rw_ez0122_01.row.prog w) (ktrTop dp un gd cn ⟨.function, nms, ig, ic, mo⟩ L a ccd cl outer) (call (.ref 336) [.ref x, .bool fl, .bool mo', .str ut t, .ref y]) Q E s := (by
  w_on
  k_with_none
  k_fill
  intro w loose mean mg mb dp un gd cn nms ig ic mo L a ccd cl outer A₀ base h₀ m news s Q E x dx at' mu k1 v1 ut fl mo' t y dy wh k4 v4 B F X N T hdp hun hU hx hdx hy hdy hw0 hw1 hu0 hu1 hd0 hd1 hret
  w_strict (walk1; ((rename Fr _ _ _ (fun y => List.lookup y _) => F9); replace F9 := fr_args F9 (l' := [(Str.ofString "when", .ref y), (Str.ofString "minimum_unit", .str ut t), (Str.ofString "months", .bool mo'), (Str.ofString "future", .bool fl), (Str.ofString "value", .ref x)]) (by kernel_rfl)); k_steps; all_goals ((try dsimp only); first | ((rename KOne _ _ _ _ _ _ _ => kq); (rename Fr _ _ _ _ => kF9); (rename News _ _ _ _ => kN9); (refine' KOne.go kq ?xF ?xN); (case xF => exact kF9); (case xN => with_reducible exact kN9)) | (refine' ret_nd (Q := Q) hret ?e ?F ?N; (case F => k_asm); (case N => (first | (with_reducible assumption) | (rename News _ _ _ _ => kN9; first | (with_reducible exact drop2 (drop2 (drop2 (drop2 (drop2 kN9))))) | (with_reducible exact drop2 (drop2 (drop2 (drop2 kN9)))) | (with_reducible exact drop2 (drop2 (drop2 kN9))) | (with_reducible exact drop1 (drop2 (drop2 (drop2 kN9)))) | (with_reducible exact drop2 (drop2 (drop2 (drop2 kN9)))) | (with_reducible exact drop1 (drop2 (drop2 kN9))) | (with_reducible exact drop2 (drop2 kN9)) | (with_reducible exact drop1 (drop2 kN9)) | (with_reducible exact drop2 kN9) | (with_reducible exact drop1 kN9)))); (case e => (first | with_reducible exact nt_now (by assumption) (by omega) | with_reducible exact nt_both (by omega) (by assumption) (by first | exact Iff.rfl | (simp only [decide_eq_true_eq]; omega))))))))
set_option maxRecDepth 100000 in
set_option maxHeartbeats 8000000 in
theorem nt_dt0 : ∀ {w : World} {loose : List Str} {mean : ExcName → Option Value} {mg mb : Str → Option Value} {dp un : Nat} {gd : Option (List Code)} {cn : Str} {nms : List (Str × NameKind)} {ig ic : Bool} {mo : List (Str × Const)} {L a : Addr} {ccd : Value} {cl : List (Str × Addr)} {outer : List Env} {A₀ : Around} {base h₀ : Heap} {m : Str → Option Value} {news : List (Addr × Obj)} {s : Shared} {Q E : Value → Shared → Prop} {x dx : Addr} {at' mu : Int} {k1 v1 : Tok} {ut : Str} {fl mo' : Bool} {t : Tok},
  Below A₀ base outer h₀ → Fr h₀ L s.heap m → (hd.heap_39 w.params).In h₀ → News h₀ L s.heap news → Top hd.view_39 loose mean mg mb h₀ → dp + 256 < recursionLimit → un + 2560 < cLine → UnitOf ut mu → (x, instObj 81 dx) ∈ news → (dx, dtObj w.params at' k1 v1) ∈ news → 0 ≤ at' → at' < 315537897600000000 → -100000000000000000 < 63902822400000000 - at' → 63902822400000000 - at' < 100000000000000000 → 
  (∀ t h' tk', Fr h₀ L h' m → News h₀ L h' news → Q (.str (ntText ((63902822400000000 - at').natAbs : Int) (decide (63902822400000000 < at')) mo' mu) t) {s with heap := h', toks := tk'}) →
  wpAny (model Challenge.rw_ez0122_01.row.prog w) (ktrTop dp un gd cn ⟨.function, nms, ig, ic, mo⟩ L a ccd cl outer) (call (.ref 336) [.ref x, .bool fl, .bool mo', .str ut t]) Q E s := (by
  w_on
  k_with_none
  k_fill
  intro w loose mean mg mb dp un gd cn nms ig ic mo L a ccd cl outer A₀ base h₀ m news s Q E x dx at' mu k1 v1 ut fl mo' t B F X N T hdp hun hU hx hdx hu0 hu1 hd0 hd1 hret
  w_strict (walk1; ((rename Fr _ _ _ (fun y => List.lookup y _) => F9); replace F9 := fr_args F9 (l' := [(Str.ofString "when", .none), (Str.ofString "minimum_unit", .str ut t), (Str.ofString "months", .bool mo'), (Str.ofString "future", .bool fl), (Str.ofString "value", .ref x)]) (by kernel_rfl)); k_steps; all_goals ((try dsimp only); first | ((rename KOne _ _ _ _ _ _ _ => kq); (rename Fr _ _ _ _ => kF9); (rename News _ _ _ _ => kN9); (refine' KOne.go kq ?xF ?xN); (case xF => exact kF9); (case xN => with_reducible exact kN9)) | (refine' ret_nd (Q := Q) hret ?e ?F ?N; (case F => k_asm); (case N => (first | (with_reducible assumption) | (rename News _ _ _ _ => kN9; first | (with_reducible exact drop2 (drop2 (drop2 (drop2 (drop2 kN9))))) | (with_reducible exact drop2 (drop2 (drop2 (drop2 kN9)))) | (with_reducible exact drop2 (drop2 (drop2 kN9))) | (with_reducible exact drop1 (drop2 (drop2 (drop2 kN9)))) | (with_reducible exact drop2 (drop2 (drop2 (drop2 kN9)))) | (with_reducible exact drop1 (drop2 (drop2 kN9))) | (with_reducible exact drop2 (drop2 kN9)) | (with_reducible exact drop1 (drop2 kN9)) | (with_reducible exact drop2 kN9) | (with_reducible exact drop1 kN9)))); (case e => (first | with_reducible exact nt_now (by assumption) (by omega) | with_reducible exact nt_both (by omega) (by assumption) (by first | exact Iff.rfl | (simp only [decide_eq_true_eq]; omega))))))))
set_option maxRecDepth 100000 in
set_option maxHeartbeats 8000000 in
theorem nt_int : ∀ {w : World} {loose : List Str} {mean : ExcName → Option Value} {mg mb : Str → Option Value} {dp un : Nat} {gd : Option (List Code)} {cn : Str} {nms : List (Str × NameKind)} {ig ic : Bool} {mo : List (Str × Const)} {L a : Addr} {ccd : Value} {cl : List (Str × Addr)} {outer : List Env} {A₀ : Around} {base h₀ : Heap} {m : Str → Option Value} {news : List (Addr × Obj)} {s : Shared} {Q E : Value → Shared → Prop} {v mu : Int} {tv : Tok} {ut : Str} {fl mo' : Bool} {t : Tok} {y dy : Addr} {wh : Int} {k4 v4 : Tok},
  Below A₀ base outer h₀ → Fr h₀ L s.heap m → (hd.heap_39 w.params).In h₀ → News h₀ L s.heap news → Top hd.view_39 loose mean mg mb h₀ → dp + 256 < recursionLimit → un + 2560 < cLine → UnitOf ut mu → (y, instObj 81 dy) ∈ news → (dy, dtObj w.params wh k4 v4) ∈ news → 0 ≤ wh → wh < 315537897600000000 → -50000000000 < v → v < 50000000000 → 0 ≤ wh - v * 1000000 → wh - v * 1000000 < 315537897600000000 → 
  (∀ t h' tk', Fr h₀ L h' m → News h₀ L h' news → Q (.str (ntText ((v * 1000000).natAbs : Int) fl mo' mu) t) {s with heap := h', toks := tk'}) →
  wpAny (model Challenge.rw_ez0122_01.row.prog w) (ktrTop dp un gd cn ⟨.function, nms, ig, ic, mo⟩ L a ccd cl outer) (call (.ref 336) [.int v tv, .bool fl, .bool mo', .str ut t, .ref y]) Q E s := (by
  w_on
  k_with_none
  k_fill
  intro w loose mean mg mb dp un gd cn nms ig ic mo L a ccd cl outer A₀ base h₀ m news s Q E v mu tv ut fl mo' t y dy wh k4 v4 B F X N T hdp hun hU hy hdy hw0 hw1 hu0 hu1 hd0 hd1 hret
  w_strict (walk1; ((rename Fr _ _ _ (fun y => List.lookup y _) => F9); replace F9 := fr_args F9 (l' := [(Str.ofString "when", .ref y), (Str.ofString "minimum_unit", .str ut t), (Str.ofString "months", .bool mo'), (Str.ofString "future", .bool fl), (Str.ofString "value", .int v tv)]) (by kernel_rfl)); k_steps; all_goals ((try dsimp only); first | ((rename KOne _ _ _ _ _ _ _ => kq); (rename Fr _ _ _ _ => kF9); (rename News _ _ _ _ => kN9); (refine' KOne.go kq ?xF ?xN); (case xF => exact kF9); (case xN => with_reducible exact kN9)) | (refine' ret_nd (Q := Q) hret ?e ?F ?N; (case F => k_asm); (case N => (first | (with_reducible assumption) | (rename News _ _ _ _ => kN9; first | (with_reducible exact drop2 (drop2 (drop2 (drop2 (drop2 kN9))))) | (with_reducible exact drop2 (drop2 (drop2 (drop2 kN9)))) | (with_reducible exact drop2 (drop2 (drop2 kN9))) | (with_reducible exact drop1 (drop2 (drop2 (drop2 kN9)))) | (with_reducible exact drop2 (drop2 (drop2 (drop2 kN9)))) | (with_reducible exact drop1 (drop2 (drop2 kN9))) | (with_reducible exact drop2 (drop2 kN9)) | (with_reducible exact drop1 (drop2 kN9)) | (with_reducible exact drop2 kN9) | (with_reducible exact drop1 kN9)))); (case e => (first | with_reducible exact nt_now (by assumption) (by omega) | with_reducible exact nt_both (by omega) (by assumption) (by first | exact Iff.rfl | (simp only [decide_eq_true_eq]; omega))))))))
set_option maxRecDepth 100000 in
set_option maxHeartbeats 8000000 in
theorem nt_int0 : ∀ {w : World} {loose : List Str} {mean : ExcName → Option Value} {mg mb : Str → Option Value} {dp un : Nat} {gd : Option (List Code)} {cn : Str} {nms : List (Str × NameKind)} {ig ic : Bool} {mo : List (Str × Const)} {L a : Addr} {ccd : Value} {cl : List (Str × Addr)} {outer : List Env} {A₀ : Around} {base h₀ : Heap} {m : Str → Option Value} {news : List (Addr × Obj)} {s : Shared} {Q E : Value → Shared → Prop} {v : Int} {tv : Tok} {fl : Bool},
  Below A₀ base outer h₀ → Fr h₀ L s.heap m → (hd.heap_39 w.params).In h₀ → News h₀ L s.heap news → Top hd.view_39 loose mean mg mb h₀ → dp + 256 < recursionLimit → un + 2560 < cLine → -50000000000 < v → v < 50000000000 → 0 ≤ 63902822400000000 - v * 1000000 → 63902822400000000 - v * 1000000 < 315537897600000000 → 
  (∀ t h' tk', Fr h₀ L h' m → News h₀ L h' news → Q (.str (ntText ((v * 1000000).natAbs : Int) fl true 2) t) {s with heap := h', toks := tk'}) →
  wpAny (model Challenge.rw_ez0122_01.row.prog w) (ktrTop dp un gd cn ⟨.function, nms, ig, ic, mo⟩ L a ccd cl outer) (call (.ref 336) [.int v tv, .bool fl]) Q E s := (by
  w_on
  k_with_none
  k_fill
  intro w loose mean mg mb dp un gd cn nms ig ic mo L a ccd cl outer A₀ base h₀ m news s Q E v tv fl B F X N T hdp hun hu0 hu1 hd0 hd1 hret
  w_strict (walk1; ((rename Fr _ _ _ (fun y => List.lookup y _) => F9); replace F9 := fr_args F9 (l' := [(Str.ofString "when", .none), (Str.ofString "minimum_unit", .str (Str.ofString "seconds") 706), (Str.ofString "months", .bool true), (Str.ofString "future", .bool fl), (Str.ofString "value", .int v tv)]) (by kernel_rfl)); k_steps; all_goals ((try dsimp only); first | ((rename KOne _ _ _ _ _ _ _ => kq); (rename Fr _ _ _ _ => kF9); (rename News _ _ _ _ => kN9); (refine' KOne.go kq ?xF ?xN); (case xF => exact kF9); (case xN => with_reducible exact kN9)) | (refine' ret_nd (Q := Q) hret ?e ?F ?N; (case F => k_asm); (case N => (first | (with_reducible assumption) | (rename News _ _ _ _ => kN9; first | (with_reducible exact drop2 (drop2 (drop2 (drop2 (drop2 kN9))))) | (with_reducible exact drop2 (drop2 (drop2 (drop2 kN9)))) | (with_reducible exact drop2 (drop2 (drop2 kN9))) | (with_reducible exact drop1 (drop2 (drop2 (drop2 kN9)))) | (with_reducible exact drop2 (drop2 (drop2 (drop2 kN9)))) | (with_reducible exact drop1 (drop2 (drop2 kN9))) | (with_reducible exact drop2 (drop2 kN9)) | (with_reducible exact drop1 (drop2 kN9)) | (with_reducible exact drop2 kN9) | (with_reducible exact drop1 kN9)))); (case e => (first | with_reducible exact nt_now (by assumption) (by omega) | with_reducible exact nt_both (by omega) (by assumption) (by first | exact Iff.rfl | (simp only [decide_eq_true_eq]; omega))))))))
set_option maxRecDepth 100000 in
set_option maxHeartbeats 8000000 in
theorem nt_str : ∀ {w : World} {loose : List Str} {mean : ExcName → Option Value} {mg mb : Str → Option Value} {dp un : Nat} {cn : Str} {nms : List (Str × NameKind)} {ig ic : Bool} {mo : List (Str × Const)} {L a : Addr} {ccd : Value} {A₀ : Around} {h₀ : Heap} {m : Str → Option Value} {news : List (Addr × Obj)} {s : Shared} {Q E : Value → Shared → Prop} {x : Str} {tx : Tok} {mu : Int} {ut : Str} {fl mo' : Bool} {t : Tok} {y dy : Addr} {wh : Int} {k4 v4 : Tok},
  Below A₀ h₀ [] h₀ → Fr h₀ L s.heap m → (hd.heap_39 w.params).In h₀ → News h₀ L s.heap news → Top hd.view_39 loose mean mg mb h₀ → dp + 256 < recursionLimit → un + 2560 < cLine → UnitOf ut mu → (y, instObj 81 dy) ∈ news → (dy, dtObj w.params wh k4 v4) ∈ news → 0 ≤ wh → wh < 315537897600000000 → 
  (∀ t h' tk', Fr h₀ L h' m → News h₀ L h' news → Q (.str (x) t) {s with heap := h', toks := tk'}) →
  wpAny (model Challenge.rw_ez0122_01.row.prog w) (ktrTop dp un (some []) cn ⟨.function, nms, ig, ic, mo⟩ L a ccd [] []) (call (.ref 336) [.str x tx, .bool fl, .bool mo', .str ut t, .ref y]) Q E s := (by
  w_on
  k_with_none
  k_fill
  intro w loose mean mg mb dp un cn nms ig ic mo L a ccd A₀ h₀ m news s Q E x tx mu ut fl mo' t y dy wh k4 v4 B F X N T hdp hun hU  hy hdy hw0 hw1 hret
  w_strict (walk1; ((rename Fr _ _ _ (fun y => List.lookup y _) => F9); replace F9 := fr_args F9 (l' := [(Str.ofString "when", .ref y), (Str.ofString "minimum_unit", .str ut t), (Str.ofString "months", .bool mo'), (Str.ofString "future", .bool fl), (Str.ofString "value", .str x tx)]) (by kernel_rfl)); k_steps; all_goals ((try dsimp only); refine' ret_nd (Q := Q) hret ?e ?F ?N; (case F => k_asm); (case N => (first | (with_reducible assumption) | (rename News _ _ _ _ => kN9; first | (with_reducible exact drop1 (drop2 kN9)) | (with_reducible exact drop2 kN9) | (with_reducible exact drop1 kN9) | (with_reducible exact drop2 (drop2 kN9)) | (with_reducible exact drop1 (drop2 (drop2 kN9))) | (with_reducible exact drop2 (drop2 (drop2 kN9)))))); (case e => first | (with_reducible rfl) | decide +kernel))))
set_option maxRecDepth 100000 in
set_option maxHeartbeats 8000000 in
theorem nt_none : ∀ {w : World} {loose : List Str} {mean : ExcName → Option Value} {mg mb : Str → Option Value} {dp un : Nat} {cn : Str} {nms : List (Str × NameKind)} {ig ic : Bool} {mo : List (Str × Const)} {L a : Addr} {ccd : Value} {A₀ : Around} {h₀ : Heap} {m : Str → Option Value} {news : List (Addr × Obj)} {s : Shared} {Q E : Value → Shared → Prop}  {mu : Int} {ut : Str} {fl mo' : Bool} {t : Tok} {y dy : Addr} {wh : Int} {k4 v4 : Tok},
  Below A₀ h₀ [] h₀ → Fr h₀ L s.heap m → (hd.heap_39 w.params).In h₀ → News h₀ L s.heap news → Top hd.view_39 loose mean mg mb h₀ → dp + 256 < recursionLimit → un + 2560 < cLine → UnitOf ut mu → (y, instObj 81 dy) ∈ news → (dy, dtObj w.params wh k4 v4) ∈ news → 0 ≤ wh → wh < 315537897600000000 → 
  (∀ t h' tk', Fr h₀ L h' m → News h₀ L h' news → Q (.str (Str.ofString "None") t) {s with heap := h', toks := tk'}) →
  wpAny (model Challenge.rw_ez0122_01.row.prog w) (ktrTop dp un (some []) cn ⟨.function, nms, ig, ic, mo⟩ L a ccd [] []) (call (.ref 336) [.none, .bool fl, .bool mo', .str ut t, .ref y]) Q E s := (by
  w_on
  k_with_none
  k_fill
  intro w loose mean mg mb dp un cn nms ig ic mo L a ccd A₀ h₀ m news s Q E  mu ut fl mo' t y dy wh k4 v4 B F X N T hdp hun hU  hy hdy hw0 hw1 hret
  w_strict (walk1; ((rename Fr _ _ _ (fun y => List.lookup y _) => F9); replace F9 := fr_args F9 (l' := [(Str.ofString "when", .ref y), (Str.ofString "minimum_unit", .str ut t), (Str.ofString "months", .bool mo'), (Str.ofString "future", .bool fl), (Str.ofString "value", .none)]) (by kernel_rfl)); k_steps; all_goals ((try dsimp only); refine' ret_nd (Q := Q) hret ?e ?F ?N; (case F => k_asm); (case N => (first | (with_reducible assumption) | (rename News _ _ _ _ => kN9; first | (with_reducible exact drop1 (drop2 kN9)) | (with_reducible exact drop2 kN9) | (with_reducible exact drop1 kN9) | (with_reducible exact drop2 (drop2 kN9)) | (with_reducible exact drop1 (drop2 (drop2 kN9))) | (with_reducible exact drop2 (drop2 (drop2 kN9)))))); (case e => first | (with_reducible rfl) | decide +kernel))))
set_option maxRecDepth 100000 in
set_option maxHeartbeats 8000000 in
theorem nt_list : ∀ {w : World} {loose : List Str} {mean : ExcName → Option Value} {mg mb : Str → Option Value} {dp un : Nat} {cn : Str} {nms : List (Str × NameKind)} {ig ic : Bool} {mo : List (Str × Const)} {L a : Addr} {ccd : Value} {A₀ : Around} {h₀ : Heap} {m : Str → Option Value} {news : List (Addr × Obj)} {s : Shared} {Q E : Value → Shared → Prop} {x : Addr} {tx : Tok} {mu : Int} {ut : Str} {fl mo' : Bool} {t : Tok} {y dy : Addr} {wh : Int} {k4 v4 : Tok},
  Below A₀ h₀ [] h₀ → Fr h₀ L s.heap m → (hd.heap_39 w.params).In h₀ → News h₀ L s.heap news → Top hd.view_39 loose mean mg mb h₀ → dp + 256 < recursionLimit → un + 2560 < cLine → UnitOf ut mu → (x, W.listOf #[.int 3 tx] 0) ∈ news → (y, instObj 81 dy) ∈ news → (dy, dtObj w.params wh k4 v4) ∈ news → 0 ≤ wh → wh < 315537897600000000 → 
  (∀ t h' tk', Fr h₀ L h' m → News h₀ L h' news → Q (.str (Str.ofString "[3]") t) {s with heap := h', toks := tk'}) →
  wpAny (model Challenge.rw_ez0122_01.row.prog w) (ktrTop dp un (some []) cn ⟨.function, nms, ig, ic, mo⟩ L a ccd [] []) (call (.ref 336) [.ref x, .bool fl, .bool mo', .str ut t, .ref y]) Q E s := (by
  w_on
  k_with_none
  k_fill
  intro w loose mean mg mb dp un cn nms ig ic mo L a ccd A₀ h₀ m news s Q E x tx mu ut fl mo' t y dy wh k4 v4 B F X N T hdp hun hU hx hy hdy hw0 hw1 hret
  w_strict (walk1; ((rename Fr _ _ _ (fun y => List.lookup y _) => F9); replace F9 := fr_args F9 (l' := [(Str.ofString "when", .ref y), (Str.ofString "minimum_unit", .str ut t), (Str.ofString "months", .bool mo'), (Str.ofString "future", .bool fl), (Str.ofString "value", .ref x)]) (by kernel_rfl)); k_steps; all_goals ((try dsimp only); refine' ret_nd (Q := Q) hret ?e ?F ?N; (case F => k_asm); (case N => (first | (with_reducible assumption) | (rename News _ _ _ _ => kN9; first | (with_reducible exact drop1 (drop2 kN9)) | (with_reducible exact drop2 kN9) | (with_reducible exact drop1 kN9) | (with_reducible exact drop2 (drop2 kN9)) | (with_reducible exact drop1 (drop2 (drop2 kN9))) | (with_reducible exact drop2 (drop2 (drop2 kN9)))))); (case e => first | (with_reducible rfl) | decide +kernel))))
set_option maxRecDepth 100000 in
set_option maxHeartbeats 8000000 in
theorem nt_tup : ∀ {w : World} {loose : List Str} {mean : ExcName → Option Value} {mg mb : Str → Option Value} {dp un : Nat} {cn : Str} {nms : List (Str × NameKind)} {ig ic : Bool} {mo : List (Str × Const)} {L a : Addr} {ccd : Value} {A₀ : Around} {h₀ : Heap} {m : Str → Option Value} {news : List (Addr × Obj)} {s : Shared} {Q E : Value → Shared → Prop} {x : Addr} {tx ty : Tok} {mu : Int} {ut : Str} {fl mo' : Bool} {t : Tok} {y dy : Addr} {wh : Int} {k4 v4 : Tok},
  Below A₀ h₀ [] h₀ → Fr h₀ L s.heap m → (hd.heap_39 w.params).In h₀ → News h₀ L s.heap news → Top hd.view_39 loose mean mg mb h₀ → dp + 256 < recursionLimit → un + 2560 < cLine → UnitOf ut mu → (x, { cls := .type "tuple", data := .seq #[.int 1 tx, .int 2 ty] }) ∈ news → (y, instObj 81 dy) ∈ news → (dy, dtObj w.params wh k4 v4) ∈ news → 0 ≤ wh → wh < 315537897600000000 → 
  (∀ t h' tk', Fr h₀ L h' m → News h₀ L h' news → Q (.str (Str.ofString "(1, 2)") t) {s with heap := h', toks := tk'}) →
  wpAny (model Challenge.rw_ez0122_01.row.prog w) (ktrTop dp un (some []) cn ⟨.function, nms, ig, ic, mo⟩ L a ccd [] []) (call (.ref 336) [.ref x, .bool fl, .bool mo', .str ut t, .ref y]) Q E s := (by
  w_on
  k_with_none
  k_fill
  intro w loose mean mg mb dp un cn nms ig ic mo L a ccd A₀ h₀ m news s Q E x tx ty mu ut fl mo' t y dy wh k4 v4 B F X N T hdp hun hU hx hy hdy hw0 hw1 hret
  w_strict (walk1; ((rename Fr _ _ _ (fun y => List.lookup y _) => F9); replace F9 := fr_args F9 (l' := [(Str.ofString "when", .ref y), (Str.ofString "minimum_unit", .str ut t), (Str.ofString "months", .bool mo'), (Str.ofString "future", .bool fl), (Str.ofString "value", .ref x)]) (by kernel_rfl)); k_steps; all_goals ((try dsimp only); refine' ret_nd (Q := Q) hret ?e ?F ?N; (case F => k_asm); (case N => (first | (with_reducible assumption) | (rename News _ _ _ _ => kN9; first | (with_reducible exact drop1 (drop2 kN9)) | (with_reducible exact drop2 kN9) | (with_reducible exact drop1 kN9) | (with_reducible exact drop2 (drop2 kN9)) | (with_reducible exact drop1 (drop2 (drop2 kN9))) | (with_reducible exact drop2 (drop2 (drop2 kN9)))))); (case e => first | (with_reducible rfl) | decide +kernel))))
set_option maxRecDepth 100000 in
set_option maxHeartbeats 8000000 in
theorem nt_over : ∀ {w : World} {loose : List Str} {mean : ExcName → Option Value} {mg mb : Str → Option Value} {dp un : Nat} {gd : Option (List Code)} {cn : Str} {nms : List (Str × NameKind)} {ig ic : Bool} {mo : List (Str × Const)} {L a : Addr} {ccd : Value} {cl : List (Str × Addr)} {outer : List Env} {A₀ : Around} {base h₀ : Heap} {m : Str → Option Value} {news : List (Addr × Obj)} {s : Shared} {Q E : Value → Shared → Prop} {x dx : Addr} {us : Int} {k1 k2 k3 v1 v2 v3 : Tok} {ut : Str} {fl mo' : Bool} {t : Tok} {y dy : Addr} {wh : Int} {k4 v4 : Tok},
  Below A₀ base outer h₀ → Fr h₀ L s.heap m → (hd.heap_39 w.params).In h₀ → News h₀ L s.heap news → Top hd.view_39 loose mean mg mb h₀ → dp + 256 < recursionLimit → un + 2560 < cLine → (x, instObj 46 dx) ∈ news → (dx, tdObj w.params us k1 k2 k3 v1 v2 v3) ∈ news → (y, instObj 81 dy) ∈ news → (dy, dtObj w.params wh k4 v4) ∈ news → 0 ≤ wh → wh < 315537897600000000 → -400000000000000000 < us → us < 400000000000000000 → wh - us < 0 ∨ 315537897600000000 ≤ wh - us → 
  (∀ e G h' tk', Fr h₀ L G m → G.UpToSlots h' → RaisedN base (envX cn ⟨.function, nms, ig, ic, mo⟩ L a ccd cl :: outer) e (.type "OverflowError") [] h' → E (.ref e) {s with heap := h', toks := tk'}) →
  wpAny (model Challenge.rw_ez0122_01.row.prog w) (ktrTop dp un gd cn ⟨.function, nms, ig, ic, mo⟩ L a ccd cl outer) (call (.ref 336) [.ref x, .bool fl, .bool mo', .str ut t, .ref y]) Q E s := (by
  w_on
  k_with_none
  k_fill
  intro w loose mean mg mb dp un gd cn nms ig ic mo L a ccd cl outer A₀ base h₀ m news s Q E x dx us k1 k2 k3 v1 v2 v3 ut fl mo' t y dy wh k4 v4 B F X N T hdp hun hx hdx hy hdy hw0 hw1 hu0 hu1 hov hret
  w_strict (walk1; ((rename Fr _ _ _ (fun y => List.lookup y _) => F9); replace F9 := fr_args F9 (l' := [(Str.ofString "when", .ref y), (Str.ofString "minimum_unit", .str ut t), (Str.ofString "months", .bool mo'), (Str.ofString "future", .bool fl), (Str.ofString "value", .ref x)]) (by kernel_rfl)); k_steps; all_goals ((try dsimp only); first | ((rename KOne _ _ _ _ _ _ _ => kq); (rename Fr _ _ _ _ => kF9); (rename News _ _ _ _ => kN9); (refine' KOne.go kq ?xF ?xN); (case xF => exact kF9); (case xN => with_reducible exact kN9)) | (refine' hret _ _ _ _ ?F ?U ?R; (case R => exact RaisedN.nil (by with_reducible assumption)); (case U => with_reducible assumption); (case F => with_reducible assumption)))))
set_option maxRecDepth 100000 in
set_option maxHeartbeats 8000000 in
theorem nt_days : ∀ {w : World} {loose : List Str} {mean : ExcName → Option Value} {mg mb : Str → Option Value} {dp un : Nat} {gd : Option (List Code)} {cn : Str} {nms : List (Str × NameKind)} {ig ic : Bool} {mo : List (Str × Const)} {L a : Addr} {ccd : Value} {cl : List (Str × Addr)} {outer : List Env} {A₀ : Around} {base h₀ : Heap} {m : Str → Option Value} {news : List (Addr × Obj)} {s : Shared} {Q E : Value → Shared → Prop} {x dx : Addr} {us : Int} {k1 k2 k3 v1 v2 v3 : Tok} {fl mo' : Bool} {t : Tok} {y dy : Addr} {wh : Int} {k4 v4 : Tok},
  Below A₀ base outer h₀ → Fr h₀ L s.heap m → (hd.heap_39 w.params).In h₀ → News h₀ L s.heap news → Top hd.view_39 loose mean mg mb h₀ → dp + 256 < recursionLimit → un + 2560 < cLine → (x, instObj 46 dx) ∈ news → (dx, tdObj w.params us k1 k2 k3 v1 v2 v3) ∈ news → (y, instObj 81 dy) ∈ news → (dy, dtObj w.params wh k4 v4) ∈ news → 0 ≤ wh → wh < 315537897600000000 → -100000000000000000 < us → us < 100000000000000000 → 0 ≤ wh - us → wh - us < 315537897600000000 → 
  (∀ e G h' tk', Fr h₀ L G m → G.UpToSlots h' → RaisedN base (envX cn ⟨.function, nms, ig, ic, mo⟩ L a ccd cl :: outer) e (.type "ValueError") [] h' → E (.ref e) {s with heap := h', toks := tk'}) →
  wpAny (model Challenge.rw_ez0122_01.row.prog w) (ktrTop dp un gd cn ⟨.function, nms, ig, ic, mo⟩ L a ccd cl outer) (call (.ref 336) [.ref x, .bool fl, .bool mo', .str (Str.ofString "days") t, .ref y]) Q E s := (by
  w_on
  k_with_none
  k_fill
  intro w loose mean mg mb dp un gd cn nms ig ic mo L a ccd cl outer A₀ base h₀ m news s Q E x dx us k1 k2 k3 v1 v2 v3 fl mo' t y dy wh k4 v4 B F X N T hdp hun hx hdx hy hdy hw0 hw1 hu0 hu1 hd0 hd1 hret
  w_strict (walk1; ((rename Fr _ _ _ (fun y => List.lookup y _) => F9); replace F9 := fr_args F9 (l' := [(Str.ofString "when", .ref y), (Str.ofString "minimum_unit", .str (Str.ofString "days") t), (Str.ofString "months", .bool mo'), (Str.ofString "future", .bool fl), (Str.ofString "value", .ref x)]) (by kernel_rfl)); k_steps; all_goals ((try dsimp only); first | ((rename KOne _ _ _ _ _ _ _ => kq); (rename Fr _ _ _ _ => kF9); (rename News _ _ _ _ => kN9); (refine' KOne.go kq ?xF ?xN); (case xF => exact kF9); (case xN => with_reducible exact kN9)) | (refine' hret _ _ _ _ ?F ?U ?R; (case R => exact RaisedN.nil (by with_reducible assumption)); (case U => with_reducible assumption); (case F => with_reducible assumption)))))
set_option maxRecDepth 100000 in
set_option maxHeartbeats 8000000 in
theorem nt_weeks : ∀ {w : World} {loose : List Str} {mean : ExcName → Option Value} {mg mb : Str → Option Value} {dp un : Nat} {gd : Option (List Code)} {cn : Str} {nms : List (Str × NameKind)} {ig ic : Bool} {mo : List (Str × Const)} {L a : Addr} {ccd : Value} {cl : List (Str × Addr)} {outer : List Env} {A₀ : Around} {base h₀ : Heap} {m : Str → Option Value} {news : List (Addr × Obj)} {s : Shared} {Q E : Value → Shared → Prop} {v : Int} {tv : Tok} {fl mo' : Bool} {t : Tok},
  Below A₀ base outer h₀ → Fr h₀ L s.heap m → (hd.heap_39 w.params).In h₀ → News h₀ L s.heap news → Top hd.view_39 loose mean mg mb h₀ → dp + 256 < recursionLimit → un + 2560 < cLine → -1000 < v → v < 1000 → 
  (∀ e G h' tk', Fr h₀ L G m → G.UpToSlots h' → RaisedN base (envX cn ⟨.function, nms, ig, ic, mo⟩ L a ccd cl :: outer) e (.type "KeyError") [] h' → E (.ref e) {s with heap := h', toks := tk'}) →
  wpAny (model Challenge.rw_ez0122_01.row.prog w) (ktrTop dp un gd cn ⟨.function, nms, ig, ic, mo⟩ L a ccd cl outer) (call (.ref 336) [.int v tv, .bool fl, .bool mo', .str (Str.ofString "weeks") t]) Q E s := (by
  w_on
  k_with_none
  k_fill
  intro w loose mean mg mb dp un gd cn nms ig ic mo L a ccd cl outer A₀ base h₀ m news s Q E v tv fl mo' t B F X N T hdp hun hv0 hv1 hret
  w_strict (walk1; ((rename Fr _ _ _ (fun y => List.lookup y _) => F9); replace F9 := fr_args F9 (l' := [(Str.ofString "when", .none), (Str.ofString "minimum_unit", .str (Str.ofString "weeks") t), (Str.ofString "months", .bool mo'), (Str.ofString "future", .bool fl), (Str.ofString "value", .int v tv)]) (by kernel_rfl)); k_steps; all_goals ((try dsimp only); first | ((rename KOne _ _ _ _ _ _ _ => kq); (rename Fr _ _ _ _ => kF9); (rename News _ _ _ _ => kN9); (refine' KOne.go kq ?xF ?xN); (case xF => exact kF9); (case xN => with_reducible exact kN9)) | (refine' hret _ _ _ _ ?F ?U ?R; (case R => exact RaisedN.nil (by with_reducible assumption)); (case U => with_reducible assumption); (case F => with_reducible assumption)))))
theorem pow106 {prog : Program} {w : World} {A : Around} {E : Value → Shared → Prop} {s : Shared} {t u : Tok} {Q : Value → Shared → Prop} (h : Q (.int 1000000 s.toks) { s with toks := s.toks + 1 }) :
    wpAny (model prog w) A (binaryOp .Pow (.int 10 t) (.int 6 u)) Q E s :=
  pow_int_small (by decide) (by decide) (by decide) (by rw [show (10 : Int) ^ (6 : Int).toNat = 1000000 from rfl]; exact h)
theorem mulLit {prog : Program} {w : World} {A : Around} {E : Value → Shared → Prop} {s : Shared} {a b : Int} (c : Int) {t u : Tok} {Q : Value → Shared → Prop} (e : decide (a * b = c) = true) (hm : IntMulOk a b)
    (h : Q (.int c s.toks) { s with toks := s.toks + 1 }) : wpAny (model prog w) A (binaryOp .Mult (.int a t) (.int b u)) Q E s := by
  have e := of_decide_eq_true e
  subst e
  exact PyProof.Rows.mul_int h hm
theorem mulB {prog : Program} {w : World} {A : Around} {E : Value → Shared → Prop} {s : Shared} {a b : Int} (X Y : Int) {t u : Tok} {Q : Value → Shared → Prop} (ha : 0 ≤ a) (ha2 : a ≤ X) (hb : 0 ≤ b) (hb2 : b ≤ Y) (hm : IntMulOk a b)
    (h : ∀ p, 0 ≤ p → p ≤ X * Y → Q (.int p s.toks) { s with toks := s.toks + 1 }) : wpAny (model prog w) A (binaryOp .Mult (.int a t) (.int b u)) Q E s :=
  PyProof.Rows.mul_int (h _ (Int.mul_nonneg ha hb) (Int.mul_le_mul ha2 hb2 hb (by omega))) hm
def AllI (P : Int → Prop) (l : List Value) : Prop := ∀ v ∈ l, ∃ n t, v = .int n t ∧ P n
theorem AllI.nil {P : Int → Prop} : AllI P [] := fun _ h => nomatch h
theorem AllI.cons {P : Int → Prop} {n : Int} {t : Tok} {l : List Value} (h : P n) (r : AllI P l) : AllI P (.int n t :: l) := fun v hv => by
  rcases List.mem_cons.1 hv with e | e
  · exact ⟨n, t, e, h⟩
  · exact r v e
theorem seqIndex_pos {k : Int} {n : Nat} (h0 : 0 ≤ k) (hl : k < (n : Int)) : seqIndex? k n = some k.toNat := by
  unfold seqIndex?
  rw [if_neg (by omega : ¬ k < 0)]
  simp [h0, hl]
theorem item_some {prog : Program} {w : World} {A : Around} {E : Value → Shared → Prop} {s : Shared} {value slice : PySem.Expr} {t : Addr} {l : List Value} {k : Int} {u : Tok} (P : Int → Prop) {Q : Value → Shared → Prop} (ht : PyProof.Rows.IsTup s.heap t l.toArray)
    (h0 : 0 ≤ k) (hl : k < (l.length : Int)) (hsz : l.length < 1000) (hP : AllI P l) (h : ∀ n t, P n → Q (.int n t) s)
    (hs : subscripted slice false (.ref t) (.int k u) = operate [.ref t, .int k u] (getItem (.ref t) (.int k u))) :
    wpAny (model prog w) A (subscriptTail value slice (.ref t) (.int k u)) Q E s := by
  have hj : k.toNat < l.length := by omega
  obtain ⟨n, t', e, p⟩ := hP _ (List.getElem_mem hj)
  exact item_tupleT ht (by omega) (by omega) (j := k.toNat) (seqIndex_pos h0 hl) (by rw [List.getElem?_eq_getElem hj, e]) (h _ _ p) hs
theorem fmodV {prog : Program} {w : World} {A : Around} {E : Value → Shared → Prop} {s : Shared} {a b : Int} {t u : Tok} {Q : Value → Shared → Prop} (hb : 0 < b)
    (h : ∀ r, 0 ≤ r → r < b → Q (.int r s.toks) { s with toks := s.toks + 1 }) : wpAny (model prog w) A (binaryOp .Mod (.int a t) (.int b u)) Q E s :=
  fmodP hb (h _ (Int.emod_nonneg _ (by omega)) (Int.emod_lt_of_pos _ hb))
section
local macro_rules | `(tactic| walk_at "binaryOp Pow int int") => `(tactic| (with_reducible refine pow106 ?_))
local macro_rules | `(tactic| walk_at "binaryOp Mult int int") => `(tactic| ((first | (with_reducible refine mulLit 30000000 (by decide) (.of_right (by decide)) ?_) | (with_reducible refine mulLit 60000000 (by decide) (.of_right (by decide)) ?_) | (with_reducible refine mulLit 1800000000 (by decide) (.of_right (by decide)) ?_) | (with_reducible refine mulLit 3600000000 (by decide) (.of_right (by decide)) ?_) | (with_reducible refine mulLit 43200 (by decide) (.of_right (by decide)) ?_) | (with_reducible refine mulLit 43200000000 (by decide) (.of_right (by decide)) ?_) | (with_reducible refine mulLit 86400000000 (by decide) (.of_right (by decide)) ?_) | (with_reducible refine mulLit 1296000 (by decide) (.of_right (by decide)) ?_) | (with_reducible refine mulLit 1296000000000 (by decide) (.of_right (by decide)) ?_) | (with_reducible refine mulLit 2635200 (by decide) (.of_right (by decide)) ?_) | (with_reducible refine mulLit 2635200000000 (by decide) (.of_right (by decide)) ?_) | (with_reducible refine mulLit 31536000 (by decide) (.of_right (by decide)) ?_) | (with_reducible refine mulLit 31536000000000 (by decide) (.of_right (by decide)) ?_))))
local macro_rules | `(tactic| walk_at "binaryOp Mult int int") => `(tactic| (first | (with_reducible refine mulB 31536000000000 1299 (by omega) (by omega) (by omega) (by omega) (.of_right (intBits_le_64 (by omega) (by omega))) ?_; intro p' p0' p1') | (with_reducible refine mulB 2 31536000000000 (by omega) (by omega) (by omega) (by omega) (.of_right (intBits_le_64 (by omega) (by omega))) ?_; intro p' p0' p1')))
local macro_rules | `(tactic| walk_at "subscriptTail") => `(tactic| (k_here; (with_reducible show wpAny _ _ (subscriptTail _ _ (Value.ref _) (Value.int _ _)) _ _ _); (first | k_dflt (refine' item_some (fun n => 1 ≤ n ∧ n ≤ 31536000000000) ?t ?a ?b ?c ?d ?_ ?e; (case t => exact News.isTup (by k_asm) (by k_mem)); (case d => (repeat (first | exact AllI.nil | refine AllI.cons (by decide) ?_))); (case a => omega); (case b => (show _ < (12 : Int)); omega); (case c => exact of_decide_eq_true rfl); (case e => with_unfolding_all rfl); k_whole; intro n' t' hn'; obtain ⟨hn0, hn1⟩ := hn') | k_dflt (refine' item_some (fun n => -86400000000 ≤ n ∧ n ≤ 86400000000) ?t ?a ?b ?c ?d ?_ ?e; (case t => exact News.isTup (by k_asm) (by k_mem)); (case d => (repeat (first | exact AllI.nil | refine AllI.cons (by decide) ?_))); (case a => omega); (case b => (show _ < (8 : Int)); omega); (case c => exact of_decide_eq_true rfl); (case e => with_unfolding_all rfl); k_whole; intro n' t' hn'; obtain ⟨hn0, hn1⟩ := hn'))))
local macro_rules | `(tactic| walk_at "binaryOp Mod int int") => `(tactic| (with_reducible refine fmodV (by first | decide | omega) ?_; intro r' r0' r1'))
set_option maxRecDepth 100000 in
set_option maxHeartbeats 8000000 in
theorem span_call : ∀ {w : World} {loose : List Str} {mean : ExcName → Option Value} {mg mb : Str → Option Value} {dp un : Nat} {gd : Option (List Code)} {cn : Str} {nms : List (Str × NameKind)} {ig ic : Bool} {mo : List (Str × Const)} {L a : Addr} {ccd : Value} {cl : List (Str × Addr)} {outer : List Env} {A₀ : Around} {base h₀ : Heap} {m : Str → Option Value} {news : List (Addr × Obj)} {s : Shared} {Q E : Value → Shared → Prop} {x y z : Int} {t1 t2 t3 : Tok},
  Below A₀ base outer h₀ → Fr h₀ L s.heap m → (hd.heap_39 w.params).In h₀ → News h₀ L s.heap news → Top hd.view_39 loose mean mg mb h₀ → dp + 40 < recursionLimit → un + 400 < cLine → 
  (∀ sp t h' tk', 0 ≤ sp → sp < 42000000000000000 → Fr h₀ L h' m → News h₀ L h' news → Q (.int sp t) {s with heap := h', toks := tk'}) →
  wpAny (model Challenge.rw_ez0122_01.row.prog w) (ktrTop dp un gd cn ⟨.function, nms, ig, ic, mo⟩ L a ccd cl outer) (call (.ref 343) [.int x t1, .int y t2, .int z t3]) Q E s := (by
  w_on
  k_with_none
  k_fill
  intro w loose mean mg mb dp un gd cn nms ig ic mo L a ccd cl outer A₀ base h₀ m news s Q E x y z t1 t2 t3 B F X N T hdp hun hret
  w_strict (k_steps; all_goals (rename News _ _ _ _ => kN9; refine' hret _ _ _ _ ?zz1 ?zz2 ?zz3 (drop2 kN9); (case zz3 => k_asm); (case zz1 => split <;> omega); (case zz2 => split <;> omega))))
end
section
variable {prog : Program} {w : World} {A₀ : Around} {E : Value → Shared → Prop} {s' : Shared} {h₀ h : Heap} {outer : List Env} {L a e : Addr} {m : Str → Option Value} {name : Str} {scope : Scope} {cd : Value}
  {b₀ : Stmt} {suite : List Stmt} {pos np : Pos} {rest : List ExceptHandler} {Q : Flow → Shared → Prop} {news : List (Addr × Obj)}
  {p : Program} {loose : List Str} {mg mb : Str → Option Value} {x : Str} {X T' : String} {KK : Frag}
/-- a built-in class: what the catching lemmas ask of it -/
structure ExcBy (KK : Frag) (x : Str) (T' : String) : Prop where
  free : nsIn KK mainGlobals x = some none
  ne : x ≠ "__name__"
  boot : bootBuiltins x = some (.type T')
  exc : isSubtype (.type T') (.type "BaseException") = pure true
  notTup : isSubtype (.type ((Manifest.find? T').elim "type" fun y => y.metatype)) (.type "tuple") = pure false
  dbg : (x == ("__debug__" : Str)) = false
theorem exc_value (v : nsIn KK mainGlobals (Str.ofString "ValueError") = some none) : ExcBy KK (Str.ofString "ValueError") "ValueError" := ⟨v, by decide, PyProof.Rows.Boot.«ValueError», PySem.F.isExc_ValueError, PySem.F.notTuple_ValueError, by decide⟩
theorem exc_key (v : nsIn KK mainGlobals (Str.ofString "KeyError") = some none) : ExcBy KK (Str.ofString "KeyError") "KeyError" := ⟨v, by decide, PyProof.Rows.Boot.«KeyError», kr_isExc_KeyError, kr_notTuple_KeyError, by decide⟩
theorem exc_over (v : nsIn KK mainGlobals (Str.ofString "OverflowError") = some none) : ExcBy KK (Str.ofString "OverflowError") "OverflowError" := ⟨v, by decide, PyProof.Rows.Boot.«OverflowError», PySem.F.isExc_OverflowError, PySem.F.notTuple_OverflowError, by decide⟩
theorem handle_skip (F : Fr h₀ L s'.heap m) (T : PySem.W.TopRead p loose mg mb h₀) (XK : KK.In h₀) (x1 : ExcBy KK x T') (hsub : isSubtype (.type X) (.type T') = pure false) (there : ∃ ob, s'.heap.get? e = some ob ∧ ob.cls = .type X)
    (hk : scope.kind = .function) (hx : (envOf name scope L a cd).kindOf x = some .globalImplicit)
    (k : wpAny (model prog w) (A₀.deeper (envOf name scope L a cd)) (handleBy (.ref e) (envOf name scope L a cd) rest) Q E s') :
    wpAny (model prog w) (A₀.deeper (envOf name scope L a cd)) (handleBy (.ref e) (envOf name scope L a cd) (.ExceptHandler (some (.Name x np)) none (b₀ :: suite) pos :: rest)) Q E s' :=
  wpAny_handleBy_builtin (X := X) (T := T') (b := false) x1.exc x1.notTup hsub (ld_builtin_at F T.g (mg_none_of XK T.g x1.free) T.b ((T.builtins x x1.ne).trans x1.boot) ⟨rfl, there, k⟩ hk hx x1.dbg)
theorem handle_hit (F : Fr h₀ L s'.heap m) (T : PySem.W.TopRead p loose mg mb h₀) (XK : KK.In h₀) (x1 : ExcBy KK x T') (hsub : isSubtype (.type X) (.type T') = pure true)
    {B : Heap} {a0 : Value} (hB : h₀.StaysIn B) (hl : ∀ q ∈ news, B.get? q.1 = some q.2 ∧ h₀.get? q.1 = none) (hL : B.get? L = none) (hheld : Heap.FlyingW B (envOf name scope L a cd :: outer) e (.type X) a0 s'.heap)
    (hk : scope.kind = .function) (hx : (envOf name scope L a cd).kindOf x = some .globalImplicit)
    (k : ∀ h', Fr h₀ L h' m → News h₀ L h' news → wpAny (model prog w) ((A₀.deeper (envOf name scope L a cd)).mark (some (.ref e))) (execs (b₀ :: suite) (envOf name scope L a cd)) Q E { s' with heap := h' })
    (hE : PassesOwnAt (model prog w) ((A₀.deeper (envOf name scope L a cd)).mark (some (.ref e))) (A₀.deeper (envOf name scope L a cd)) (envOf name scope L a cd) E) :
    wpAny (model prog w) (A₀.deeper (envOf name scope L a cd)) (handleBy (.ref e) (envOf name scope L a cd) (.ExceptHandler (some (.Name x np)) none (b₀ :: suite) pos :: rest)) Q E s' := by
  obtain ⟨ob, hob, hobc⟩ := hheld.there
  refine wpAny_handleBy_builtin (X := X) (T := T') (b := true) x1.exc x1.notTup hsub (ld_builtin_at F T.g (mg_none_of XK T.g x1.free) T.b ((T.builtins x x1.ne).trans x1.boot) ⟨rfl, ⟨ob, hob, hobc⟩, ?_⟩ hk hx x1.dbg)
  refine lands_againW hheld fun h₆ hfl₆ hsm₆ => ?_
  have F₆ := F.of_stays (flyingW_base hB hfl₆).1 hsm₆
  exact wpAny_passesOwnAt hE (k h₆ F₆ fun q hq => ⟨hfl₆.1 _ _ (hl q hq).1, (fun z => by have := (hl q hq).1; rw [z, hL] at this; cases this), (hl q hq).2⟩)
/-- the fall into the handlers: the rest by k -/
theorem caught_with {hs : List ExceptHandler} (K : PyProof.Rows.Below A₀ h₀ outer h₀) (F : Fr h₀ L h m) (hsm : h.UpToSlots s'.heap) (R : RaisedN h₀ (envOf name scope L a cd :: outer) e (.type X) news s'.heap)
    (k : ∀ h₅ B a0, Fr h₀ L h₅ m → h₀.StaysIn B → (∀ q ∈ news, B.get? q.1 = some q.2 ∧ h₀.get? q.1 = none) → B.get? L = none → Heap.FlyingW B (envOf name scope L a cd :: outer) e (.type X) a0 h₅ →
      wpAny (model prog w) (A₀.deeper (envOf name scope L a cd)) (handleBy (.ref e) (envOf name scope L a cd) hs) Q E { s' with heap := h₅ }) :
    wpAny (model prog w) (A₀.deeper (envOf name scope L a cd)) (noteFrame (.ref e) (envOf name scope L a cd))
      (fun _ s₂ => wpAny (model prog w) (A₀.deeper (envOf name scope L a cd)) (setFlight (.ref e) none) (fun _ s₃ =>
        wpAny (model prog w) (A₀.deeper (envOf name scope L a cd)) (handleBy (.ref e) (envOf name scope L a cd) hs) Q E s₃) E s₂) E s' := by
  obtain ⟨B, a0, hB, hl, hfl⟩ := R
  have hL : B.get? L = none := by
    obtain ⟨_, ⟨L', _, hf, hn', _⟩, _⟩ := hfl.2.2.1
    obtain rfl : L = L' := Option.some.inj hf
    exact hn'
  refine wpAny_looks_onW (Around.frames_deeper K.stack) rfl hfl fun h₄ hheld₄ hsm₄ => ?_
  refine wpAny_landsW hheld₄ fun h₅ hheld hsm₅' => ?_
  exact k h₅ B a0 (F.of_stays (flyingW_base hB hheld).1 (hsm.trans (hsm₄.trans hsm₅'))) hB hl hL hheld
variable {b1 b2 b3 : Stmt} {u1 u2 u3 : List Stmt} {p1 p2 p3 q1 q2 q3 : Pos}
theorem sub_kv : isSubtype (.type "KeyError") (.type "ValueError") = pure false := by rw [isSubtype_type]; kernel_rfl
theorem sub_ov : isSubtype (.type "OverflowError") (.type "ValueError") = pure false := by rw [isSubtype_type]; kernel_rfl
theorem sub_ok : isSubtype (.type "OverflowError") (.type "KeyError") = pure false := by rw [isSubtype_type]; kernel_rfl
theorem sub_vv : isSubtype (.type "ValueError") (.type "ValueError") = pure true := by rw [isSubtype_type]; kernel_rfl
theorem sub_kk : isSubtype (.type "KeyError") (.type "KeyError") = pure true := by rw [isSubtype_type]; kernel_rfl
theorem sub_oo : isSubtype (.type "OverflowError") (.type "OverflowError") = pure true := by rw [isSubtype_type]; kernel_rfl
theorem caught_v (K : PyProof.Rows.Below A₀ h₀ outer h₀) (F : Fr h₀ L h m) (hsm : h.UpToSlots s'.heap) (R : RaisedN h₀ (envOf name scope L a cd :: outer) e (.type "ValueError") news s'.heap)
    (T : PySem.W.TopRead p loose mg mb h₀) (XK : KK.In h₀) (v1 : nsIn KK mainGlobals (Str.ofString "ValueError") = some none)
    (k : ∀ h', Fr h₀ L h' m → News h₀ L h' news → wpAny (model prog w) ((A₀.deeper (envOf name scope L a cd)).mark (some (.ref e))) (execs (b1 :: u1) (envOf name scope L a cd)) Q E { s' with heap := h' })
    (hk : scope.kind = .function := by rfl) (hx1 : (envOf name scope L a cd).kindOf (Str.ofString "ValueError") = some .globalImplicit := by rfl)
    (hE : PassesOwnAt (model prog w) ((A₀.deeper (envOf name scope L a cd)).mark (some (.ref e))) (A₀.deeper (envOf name scope L a cd)) (envOf name scope L a cd) E := by passes_own) :
    wpAny (model prog w) (A₀.deeper (envOf name scope L a cd)) (noteFrame (.ref e) (envOf name scope L a cd))
      (fun _ s₂ => wpAny (model prog w) (A₀.deeper (envOf name scope L a cd)) (setFlight (.ref e) none) (fun _ s₃ =>
        wpAny (model prog w) (A₀.deeper (envOf name scope L a cd)) (handleBy (.ref e) (envOf name scope L a cd) (.ExceptHandler (some (.Name (Str.ofString "ValueError") q1)) none (b1 :: u1) p1 :: rest)) Q E s₃) E s₂) E s' :=
  caught_with K F hsm R fun h₅ B a0 F5 hB hl hL hh => handle_hit F5 T XK (exc_value v1) sub_vv hB hl hL hh hk hx1 k hE
theorem caught_k (K : PyProof.Rows.Below A₀ h₀ outer h₀) (F : Fr h₀ L h m) (hsm : h.UpToSlots s'.heap) (R : RaisedN h₀ (envOf name scope L a cd :: outer) e (.type "KeyError") news s'.heap)
    (T : PySem.W.TopRead p loose mg mb h₀) (XK : KK.In h₀) (v1 : nsIn KK mainGlobals (Str.ofString "ValueError") = some none) (v2 : nsIn KK mainGlobals (Str.ofString "KeyError") = some none)
    (k : ∀ h', Fr h₀ L h' m → News h₀ L h' news → wpAny (model prog w) ((A₀.deeper (envOf name scope L a cd)).mark (some (.ref e))) (execs (b2 :: u2) (envOf name scope L a cd)) Q E { s' with heap := h' })
    (hk : scope.kind = .function := by rfl) (hx1 : (envOf name scope L a cd).kindOf (Str.ofString "ValueError") = some .globalImplicit := by rfl) (hx2 : (envOf name scope L a cd).kindOf (Str.ofString "KeyError") = some .globalImplicit := by rfl)
    (hE : PassesOwnAt (model prog w) ((A₀.deeper (envOf name scope L a cd)).mark (some (.ref e))) (A₀.deeper (envOf name scope L a cd)) (envOf name scope L a cd) E := by passes_own) :
    wpAny (model prog w) (A₀.deeper (envOf name scope L a cd)) (noteFrame (.ref e) (envOf name scope L a cd))
      (fun _ s₂ => wpAny (model prog w) (A₀.deeper (envOf name scope L a cd)) (setFlight (.ref e) none) (fun _ s₃ =>
        wpAny (model prog w) (A₀.deeper (envOf name scope L a cd)) (handleBy (.ref e) (envOf name scope L a cd) (.ExceptHandler (some (.Name (Str.ofString "ValueError") q1)) none (b1 :: u1) p1 :: .ExceptHandler (some (.Name (Str.ofString "KeyError") q2)) none (b2 :: u2) p2 :: rest)) Q E s₃) E s₂) E s' :=
  caught_with K F hsm R fun h₅ B a0 F5 hB hl hL hh => handle_skip F5 T XK (exc_value v1) sub_kv hh.there hk hx1 (handle_hit F5 T XK (exc_key v2) sub_kk hB hl hL hh hk hx2 k hE)
theorem caught_o (K : PyProof.Rows.Below A₀ h₀ outer h₀) (F : Fr h₀ L h m) (hsm : h.UpToSlots s'.heap) (R : RaisedN h₀ (envOf name scope L a cd :: outer) e (.type "OverflowError") news s'.heap)
    (T : PySem.W.TopRead p loose mg mb h₀) (XK : KK.In h₀) (v1 : nsIn KK mainGlobals (Str.ofString "ValueError") = some none) (v2 : nsIn KK mainGlobals (Str.ofString "KeyError") = some none) (v3 : nsIn KK mainGlobals (Str.ofString "OverflowError") = some none)
    (k : ∀ h', Fr h₀ L h' m → News h₀ L h' news → wpAny (model prog w) ((A₀.deeper (envOf name scope L a cd)).mark (some (.ref e))) (execs (b3 :: u3) (envOf name scope L a cd)) Q E { s' with heap := h' })
    (hk : scope.kind = .function := by rfl) (hx1 : (envOf name scope L a cd).kindOf (Str.ofString "ValueError") = some .globalImplicit := by rfl) (hx2 : (envOf name scope L a cd).kindOf (Str.ofString "KeyError") = some .globalImplicit := by rfl) (hx3 : (envOf name scope L a cd).kindOf (Str.ofString "OverflowError") = some .globalImplicit := by rfl)
    (hE : PassesOwnAt (model prog w) ((A₀.deeper (envOf name scope L a cd)).mark (some (.ref e))) (A₀.deeper (envOf name scope L a cd)) (envOf name scope L a cd) E := by passes_own) :
    wpAny (model prog w) (A₀.deeper (envOf name scope L a cd)) (noteFrame (.ref e) (envOf name scope L a cd))
      (fun _ s₂ => wpAny (model prog w) (A₀.deeper (envOf name scope L a cd)) (setFlight (.ref e) none) (fun _ s₃ =>
        wpAny (model prog w) (A₀.deeper (envOf name scope L a cd)) (handleBy (.ref e) (envOf name scope L a cd) (.ExceptHandler (some (.Name (Str.ofString "ValueError") q1)) none (b1 :: u1) p1 :: .ExceptHandler (some (.Name (Str.ofString "KeyError") q2)) none (b2 :: u2) p2 :: .ExceptHandler (some (.Name (Str.ofString "OverflowError") q3)) none (b3 :: u3) p3 :: rest)) Q E s₃) E s₂) E s' :=
  caught_with K F hsm R fun h₅ B a0 F5 hB hl hL hh => handle_skip F5 T XK (exc_value v1) sub_ov hh.there hk hx1 (handle_skip F5 T XK (exc_key v2) sub_ok hh.there hk hx2 (handle_hit F5 T XK (exc_over v3) sub_oo hB hl hL hh hk hx3 k hE))
end
theorem cutE {α : Type} {M : Model} {A : Around} {T : Sem α} {Q : α → Shared → Prop} {E : Value → Shared → Prop} {s : Shared} (P : α → Shared → Prop) (h1 : wpAny M A T P E s) (h2 : ∀ v s', P v s' → Q v s') : wpAny M A T Q E s := wpAny_mono h1 h2 fun _ _ h => h
section
variable {prog : Program} {w : World} {A : Around} {E : Value → Shared → Prop} {s : Shared} {h₀ : Heap} {L : Addr} {m : Str → Option Value} {news : List (Addr × Obj)}
theorem row_slice {value slice : PySem.Expr} {l : Addr} {vs : List Value} {ns : List Int} {ops : List Value} {u : Tok} {Q : Value → Shared → Prop} (F : Fr h₀ L s.heap m) (N : News h₀ L s.heap news) (hl : s.heap.IsList l vs.toArray) (hi : IntsAre vs ns) (h11 : 11 ≤ ns.length) (hsz : ns.length ≤ sizeLine)
    (h : ∀ D ws ms h', IntsAre ws ms → ms.length = 11 → Fr h₀ L h' m → News h₀ L h' [(D, W.listOf ws.toArray 0)] → Q (.ref D) { s with heap := h' })
    (hs : subscripted slice false (.ref l) (.ref s.heap.objs.size) = operate ops (getItem (.ref l) (.ref s.heap.objs.size))) :
    wpAny (model prog w) A (subscriptTail value slice (.ref l) (.ref s.heap.objs.size)) Q E { s with heap := s.heap.push { cls := .type "slice", data := .fields #[.none, .int 11 u, .none] } } := by
  have hu := kmk_upto hi (y := 11) (by decide)
  refine tail_any (Heap.IsList.typeIs (s := { s with heap := s.heap.push { cls := .type "slice", data := .fields #[.none, .int 11 u, .none] } }) (hl.push _)) slot_list_getitem.lookup
    (wpAny_getItem_list_slice (hl.push _) (Heap.IsSliceOf.new ..) IsPart.none (IsPart.int _ _) IsPart.none (by decide) ?_ (by rw [List.size_toArray, hi.length]; exact hsz)) hs
  have N1 := News.push (F.push { cls := .type "slice", data := .fields #[.none, .int 11 u, .none] }) (N.grown fun _ _ e => Heap.get?_push_of_some _ e) { cls := .type "list", data := .seq (slicePick vs.toArray none (some 11) none) }
  rw [Heap.size_push] at N1
  show Q (.ref (s.heap.push _).objs.size) _
  rw [Heap.size_push]
  refine h _ _ _ _ hu ?_ ((F.push _).push _) ?_
  · rw [List.length_take]; exact Nat.min_eq_left h11
  · rw [Array.toArray_toList]
    exact fun p hp => by rcases List.mem_singleton.1 hp with rfl; exact N1 _ (.head _)
theorem row_item {value slice : PySem.Expr} {l : Addr} {ws : List Value} {ms : List Int} {k : Int} {u : Tok} {Q : Value → Shared → Prop} (hl : s.heap.IsList l ws.toArray) (hi : IntsAre ws ms) (h11 : ms.length = 11) (h0 : 0 ≤ k) (hk : k < 11)
    (h : ∀ n t, Q (.int n t) s) (hs : subscripted slice false (.ref l) (.int k u) = operate [.ref l, .int k u] (getItem (.ref l) (.int k u))) :
    wpAny (model prog w) A (subscriptTail value slice (.ref l) (.int k u)) Q E s := by
  have hlen := hi.length
  have hj : k.toNat < ws.length := by omega
  obtain ⟨n, t, e, _⟩ := hi.at k.toNat _ (List.getElem?_eq_getElem hj)
  exact tail_any hl.typeIs slot_list_getitem.lookup (wpAny_getItem_list (x := .int n t) hl h0 (by omega) (by simpa [List.getElem?_eq_getElem hj] using e) (h _ _)) hs
theorem unit_item {value slice : PySem.Expr} {t : Addr} {k : Int} {u t1 t2 t3 : Tok} {Q : Value → Shared → Prop} (ht : PyProof.Rows.IsTup s.heap t #[.str (Str.ofString "seconds") t1, .str (Str.ofString "milliseconds") t2, .str (Str.ofString "microseconds") t3])
    (h0 : 0 ≤ k) (hk : k < 3) (h : ∀ ut mu t, UnitOf ut mu → Q (.str ut t) s)
    (hs : subscripted slice false (.ref t) (.int k u) = operate [.ref t, .int k u] (getItem (.ref t) (.int k u))) :
    wpAny (model prog w) A (subscriptTail value slice (.ref t) (.int k u)) Q E s := by
  have e : k = 0 ∨ k = 1 ∨ k = 2 := by omega
  rcases e with e | e | e <;> subst e
  · exact item_tupleT (l := [_, _, _]) ht (by decide) (by decide) (j := 0) rfl rfl (h _ 2 _ (Or.inl ⟨rfl, rfl⟩)) hs
  · exact item_tupleT (l := [_, _, _]) ht (by decide) (by decide) (j := 1) rfl rfl (h _ 1 _ (Or.inr (Or.inl ⟨rfl, rfl⟩))) hs
  · exact item_tupleT (l := [_, _, _]) ht (by decide) (by decide) (j := 2) rfl rfl (h _ 0 _ (Or.inr (Or.inr ⟨rfl, rfl⟩))) hs
theorem word_item {value slice : PySem.Expr} {t : Addr} {k : Int} {u : Tok} {x0 x1 x2 x3 x4 x5 : Value} {Q : Value → Shared → Prop} (ht : PyProof.Rows.IsTup s.heap t #[x0, x1, x2, x3, x4, x5]) (h0 : 0 ≤ k) (hk : k < 6)
    (hs : subscripted slice false (.ref t) (.int k u) = operate [.ref t, .int k u] (getItem (.ref t) (.int k u))) (g0 : Q x0 s) (g1 : Q x1 s) (g2 : Q x2 s) (g3 : Q x3 s) (g4 : Q x4 s) (g5 : Q x5 s) : wpAny (model prog w) A (subscriptTail value slice (.ref t) (.int k u)) Q E s := by
  have e : k = 0 ∨ k = 1 ∨ k = 2 ∨ k = 3 ∨ k = 4 ∨ k = 5 := by omega
  rcases e with e | e | e | e | e | e <;> subst e
  · exact item_tupleT (l := [_, _, _, _, _, _]) ht (by decide) (by decide) (j := 0) rfl rfl g0 hs
  · exact item_tupleT (l := [_, _, _, _, _, _]) ht (by decide) (by decide) (j := 1) rfl rfl g1 hs
  · exact item_tupleT (l := [_, _, _, _, _, _]) ht (by decide) (by decide) (j := 2) rfl rfl g2 hs
  · exact item_tupleT (l := [_, _, _, _, _, _]) ht (by decide) (by decide) (j := 3) rfl rfl g3 hs
  · exact item_tupleT (l := [_, _, _, _, _, _]) ht (by decide) (by decide) (j := 4) rfl rfl g4 hs
  · exact item_tupleT (l := [_, _, _, _, _, _]) ht (by decide) (by decide) (j := 5) rfl rfl g5 hs
end
theorem powLit {prog : Program} {w : World} {A : Around} {E : Value → Shared → Prop} {s : Shared} (k c : Int) {t u : Tok} {Q : Value → Shared → Prop} (hk : 0 ≤ k) (hk2 : k ≤ 1000000) (e : (10 : Int) ^ k.toNat = c) (h : Q (.int c s.toks) { s with toks := s.toks + 1 }) :
    wpAny (model prog w) A (binaryOp .Pow (.int 10 t) (.int k u)) Q E s := by
  subst e; exact pow_int_small hk hk2 (by decide) h
section
variable {prog : Program} {w : World} {A : Around} {E : Value → Shared → Prop} {s : Shared}
theorem lit20 {z : String} (h : decide ((Str.ofString z).length ≤ 20) = true) : (Str.ofString z).length ≤ 20 := of_decide_eq_true h
theorem add_ndL {n mu : Int} {mo : Bool} {t u : Tok} {z : String} {Q : Value → Shared → Prop} (h0 : 0 ≤ n) (h1 : n < 200000000000000000) (hz : decide ((Str.ofString z).length ≤ 20) = true)
    (h : ∀ t' tk, Q (.str (ndText n mo mu ++ Str.ofString z) t') { s with toks := tk }) : wpAny (model prog w) A (binaryOp .Add (.str (ndText n mo mu) t) (.str (Str.ofString z) u)) Q E s :=
  PyProof.Rows.add_str h (by have := ndText_len (mo := mo) (mu := mu) h0 h1; have := lit20 hz; simp only [sizeLine_eq]; omega)
theorem add_ndI {n mu : Int} {mo : Bool} {t u : Tok} {c : Prop} {ic : Decidable c} {x z : String} {Q : Value → Shared → Prop} (h0 : 0 ≤ n) (h1 : n < 200000000000000000) (hx : decide ((Str.ofString x).length ≤ 20) = true) (hz : decide ((Str.ofString z).length ≤ 20) = true)
    (h : ∀ t' tk, Q (.str (ndText n mo mu ++ (if c then Str.ofString x else Str.ofString z)) t') { s with toks := tk }) : wpAny (model prog w) A (binaryOp .Add (.str (ndText n mo mu) t) (.str (if c then Str.ofString x else Str.ofString z) u)) Q E s :=
  PyProof.Rows.add_str h (by
    have := ndText_len (mo := mo) (mu := mu) h0 h1
    have := lit20 hz
    have := lit20 hx
    have : (if c then Str.ofString x else Str.ofString z).length ≤ 20 := by split <;> assumption
    simp only [sizeLine_eq]; omega)
theorem ite_strs {env : Env} {c : Prop} {ic : Decidable c} {a b : Str} {p q : Pos} {x1 x2 : Nat} {Q : Value → Shared → Prop}
    (h1 : ∀ Q' : Value → Shared → Prop, (∀ t tk, Q' (.str a t) { s with toks := tk }) → wpAny (model prog w) A (eval (.Constant (.str a) x1 p) env) Q' E s)
    (h2 : ∀ Q' : Value → Shared → Prop, (∀ t tk, Q' (.str b t) { s with toks := tk }) → wpAny (model prog w) A (eval (.Constant (.str b) x2 q) env) Q' E s)
    (h : ∀ t tk, Q (.str (if c then a else b) t) { s with toks := tk }) : if c then wpAny (model prog w) A (eval (.Constant (.str a) x1 p) env) Q E s else wpAny (model prog w) A (eval (.Constant (.str b) x2 q) env) Q E s := by
  split
  · next hc => exact h1 _ fun t tk => by have := h t tk; rw [if_pos hc] at this; exact this
  · next hc => exact h2 _ fun t tk => by have := h t tk; rw [if_neg hc] at this; exact this
end
theorem nt_lit {n mu : Int} {mo f : Bool} (h : (ndText n mo mu == Str.ofString "a moment") = true) : Str.ofString "now" = ntText n f mo mu := nt_now h rfl
theorem nt_if {n mu : Int} {mo d : Bool} (h : (ndText n mo mu == Str.ofString "a moment") = false) : ndText n mo mu ++ (if d = true then Str.ofString " from now" else Str.ofString " ago") = ntText n d mo mu := by
  cases d
  · rw [if_neg Bool.false_ne_true]; exact nt_ago rfl h rfl
  · rw [if_pos rfl]; exact nt_from rfl h rfl
theorem nt_f {n mu : Int} {mo : Bool} (h : (ndText n mo mu == Str.ofString "a moment") = false) : ndText n mo mu ++ Str.ofString " ago" = ntText n false mo mu := nt_ago rfl h rfl
theorem nt_eq {n n' mu : Int} {mo f f' : Bool} (h : n = n') (hf : f = f') : ntText n f mo mu = ntText n' f' mo mu := by rw [h, hf]
section
variable {prog : Program} {w : World} {A : Around} {E : Value → Shared → Prop} {s : Shared} {h₀ : Heap} {L : Addr} {m : Str → Option Value} {news : List (Addr × Obj)} {env : Env}
def KNow (h₀ : Heap) (L : Addr) (m : Str → Option Value) (news : List (Addr × Obj)) (s : Shared) (n mu : Int) (mo d : Bool) (Q' : Flow → Shared → Prop) : Prop :=
  ∀ v1 v2 t1 t2 h tk, v1 = ntText n false mo mu → v2 = ntText n d mo mu → Fr h₀ L h (fun y => if y = Str.ofString "ago" then some (.str v1 t1) else if y = Str.ofString "ahead" then some (.str v2 t2) else m y) → News h₀ L h news → Q' .next { s with heap := h, toks := tk }
theorem if_now {n mu : Int} {mo d : Bool} {ta tb : Tok} {st : Stmt} {Q : Flow → Shared → Prop}
    (_F : Fr h₀ L s.heap (fun y => if y = Str.ofString "ago" then some (.str (ndText n mo mu ++ Str.ofString " ago") ta) else if y = Str.ofString "ahead" then some (.str (ndText n mo mu ++ (if d = true then Str.ofString " from now" else Str.ofString " ago")) tb) else m y)) (_N : News h₀ L s.heap news)
    (main : ∀ Q', KNow h₀ L m news s n mu mo d Q' → wpAny (model prog w) A (exec st env) Q' E s)
    (tail : ∀ t1 t2 h tk, Fr h₀ L h (fun y => if y = Str.ofString "ago" then some (.str (ntText n false mo mu) t1) else if y = Str.ofString "ahead" then some (.str (ntText n d mo mu) t2) else m y) → News h₀ L h news → Q .next { s with heap := h, toks := tk }) :
    wpAny (model prog w) A (exec st env) Q E s :=
  main Q fun v1 v2 t1 t2 h tk e1 e2 F N => by subst e1; subst e2; exact tail t1 t2 h tk F N
theorem ne_same {x y : Str} {t u : Tok} {Q : Value → Shared → Prop} (e : x = y) (h : Q (.bool false) s) : wpAny (model prog w) A (compareOp .NotEq (.str x t) (.str y u)) Q E s := by
  subst e
  exact ne_str (by rw [show (x != x) = false by simp]; exact h)
theorem ite_ints {c : Prop} {ic : Decidable c} {p q p2 : Pos} {x1 x2 : Nat} {Q : Value → Shared → Prop}
    (h1 : ∀ Q' : Value → Shared → Prop, (∀ t tk, Q' (.int (-1) t) { s with toks := tk }) → wpAny (model prog w) A (eval (.UnaryOp .USub (.Constant (.int 1) x1 p) p2) env) Q' E s)
    (h2 : ∀ Q' : Value → Shared → Prop, (∀ t tk, Q' (.int 1 t) { s with toks := tk }) → wpAny (model prog w) A (eval (.Constant (.int 1) x2 q) env) Q' E s)
    (h : ∀ n t tk, n = 1 ∨ n = -1 → Q (.int n t) { s with toks := tk }) : if c then wpAny (model prog w) A (eval (.UnaryOp .USub (.Constant (.int 1) x1 p) p2) env) Q E s else wpAny (model prog w) A (eval (.Constant (.int 1) x2 q) env) Q E s := by
  split
  · exact h1 _ fun t tk => h _ t tk (Or.inr rfl)
  · exact h2 _ fun t tk => h _ t tk (Or.inl rfl)
theorem mulSg {a b : Int} {t u : Tok} {Q : Value → Shared → Prop} (hb : b = 1 ∨ b = -1) (h : ∀ p t tk, p = a ∨ p = -a → Q (.int p t) { s with toks := tk }) :
    wpAny (model prog w) A (binaryOp .Mult (.int a t) (.int b u)) Q E s := by
  refine PyProof.Rows.mul_int (h _ _ _ ?_) (.of_right (intBits_le_64 (by omega) (by omega)))
  rcases hb with e | e <;> subst e
  · exact Or.inl (by omega)
  · exact Or.inr (by omega)
def KSaid (h₀ : Heap) (L : Addr) (m : Str → Option Value) (news : List (Addr × Obj)) (s : Shared) (n mu : Int) (mo fl : Bool) (Q' : Value → Shared → Prop) : Prop :=
  ∀ v t h tk, v = ndText n mo mu ++ (if fl = true then Str.ofString " from now" else Str.ofString " ago") → Fr h₀ L h m → News h₀ L h news → Q' (.str v t) { s with heap := h, toks := tk }
theorem said_ite {n mu : Int} {mo fl : Bool} {ic : Decidable ((ndText n mo mu == Str.ofString "a moment") = true)} {x1 : Nat} {p pp : Pos} {l r : PySem.Expr} {o : Operator} {Q : Value → Shared → Prop} (F : Fr h₀ L s.heap m) (N : News h₀ L s.heap news) (_hfl : m (Str.ofString "flag") = some (.bool fl))
    (h1 : ∀ Q' : Value → Shared → Prop, (∀ t tk, Q' (.str (Str.ofString "now") t) { s with toks := tk }) → wpAny (model prog w) A (eval (.Constant (.str (Str.ofString "now")) x1 p) env) Q' E s)
    (main : ∀ Q', KSaid h₀ L m news s n mu mo fl Q' → wpAny (model prog w) A (eval (.BinOp l o r pp) env) Q' E s)
    (h : ∀ t h' tk, Fr h₀ L h' m → News h₀ L h' news → Q (.str (ntText n fl mo mu) t) { s with heap := h', toks := tk }) :
    if (ndText n mo mu == Str.ofString "a moment") = true then wpAny (model prog w) A (eval (.Constant (.str (Str.ofString "now")) x1 p) env) Q E s else wpAny (model prog w) A (eval (.BinOp l o r pp) env) Q E s := by
  split
  · next hc => exact h1 _ fun t tk => by rw [nt_lit (f := fl) hc]; exact h t s.heap tk F N
  · next hc => exact main Q fun v t h' tk e F N => by subst e; rw [nt_if (by simpa using hc)]; exact h t h' tk F N
def KOr (h₀ : Heap) (L : Addr) (m : Str → Option Value) (news : List (Addr × Obj)) (s : Shared) (Q' : Flow → Shared → Prop) : Prop :=
  ∀ h tk, Fr h₀ L h m → News h₀ L h news → Q' .next { s with heap := h, toks := tk }
theorem or_cut {o : PySem.BoolOp} {vs : List PySem.Expr} {p p2 : Pos} {b : List Stmt} {Q : Flow → Shared → Prop} (_F : Fr h₀ L s.heap m) (_N : News h₀ L s.heap news)
    (main : ∀ Q', KOr h₀ L m news s Q' → wpAny (model prog w) A (exec (.If (.BoolOp o vs p) b [] p2) env) Q' E s)
    (tail : ∀ h tk, Fr h₀ L h m → News h₀ L h news → Q .next { s with heap := h, toks := tk }) : wpAny (model prog w) A (exec (.If (.BoolOp o vs p) b [] p2) env) Q E s := main Q tail
theorem unit_sec {ut : Str} {mu : Int} (h : UnitOf ut mu) (e : (ut == Str.ofString "seconds") = true) : mu = 2 := by
  rcases h with ⟨h, h2⟩ | ⟨h, h2⟩ | ⟨h, h2⟩
  · exact h2
  · subst h; exact absurd e (by decide +kernel)
  · subst h; exact absurd e (by decide +kernel)
end
theorem gen_int {α : Type} {M : Model} {A : Around} {f : Value → Sem α} {v : Int} {t : Tok} {Q : α → Shared → Prop} {E : Value → Shared → Prop} {s : Shared} (h : ∀ t', wpAny M A (f (.int v t')) Q E s) : wpAny M A (f (.int v t)) Q E s := h t
theorem gen_str {α : Type} {M : Model} {A : Around} {f : Value → Sem α} {v : Str} {t : Tok} {Q : α → Shared → Prop} {E : Value → Shared → Prop} {s : Shared} (h : ∀ t', wpAny M A (f (.str v t')) Q E s) : wpAny M A (f (.str v t)) Q E s := h t
theorem fr_now {h₀ h : Heap} {L : Addr} {m : Str → Option Value} {a a' b b' : Option Value} (F : Fr h₀ L h (fun y => if y = Str.ofString "ahead" then b else if y = Str.ofString "ago" then a else if y = Str.ofString "ago" then a' else if y = Str.ofString "ahead" then b' else m y)) :
    Fr h₀ L h (fun y => if y = Str.ofString "ago" then a else if y = Str.ofString "ahead" then b else m y) := by
  have e : (fun y => if y = Str.ofString "ahead" then b else if y = Str.ofString "ago" then a else if y = Str.ofString "ago" then a' else if y = Str.ofString "ahead" then b' else m y) = fun y => if y = Str.ofString "ago" then a else if y = Str.ofString "ahead" then b else m y := by
    funext y
    by_cases h1 : y = Str.ofString "ahead"
    · subst h1
      rw [if_pos rfl, if_neg (by decide), if_pos rfl]
    · by_cases h2 : y = Str.ofString "ago"
      · subst h2
        rw [if_neg (by decide), if_pos rfl, if_pos rfl]
      · rw [if_neg h1, if_neg h2, if_neg h2, if_neg h1, if_neg h2, if_neg h1]
  rw [e] at F
  exact F
theorem KNow.end1 {h₀ : Heap} {L : Addr} {m : Str → Option Value} {news : List (Addr × Obj)} {s : Shared} {n mu : Int} {mo d : Bool} {Q' : Flow → Shared → Prop} {h : Heap} {tk : Nat} {t1 t2 : Tok} {a' b' : Option Value} (K : KNow h₀ L m news s n mu mo d Q')
    (e : (ndText n mo mu == Str.ofString "a moment") = true) (F : Fr h₀ L h (fun y => if y = Str.ofString "ahead" then some (.str (Str.ofString "now") t2) else if y = Str.ofString "ago" then some (.str (Str.ofString "now") t1) else if y = Str.ofString "ago" then a' else if y = Str.ofString "ahead" then b' else m y)) (N : News h₀ L h news) :
    Q' .next { s with heap := h, toks := tk } := K _ _ _ _ _ _ (nt_lit e) (nt_lit e) (fr_now F) N
theorem KNow.end2 {h₀ : Heap} {L : Addr} {m : Str → Option Value} {news : List (Addr × Obj)} {s : Shared} {n mu : Int} {mo d : Bool} {Q' : Flow → Shared → Prop} {h : Heap} {tk : Nat} {t1 t2 : Tok} (K : KNow h₀ L m news s n mu mo d Q')
    (e : (ndText n mo mu == Str.ofString "a moment") = false) (F : Fr h₀ L h (fun y => if y = Str.ofString "ago" then some (.str (ndText n mo mu ++ Str.ofString " ago") t1) else if y = Str.ofString "ahead" then some (.str (ndText n mo mu ++ (if d = true then Str.ofString " from now" else Str.ofString " ago")) t2) else m y)) (N : News h₀ L h news) :
    Q' .next { s with heap := h, toks := tk } := K _ _ _ _ _ _ (nt_f e) (nt_if e) F N
theorem nt_eq4 {n n' mu : Int} {mo f : Bool} (h : n = n') (hmo : mo = true) (hmu : mu = 2) : ntText n f true 2 = ntText n' f mo mu := by rw [h, hmo, hmu]
/-- what the loop over k leaves: its own names are anything -/
def loopNames : List Str := [Str.ofString "k", Str.ofString "span", Str.ofString "words", Str.ofString "ago", Str.ofString "ahead", Str.ofString "before", Str.ofString "said", Str.ofString "number"]
section
variable {prog : Program} {w : World} {A : Around} {E : Value → Shared → Prop} {s : Shared} {h₀ : Heap} {L : Addr} {m : Str → Option Value} {news : List (Addr × Obj)} {env : Env}
def KFor (h₀ : Heap) (L : Addr) (m : Str → Option Value) (news : List (Addr × Obj)) (s : Shared) (Q' : Flow → Shared → Prop) : Prop :=
  ∀ m' h tk, (∀ y, loopNames.contains y = false → m' y = m y) → Fr h₀ L h m' → News h₀ L h news → Q' .next { s with heap := h, toks := tk }
theorem for_cut {st : Stmt} {Q : Flow → Shared → Prop} (_F : Fr h₀ L s.heap m) (_N : News h₀ L s.heap news)
    (main : ∀ Q', KFor h₀ L m news s Q' → wpAny (model prog w) A (exec st env) Q' E s)
    (tail : ∀ (u : Str → Option Value) h tk, Fr h₀ L h (fun y => if loopNames.contains y then u y else m y) → News h₀ L h news → Q .next { s with heap := h, toks := tk }) : wpAny (model prog w) A (exec st env) Q E s :=
  main Q fun m' h tk e F N => by
    refine tail m' h tk ?_ N
    have e' : (fun y => if loopNames.contains y then m' y else m y) = m' := by
      funext y
      cases hy : loopNames.contains y with
      | true => rw [if_pos rfl]
      | false => rw [if_neg Bool.false_ne_true]; exact (e y hy).symm
    rw [e']
    exact F
end
section
variable {prog : Program} {w : World} {A : Around} {E : Value → Shared → Prop} {s : Shared} {h₀ : Heap} {L : Addr} {m : Str → Option Value} {news : List (Addr × Obj)} {env : Env}
/-- behind the word: its name is anything, the ledger is as before -/
def KWord (prog : Program) (w : World) (A : Around) (E : Value → Shared → Prop) (s : Shared) (h₀ : Heap) (L : Addr) (m : Str → Option Value) (news : List (Addr × Obj)) (env : Env) (rest : List Stmt) (Q : Flow → Shared → Prop) : Prop :=
  ∀ v h tk, Fr h₀ L h (fun y => if y = Str.ofString "word" then some v else m y) → News h₀ L h news → wpAny (model prog w) A (execs rest env) Q E { s with heap := h, toks := tk }
theorem word_cut {a b : Stmt} {rest : List Stmt} {Q : Flow → Shared → Prop} (_F : Fr h₀ L s.heap m) (_N : News h₀ L s.heap news)
    (main : KWord prog w A E s h₀ L m news env rest Q → wpAny (model prog w) A (execs (a :: b :: rest) env) Q E s) (tail : KWord prog w A E s h₀ L m news env rest Q) : wpAny (model prog w) A (execs (a :: b :: rest) env) Q E s := main tail
theorem KWord.go {rest : List Stmt} {Q : Flow → Shared → Prop} {v : Value} {h : Heap} {tk : Nat} (K : KWord prog w A E s h₀ L m news env rest Q) (F : Fr h₀ L h (fun y => if y = Str.ofString "word" then some v else m y)) (N : News h₀ L h news) :
    wpAny (model prog w) A (execs rest env) Q E { s with heap := h, toks := tk } := K v h tk F N
end
section
variable {s : Shared} {h₀ : Heap} {L : Addr} {m : Str → Option Value} {news : List (Addr × Obj)}
theorem KOr.go {Q' : Flow → Shared → Prop} {h : Heap} {tk : Nat} (K : KOr h₀ L m news s Q') (F : Fr h₀ L h m) (N : News h₀ L h news) : Q' .next { s with heap := h, toks := tk } := K h tk F N
theorem KSaid.go {n mu : Int} {mo fl : Bool} {Q' : Value → Shared → Prop} {t : Tok} {h : Heap} {tk : Nat} (K : KSaid h₀ L m news s n mu mo fl Q') (F : Fr h₀ L h m) (N : News h₀ L h news) :
    Q' (.str (ndText n mo mu ++ (if fl = true then Str.ofString " from now" else Str.ofString " ago")) t) { s with heap := h, toks := tk } := K _ t h tk rfl F N
theorem KFor.go {m' : Str → Option Value} {Q' : Flow → Shared → Prop} {h : Heap} {tk : Nat} (K : KFor h₀ L m news s Q') (F : Fr h₀ L h m') (N : News h₀ L h news) (e : ∀ y, loopNames.contains y = false → m' y = m y) : Q' .next { s with heap := h, toks := tk } := K m' h tk e F N
theorem off_name {y x : Str} (hy : loopNames.contains y = false) (hx : loopNames.contains x = true) : ¬ y = x := fun e => by rw [e, hx] at hy; exact nomatch hy
end
theorem stm_cut {prog : Program} {w : World} {A : Around} {E : Value → Shared → Prop} {s : Shared} {h₀ : Heap} {L : Addr} {m : Str → Option Value} {news : List (Addr × Obj)} {env : Env} {st : Stmt} {Q : Flow → Shared → Prop} (_F : Fr h₀ L s.heap m) (_N : News h₀ L s.heap news)
    (main : ∀ Q', KOr h₀ L m news s Q' → wpAny (model prog w) A (exec st env) Q' E s)
    (tail : ∀ h tk, Fr h₀ L h m → News h₀ L h news → Q .next { s with heap := h, toks := tk }) : wpAny (model prog w) A (exec st env) Q E s := main Q tail
theorem AllObj.imp : ∀ {ws : List (Addr × String)} {k k' : List (Addr × Obj) → Prop}, AllObj ws k → (∀ its, k its → k' its) → AllObj ws k'
  | [], _, _, h, f => f _ h
  | _ :: _, _, _, h, f => fun o ho => AllObj.imp (h o ho) fun its => f _
section
variable {prog : Program} {w : World} {A : Around} {E : Value → Shared → Prop} {h₀ : Heap} {env : Env} {target : PySem.Expr} {body : List Stmt} {Q : Flow → Shared → Prop} {s : Shared} {ws : List (Addr × String)} {keep : List (Addr × Obj)}
theorem items_sub : ∀ {r : List Itm} {m : Str → Option Value} {news n' : List (Addr × Obj)}, (∀ p ∈ news, p ∈ n') → ItemsRest prog w A E h₀ env target body Q s ws keep r m news → ItemsRest prog w A E h₀ env target body Q s ws keep r m n'
  | [], _, _, _, hs, h => fun h' tk F N => h h' tk F fun p hp => N p (hs p hp)
  | _ :: _, _, _, _, hs, h => fun v h' tk hv F => AllObj.imp (h v h' tk hv F) fun its k N => k fun p hp => N p (by
      rcases List.mem_append.1 hp with q | q
      · exact List.mem_append_left _ q
      · exact List.mem_append_right _ (hs p q))
/-- what is left behind a turn: the loop's names are anything -/
def KRest (prog : Program) (w : World) (A : Around) (E : Value → Shared → Prop) (h₀ : Heap) (env : Env) (target : PySem.Expr) (body : List Stmt) (Q : Flow → Shared → Prop) (s : Shared) (ws : List (Addr × String)) (keep : List (Addr × Obj)) (r : List Itm) (m : Str → Option Value) (news : List (Addr × Obj)) : Prop :=
  ∀ m', (∀ y, loopNames.contains y = false → m' y = m y) → ItemsRest prog w A E h₀ env target body Q s ws keep r m' news
theorem fr_loop {m m' : Str → Option Value} (e : ∀ y, loopNames.contains y = false → m' y = m y) : m' = fun y => if loopNames.contains y then m' y else m y := by
  funext y
  cases hy : loopNames.contains y with
  | true => rw [if_pos rfl]
  | false => rw [if_neg Bool.false_ne_true]; exact e y hy
theorem two_turns {n1 n2 : Int} {t1 t2 : Tok} {m : Str → Option Value} {news : List (Addr × Obj)} (h1 : n1 = 2 ∨ n1 = 5) (h2 : n2 = 2 ∨ n2 = 5)
    (turn : ∀ (k : Int) (t : Tok) (r : List Itm) (u : Str → Option Value), 2 ≤ k → k ≤ 5 → KRest prog w A E h₀ env target body Q s ws keep r m news →
      ItemsRest prog w A E h₀ env target body Q s ws keep (.val (.int k t) :: r) (fun y => if loopNames.contains y then u y else m y) news)
    (fin : ∀ u : Str → Option Value, ItemsRest prog w A E h₀ env target body Q s ws keep [] (fun y => if loopNames.contains y then u y else m y) news) :
    ItemsRest prog w A E h₀ env target body Q s ws keep (List.map Itm.val [.int n1 t1, .int n2 t2]) m news := by
  have e0 : m = fun y => if loopNames.contains y then m y else m y := fr_loop fun _ _ => rfl
  have k2 : KRest prog w A E h₀ env target body Q s ws keep [.val (.int n2 t2)] m news := fun m' e => by
    rw [fr_loop e]
    exact turn n2 t2 [] m' (by omega) (by omega) fun m'' e' => by rw [fr_loop e']; exact fin m''
  have := turn n1 t1 [.val (.int n2 t2)] m (by omega) (by omega) k2
  rw [← e0] at this
  exact this
theorem KRest.go {r : List Itm} {m m' : Str → Option Value} {news n' : List (Addr × Obj)} (K : KRest prog w A E h₀ env target body Q s ws keep r m news) (hs : ∀ p ∈ news, p ∈ n') (e : ∀ y, loopNames.contains y = false → m' y = m y) :
    ItemsRest prog w A E h₀ env target body Q s ws keep r m' n' := items_sub hs (K m' e)
end
local macro_rules | `(tactic| walk_at "subscriptTail") => `(tactic| (k_here; (with_reducible show wpAny _ _ (subscriptTail _ (PySem.Expr.Slice _ _ none _) (Value.ref _) (Value.ref _)) _ _ _); k_dflt (refine' row_slice ?zF ?zN ?zl ?zi ?zh ?zz ?_ ?zs; (case zF => k_asm); (case zN => k_asm); (case zl => kmk_list); (case zi => l_ints); (case zh => rw [List.length_append]; exact Nat.le_add_left 11 _); (case zz => rw [List.length_append]; (show _ + 11 ≤ _); simp only [sizeLine_eq]; omega); (case zs => with_unfolding_all rfl); k_whole); intro D' ws' ms' h' i' l11' F' N'; (try k_sweep); (try dsimp only); (try k_fold)))
local macro_rules | `(tactic| walk_at "subscriptTail") => `(tactic| (k_here; (with_reducible show wpAny _ _ (subscriptTail _ _ (Value.ref _) (Value.int _ _)) _ _ _); k_dflt (refine' row_item ?zl ?zi ?zh ?z0 ?z1 ?_ ?zs; (case zl => exact News.isList (by k_asm) (by k_mem)); (case zi => assumption); (case zh => assumption); (case z0 => decide); (case z1 => decide); (case zs => with_unfolding_all rfl); k_whole); intro n' t'))
local macro_rules | `(tactic| walk_at "subscriptTail") => `(tactic| (k_here; (with_reducible show wpAny _ _ (subscriptTail (PySem.Expr.Tuple _ _ _) _ (Value.ref _) (Value.int _ _)) _ _ _); k_dflt (refine' unit_item ?zl ?z0 ?z1 ?_ ?zs; (case zl => exact News.isTup (by k_asm) (by k_mem)); (case z0 => omega); (case z1 => omega); (case zs => with_unfolding_all rfl); k_whole); intro ut' mu' t' hU'))
local macro_rules | `(tactic| walk_at "binaryOp Pow int int") => `(tactic| (first | (with_reducible refine powLit 6 1000000 (by decide) (by decide) rfl ?_) | (with_reducible refine powLit 16 10000000000000000 (by decide) (by decide) rfl ?_) | (with_reducible refine powLit 9 1000000000 (by decide) (by decide) rfl ?_)))
local macro_rules | `(tactic| walk_at "binaryOp Mult int int") => `(tactic| (first | (with_reducible refine mulLit 20000000000000000 (by decide) (.of_right (by decide)) ?_)))
local macro_rules | `(tactic| walk_at "binaryOp Add str str") => `(tactic| (first | (with_reducible refine add_ndL ?a0 ?a1 ?a2 ?_; (case a0 => omega); (case a1 => omega); (case a2 => decide +kernel); intro _ _) | (with_reducible refine add_ndI ?a0 ?a1 ?a2 ?a3 ?_; (case a0 => omega); (case a1 => omega); (case a2 => decide +kernel); (case a3 => decide +kernel); intro _ _)))
local macro_rules | `(tactic| walk_at "ite") => `(tactic| (k_openite; (with_reducible refine ite_strs ?c1 ?c2 ?_); (case c1 => intro Q' hQ; walk1; exact hQ _ _); (case c2 => intro Q' hQ; walk1; exact hQ _ _); intro t' tk'))
local macro_rules | `(tactic| walk_at "exec If Compare cons nil") => `(tactic| ((fail_if_success (rename KNow _ _ _ _ _ _ _ _ _ _ => kq)); k_here; (with_reducible show wpAny _ _ (exec (Stmt.If (PySem.Expr.Compare (PySem.Expr.Name _ _) _ _ _) _ _ _) _) _ _ _); (with_reducible refine' if_now ?zF ?zN ?_ ?_); (case zF => rename Fr _ _ _ _ => kF9; with_reducible exact kF9); (case zN => k_asm); intro Q' hQ; rotate_left 1; intro t1' t2' h' tk' F' N'; (try k_sweep); (try dsimp only); (try k_fold); rotate_left 1))
local macro_rules | `(tactic| walk_at "exec If BoolOp cons nil") => `(tactic| ((fail_if_success (rename KOr _ _ _ _ _ _ => kq)); k_here; (with_reducible refine' or_cut ?zF ?zN ?_ ?_); (case zF => k_asm); (case zN => k_asm); intro Q' hQ; rotate_left 1; intro h' tk' F' N'; (try k_sweep); (try dsimp only); (try k_fold); rotate_left 1))
local macro_rules | `(tactic| walk_at "compareOp NotEq str str") => `(tactic| ((with_reducible refine ne_same ?ze ?_); (case ze => first | (with_reducible rfl) | (with_reducible refine' nt_eq4 ?za ?zb ?zc; (case za => omega); (case zb => first | (with_reducible assumption) | exact beq_iff_eq.2 (by with_reducible assumption)); (case zc => exact unit_sec (by with_reducible assumption) (by with_reducible assumption))) | (with_reducible refine' nt_eq ?za ?zb; (case za => omega); (case zb => first | (with_reducible rfl) | exact decide_eq_false (by omega) | exact decide_eq_decide.2 ⟨fun _ => by omega, fun _ => by omega⟩)))))
local macro_rules | `(tactic| walk_at "ite") => `(tactic| (k_openite; (with_reducible refine' ite_ints ?c1 ?c2 ?_); (case c1 => intro Q' hQ; walk1; walk1; walk1; exact hQ _ _); (case c2 => intro Q' hQ; walk1; exact hQ _ _); intro n' t' tk' hn'))
local macro_rules | `(tactic| walk_at "ite") => `(tactic| (k_openite; (with_reducible refine' said_ite ?zF ?zN ?zfl ?c1 ?_ ?_); (case zF => k_asm); (case zN => k_asm); (case zfl => with_unfolding_all rfl); (case c1 => intro Q' hQ; walk1; exact hQ _ _); intro Q' hQ; rotate_left 1; intro t' h' tk' F' N'; (try k_sweep); (try dsimp only); (try k_fold); rotate_left 1))
local macro_rules | `(tactic| walk_at "binaryOp Mult int int") => `(tactic| ((with_reducible refine mulSg ?zb ?_); (case zb => assumption); intro p' t' tk' hp'))
local macro_rules | `(tactic| walk_at "storeName int") => `(tactic| ((with_reducible refine gen_int (f := storeName _ _) ?_); intro t'; walk_at "storeName"))
local macro_rules | `(tactic| walk_at "storeName str") => `(tactic| ((with_reducible refine gen_str (f := storeName _ _) ?_); intro t'; walk_at "storeName"))
local macro_rules | `(tactic| walk_at "exec For Name Tuple cons nil") => `(tactic| ((fail_if_success (rename KFor _ _ _ _ _ _ => kq)); k_here; (with_reducible refine' for_cut ?zF ?zN ?_ ?_); (case zF => k_asm); (case zN => k_asm); intro Q' hQ; rotate_left 1; intro u' h' tk' F' N'; (try k_sweep); (try dsimp only); (try k_fold); rotate_left 1))
local macro_rules | `(tactic| walk_at "call ref") => `(tactic| (k_here; (with_reducible show wpAny _ _ (call (Value.ref 343) _ _) _ _ _); k_dflt (show wpAny _ _ (call (Value.ref 343) [Value.int _ _, Value.int _ _, Value.int _ _]) _ _ _); k_dflt (refine' span_call ?k1 ?k2 ?k3 ?k4 ?k5 ?kd ?ku  ?_; (case k1 => k_asm); (case k2 => k_asm); (case k3 => k_asm); (case k4 => k_asm); (case k5 => k_asm);  (case kd => k_room); (case ku => ktr_units); k_whole); intro sp' t' h' tk' sp0' sp1' F' N'; (try k_sweep); (try dsimp only); (try k_fold)))
local macro_rules | `(tactic| walk_at "call ref") => `(tactic| (k_here; (with_reducible show wpAny _ _ (call (Value.ref 336) _ _) _ _ _); k_dflt (show wpAny _ _ (call (Value.ref 336) [Value.ref _, Value.bool _, Value.bool _, Value.str _ _, Value.ref _]) _ _ _); k_dflt (refine' nt_over ?k1 ?k2 ?k3 ?k4 ?k5 ?kd ?ku ?p0 ?p1 ?p2 ?p3 ?p4 ?p5 ?p6 ?p7 ?p8 ?_; (case k1 => k_asm); (case k2 => k_asm); (case k3 => k_asm); (case k4 => k_asm); (case k5 => k_asm); (case p0 => k_mem); (case p1 => k_mem); (case p2 => k_mem); (case p3 => k_mem); (case p4 => first | omega | assumption); (case p5 => first | omega | assumption); (case p6 => first | omega | assumption); (case p7 => first | omega | assumption); (case p8 => first | omega | assumption); (case kd => k_room); (case ku => ktr_units); k_whole); intro e' G' h' tk' FG' U' R'; (try dsimp only); (try k_fold)))
local macro_rules | `(tactic| walk_at "call ref") => `(tactic| (k_here; (with_reducible show wpAny _ _ (call (Value.ref 336) _ _) _ _ _); k_dflt (show wpAny _ _ (call (Value.ref 336) [Value.ref _, Value.bool _, Value.bool _, Value.str (Str.ofString "days") _, Value.ref _]) _ _ _); k_dflt (refine' nt_days ?k1 ?k2 ?k3 ?k4 ?k5 ?kd ?ku ?p0 ?p1 ?p2 ?p3 ?p4 ?p5 ?p6 ?p7 ?p8 ?p9 ?_; (case k1 => k_asm); (case k2 => k_asm); (case k3 => k_asm); (case k4 => k_asm); (case k5 => k_asm); (case p0 => k_mem); (case p1 => k_mem); (case p2 => k_mem); (case p3 => k_mem); (case p4 => first | omega | assumption); (case p5 => first | omega | assumption); (case p6 => first | omega | assumption); (case p7 => first | omega | assumption); (case p8 => first | omega | assumption); (case p9 => first | omega | assumption); (case kd => k_room); (case ku => ktr_units); k_whole); intro e' G' h' tk' FG' U' R'; (try dsimp only); (try k_fold)))
local macro_rules | `(tactic| walk_at "call ref") => `(tactic| (k_here; (with_reducible show wpAny _ _ (call (Value.ref 336) _ _) _ _ _); k_dflt (show wpAny _ _ (call (Value.ref 336) [Value.int _ _, Value.bool _, Value.bool _, Value.str (Str.ofString "weeks") _]) _ _ _); k_dflt (refine' nt_weeks ?k1 ?k2 ?k3 ?k4 ?k5 ?kd ?ku ?p0 ?p1 ?_; (case k1 => k_asm); (case k2 => k_asm); (case k3 => k_asm); (case k4 => k_asm); (case k5 => k_asm); (case p0 => first | omega | assumption); (case p1 => first | omega | assumption); (case kd => k_room); (case ku => ktr_units); k_whole); intro e' G' h' tk' FG' U' R'; (try dsimp only); (try k_fold)))
local macro_rules | `(tactic| walk_at "call ref") => `(tactic| (k_here; (with_reducible show wpAny _ _ (call (Value.ref 336) _ _) _ _ _); k_dflt (show wpAny _ _ (call (Value.ref 336) [Value.none, Value.bool _, Value.bool _, Value.str _ _, Value.ref _]) _ _ _); k_dflt (refine' nt_none ?k1 ?k2 ?k3 ?k4 ?k5 ?kd ?ku ?p0 ?p1 ?p2 ?p3 ?p4 ?_; (case k1 => k_asm); (case k2 => k_asm); (case k3 => k_asm); (case k4 => k_asm); (case k5 => k_asm); (case p0 => first | (with_reducible assumption) | with_reducible exact unit_s); (case p1 => k_mem); (case p2 => k_mem); (case p3 => first | omega | assumption); (case p4 => first | omega | assumption); (case kd => k_room); (case ku => ktr_units); k_whole); intro t' h' tk' F' N'; (try k_sweep); (try dsimp only); (try k_fold)))
local macro_rules | `(tactic| walk_at "call ref") => `(tactic| (k_here; (with_reducible show wpAny _ _ (call (Value.ref 336) _ _) _ _ _); k_dflt (show wpAny _ _ (call (Value.ref 336) [Value.str _ _, Value.bool _, Value.bool _, Value.str _ _, Value.ref _]) _ _ _); k_dflt (refine' nt_str ?k1 ?k2 ?k3 ?k4 ?k5 ?kd ?ku ?p0 ?p1 ?p2 ?p3 ?p4 ?_; (case k1 => k_asm); (case k2 => k_asm); (case k3 => k_asm); (case k4 => k_asm); (case k5 => k_asm); (case p0 => first | (with_reducible assumption) | with_reducible exact unit_s); (case p1 => k_mem); (case p2 => k_mem); (case p3 => first | omega | assumption); (case p4 => first | omega | assumption); (case kd => k_room); (case ku => ktr_units); k_whole); intro t' h' tk' F' N'; (try k_sweep); (try dsimp only); (try k_fold)))
local macro_rules | `(tactic| walk_at "call ref") => `(tactic| (k_here; (with_reducible show wpAny _ _ (call (Value.ref 336) _ _) _ _ _); k_dflt (show wpAny _ _ (call (Value.ref 336) [Value.ref _, Value.bool _, Value.bool _, Value.str _ _, Value.ref _]) _ _ _); k_dflt (refine' nt_tup ?k1 ?k2 ?k3 ?k4 ?k5 ?kd ?ku ?p0 ?p1 ?p2 ?p3 ?p4 ?p5 ?_; (case k1 => k_asm); (case k2 => k_asm); (case k3 => k_asm); (case k4 => k_asm); (case k5 => k_asm); (case p0 => first | (with_reducible assumption) | with_reducible exact unit_s); (case p1 => k_mem); (case p2 => k_mem); (case p3 => k_mem); (case p4 => first | omega | assumption); (case p5 => first | omega | assumption); (case kd => k_room); (case ku => ktr_units); k_whole); intro t' h' tk' F' N'; (try k_sweep); (try dsimp only); (try k_fold)))
local macro_rules | `(tactic| walk_at "call ref") => `(tactic| (k_here; (with_reducible show wpAny _ _ (call (Value.ref 336) _ _) _ _ _); k_dflt (show wpAny _ _ (call (Value.ref 336) [Value.ref _, Value.bool _, Value.bool _, Value.str _ _, Value.ref _]) _ _ _); k_dflt (refine' nt_list ?k1 ?k2 ?k3 ?k4 ?k5 ?kd ?ku ?p0 ?p1 ?p2 ?p3 ?p4 ?p5 ?_; (case k1 => k_asm); (case k2 => k_asm); (case k3 => k_asm); (case k4 => k_asm); (case k5 => k_asm); (case p0 => first | (with_reducible assumption) | with_reducible exact unit_s); (case p1 => k_mem); (case p2 => k_mem); (case p3 => k_mem); (case p4 => first | omega | assumption); (case p5 => first | omega | assumption); (case kd => k_room); (case ku => ktr_units); k_whole); intro t' h' tk' F' N'; (try k_sweep); (try dsimp only); (try k_fold)))
local macro_rules | `(tactic| walk_at "call ref") => `(tactic| (k_here; (with_reducible show wpAny _ _ (call (Value.ref 336) _ _) _ _ _); k_dflt (show wpAny _ _ (call (Value.ref 336) [Value.int _ _, Value.bool _, Value.bool _, Value.str _ _, Value.ref _]) _ _ _); k_dflt (refine' nt_int ?k1 ?k2 ?k3 ?k4 ?k5 ?kd ?ku ?p0 ?p1 ?p2 ?p3 ?p4 ?p5 ?p6 ?p7 ?p8 ?_; (case k1 => k_asm); (case k2 => k_asm); (case k3 => k_asm); (case k4 => k_asm); (case k5 => k_asm); (case p0 => first | (with_reducible assumption) | with_reducible exact unit_s); (case p1 => k_mem); (case p2 => k_mem); (case p3 => first | omega | assumption); (case p4 => first | omega | assumption); (case p5 => first | omega | assumption); (case p6 => first | omega | assumption); (case p7 => first | omega | assumption); (case p8 => first | omega | assumption); (case kd => k_room); (case ku => ktr_units); k_whole); intro t' h' tk' F' N'; (try k_sweep); (try dsimp only); (try k_fold)))
local macro_rules | `(tactic| walk_at "call ref") => `(tactic| (k_here; (with_reducible show wpAny _ _ (call (Value.ref 336) _ _) _ _ _); k_dflt (show wpAny _ _ (call (Value.ref 336) [Value.ref _, Value.bool _, Value.bool _, Value.str _ _, Value.ref _]) _ _ _); k_dflt (refine' nt_dt ?k1 ?k2 ?k3 ?k4 ?k5 ?kd ?ku ?p0 ?p1 ?p2 ?p3 ?p4 ?p5 ?p6 ?p7 ?p8 ?p9 ?p10 ?_; (case k1 => k_asm); (case k2 => k_asm); (case k3 => k_asm); (case k4 => k_asm); (case k5 => k_asm); (case p0 => first | (with_reducible assumption) | with_reducible exact unit_s); (case p1 => k_mem); (case p2 => k_mem); (case p3 => k_mem); (case p4 => k_mem); (case p5 => first | omega | assumption); (case p6 => first | omega | assumption); (case p7 => first | omega | assumption); (case p8 => first | omega | assumption); (case p9 => first | omega | assumption); (case p10 => first | omega | assumption); (case kd => k_room); (case ku => ktr_units); k_whole); intro t' h' tk' F' N'; (try k_sweep); (try dsimp only); (try k_fold)))
local macro_rules | `(tactic| walk_at "call ref") => `(tactic| (k_here; (with_reducible show wpAny _ _ (call (Value.ref 336) _ _) _ _ _); k_dflt (show wpAny _ _ (call (Value.ref 336) [Value.ref _, Value.bool _, Value.bool _, Value.str _ _, Value.ref _]) _ _ _); k_dflt (refine' nt_td ?k1 ?k2 ?k3 ?k4 ?k5 ?kd ?ku ?p0 ?p1 ?p2 ?p3 ?p4 ?p5 ?p6 ?p7 ?p8 ?p9 ?p10 ?_; (case k1 => k_asm); (case k2 => k_asm); (case k3 => k_asm); (case k4 => k_asm); (case k5 => k_asm); (case p0 => first | (with_reducible assumption) | with_reducible exact unit_s); (case p1 => k_mem); (case p2 => k_mem); (case p3 => k_mem); (case p4 => k_mem); (case p5 => first | omega | assumption); (case p6 => first | omega | assumption); (case p7 => first | omega | assumption); (case p8 => first | omega | assumption); (case p9 => first | omega | assumption); (case p10 => first | omega | assumption); (case kd => k_room); (case ku => ktr_units); k_whole); intro t' h' tk' F' N'; (try k_sweep); (try dsimp only); (try k_fold)))
local macro_rules | `(tactic| walk_at "call ref") => `(tactic| (k_here; (with_reducible show wpAny _ _ (call (Value.ref 336) _ _) _ _ _); k_dflt (show wpAny _ _ (call (Value.ref 336) [Value.ref _, Value.bool _, Value.bool _, Value.str _ _]) _ _ _); k_dflt (refine' nt_dt0 ?k1 ?k2 ?k3 ?k4 ?k5 ?kd ?ku ?p0 ?p1 ?p2 ?p3 ?p4 ?p5 ?p6 ?_; (case k1 => k_asm); (case k2 => k_asm); (case k3 => k_asm); (case k4 => k_asm); (case k5 => k_asm); (case p0 => first | (with_reducible assumption) | with_reducible exact unit_s); (case p1 => k_mem); (case p2 => k_mem); (case p3 => first | omega | assumption); (case p4 => first | omega | assumption); (case p5 => first | omega | assumption); (case p6 => first | omega | assumption); (case kd => k_room); (case ku => ktr_units); k_whole); intro t' h' tk' F' N'; (try k_sweep); (try dsimp only); (try k_fold)))
local macro_rules | `(tactic| walk_at "call ref") => `(tactic| (k_here; (with_reducible show wpAny _ _ (call (Value.ref 336) _ _) _ _ _); k_dflt (show wpAny _ _ (call (Value.ref 336) [Value.ref _, Value.bool _, Value.bool _, Value.str _ _]) _ _ _); k_dflt (refine' nt_td0 ?k1 ?k2 ?k3 ?k4 ?k5 ?kd ?ku ?p0 ?p1 ?p2 ?p3 ?p4 ?p5 ?p6 ?_; (case k1 => k_asm); (case k2 => k_asm); (case k3 => k_asm); (case k4 => k_asm); (case k5 => k_asm); (case p0 => first | (with_reducible assumption) | with_reducible exact unit_s); (case p1 => k_mem); (case p2 => k_mem); (case p3 => first | omega | assumption); (case p4 => first | omega | assumption); (case p5 => first | omega | assumption); (case p6 => first | omega | assumption); (case kd => k_room); (case ku => ktr_units); k_whole); intro t' h' tk' F' N'; (try k_sweep); (try dsimp only); (try k_fold)))
local macro_rules | `(tactic| walk_at "call ref") => `(tactic| (k_here; (with_reducible show wpAny _ _ (call (Value.ref 336) _ _) _ _ _); k_dflt (show wpAny _ _ (call (Value.ref 336) [Value.int _ _, Value.bool _]) _ _ _); k_dflt (refine' nt_int0 ?k1 ?k2 ?k3 ?k4 ?k5 ?kd ?ku ?p0 ?p1 ?p2 ?p3 ?_; (case k1 => k_asm); (case k2 => k_asm); (case k3 => k_asm); (case k4 => k_asm); (case k5 => k_asm); (case p0 => first | omega | assumption); (case p1 => first | omega | assumption); (case p2 => first | omega | assumption); (case p3 => first | omega | assumption); (case kd => k_room); (case ku => ktr_units); k_whole); intro t' h' tk' F' N'; (try k_sweep); (try dsimp only); (try k_fold)))
local macro_rules | `(tactic| walk_at "noteFrame ref") => `(tactic| (k_here; (rename RaisedN _ _ _ _ _ _ => rkX); first
  | (refine' caught_v ?zK ?zF ?zU ?zR ?zT ?zX ?z1 ?_; (case zR => exact rkX); (case zU => with_reducible assumption); (case zK => assumption); (case zF => with_reducible assumption); (case zT => k_asm); (case zX => k_asm); (case z1 => k_is); intro h' F' N'; (try k_sweep))
  | (refine' caught_k ?zK ?zF ?zU ?zR ?zT ?zX ?z1 ?z2 ?_; (case zR => exact rkX); (case zU => with_reducible assumption); (case zK => assumption); (case zF => with_reducible assumption); (case zT => k_asm); (case zX => k_asm); (case z1 => k_is); (case z2 => k_is); intro h' F' N'; (try k_sweep))
  | (refine' caught_o ?zK ?zF ?zU ?zR ?zT ?zX ?z1 ?z2 ?z3 ?_; (case zR => exact rkX); (case zU => with_reducible assumption); (case zK => assumption); (case zF => with_reducible assumption); (case zT => k_asm); (case zX => k_asm); (case z1 => k_is); (case z2 => k_is); (case z3 => k_is); intro h' F' N'; (try k_sweep))))
local macro_rules | `(tactic| walk_at "execs cons") => `(tactic| (k_dflt ((fail_if_success (rename KWord _ _ _ _ _ _ _ _ _ _ _ _ => kq)); (with_reducible show wpAny _ _ (execs (Stmt.Assign [PySem.Expr.Name (Str.ofString "word") _] _ _ :: _ :: _) _) _ _ _); k_here; (with_reducible refine' word_cut ?zF ?zN ?_ ?_); (case zF => k_asm); (case zN => k_asm); intro kW; rotate_left 1; intro v' h' tk' F' N'; (try k_sweep); (try dsimp only); (try k_fold); rotate_left 1)))
local macro_rules | `(tactic| walk_at "execs cons") => `(tactic| (k_dflt ((rename KWord _ _ _ _ _ _ _ _ _ _ _ _ => kq); (with_reducible show wpAny _ _ (execs (Stmt.Assign [PySem.Expr.Name (Str.ofString "way") _] _ _ :: _) _) _ _ _); (rename Fr _ _ _ _ => kF9); (rename News _ _ _ _ => kN9); (refine' KWord.go kq ?zF ?zN); (case zF => exact kF9); (case zN => (first | with_reducible exact kN9 | with_reducible exact drop2 kN9 | with_reducible exact drop2 (drop2 kN9) | with_reducible exact drop1 (drop2 (drop2 kN9)) | with_reducible exact drop1 (drop2 kN9) | with_reducible exact drop2 (drop2 (drop2 kN9)))))))
local macro_rules | `(tactic| walk_at "exec If Compare cons nil") => `(tactic| ((rename KFor _ _ _ _ _ _ => kf); (fail_if_success (rename KOr _ _ _ _ _ _ => kq)); k_here; (with_reducible show wpAny _ _ (exec (Stmt.If (PySem.Expr.Compare (PySem.Expr.Call _ _ _ _) _ _ _) _ _ _) _) _ _ _); (with_reducible refine' stm_cut ?zF ?zN ?_ ?_); (case zF => k_asm); (case zN => k_asm); intro Q' hQ; rotate_left 1; intro h' tk' F' N'; (try k_sweep); (try dsimp only); (try k_fold); rotate_left 1))
local macro_rules | `(tactic| walk_at "ItemsRest") => `(tactic| (k_dflt ((rename KRest _ _ _ _ _ _ _ _ _ _ _ _ _ _ _ => kq); (refine' KRest.go kq ?zs ?ze); (case zs => exact fun p hp => SubL.mem (by k_subL) p hp); (case ze => (intro y hy; (try dsimp only); (repeat (refine' (if_neg (off_name hy (by decide +kernel))).trans ?_)); exact if_neg (by rw [hy]; exact Bool.false_ne_true))))))
local macro_rules | `(tactic| walk_at "ItemsRest") => `(tactic| (k_dflt ((fail_if_success (rename KRest _ _ _ _ _ _ _ _ _ _ _ _ _ _ _ => kq)); (with_reducible refine' two_turns ?z1 ?z2 ?_ ?_); (case z1 => exact Or.inl rfl); (case z2 => exact Or.inr rfl); intro k' t' r' u' hk0' hk1' kR'; rotate_left 1; intro u'; rotate_left 1)))
local macro_rules | `(tactic| walk_at "subscriptTail") => `(tactic| (k_dflt (k_here; (with_reducible show wpAny _ _ (subscriptTail (PySem.Expr.Name (Str.ofString "row") _) _ (Value.ref _) (Value.int _ _)) _ _ _); (refine' row_item ?zl ?zi ?zh ?z0 ?z1 ?_ ?zs; (case zl => exact News.isList (by k_asm) (by k_mem)); (case zi => with_reducible assumption); (case zh => with_reducible assumption); (case z0 => first | decide | omega); (case z1 => first | decide | omega); (case zs => with_unfolding_all rfl); k_whole); intro n' t')))
local macro_rules | `(tactic| walk_at "subscriptTail Tuple") => `(tactic| (k_here; (with_reducible show wpAny _ _ (subscriptTail (PySem.Expr.Tuple _ _ _) _ (Value.ref _) (Value.int _ _)) _ _ _); k_dflt (refine' word_item ?zt ?z0 ?z1 ?zs ?_ ?_ ?_ ?_ ?_ ?_; (case zt => exact News.isTup (by k_asm) (by k_mem)); (case z0 => omega); (case z1 => omega); (case zs => with_unfolding_all rfl))))
set_option maxRecDepth 100000 in
set_option maxHeartbeats 40000000 in
theorem law_walk : PySem.Challenge.rw_ez0122_01.Holds := hd (by
  w_strict (k_go0; (all_goals try k_fold); k_steps; all_goals (first
    | ((rename KNow _ _ _ _ _ _ _ _ _ _ => kq); (rename Fr _ _ _ _ => kF9); (rename News _ _ _ _ => kN9); (refine' KNow.end1 kq ?ze ?zF ?zN); (case ze => with_reducible assumption); (case zF => exact kF9); (case zN => (first | with_reducible exact kN9 | with_reducible exact drop1 kN9 | with_reducible exact drop2 kN9 | with_reducible exact drop2 (drop2 kN9) | with_reducible exact drop1 (drop2 kN9) | with_reducible exact drop1 (drop2 (drop2 kN9)) | with_reducible exact drop2 (drop2 (drop2 kN9)) | with_reducible exact drop2 (drop2 (drop2 (drop2 kN9))) | exact cb_drop kN9 (by kcj_all))))
    | ((rename KNow _ _ _ _ _ _ _ _ _ _ => kq); (rename Fr _ _ _ _ => kF9); (rename News _ _ _ _ => kN9); (refine' KNow.end2 kq ?ye ?yF ?yN); (case ye => with_reducible assumption); (case yF => exact kF9); (case yN => (first | with_reducible exact kN9 | with_reducible exact drop1 kN9 | with_reducible exact drop2 kN9 | with_reducible exact drop2 (drop2 kN9) | with_reducible exact drop1 (drop2 kN9) | with_reducible exact drop1 (drop2 (drop2 kN9)) | with_reducible exact drop2 (drop2 (drop2 kN9)) | with_reducible exact drop2 (drop2 (drop2 (drop2 kN9))) | exact cb_drop kN9 (by kcj_all))))
    | ((rename KOr _ _ _ _ _ _ => kq); (rename Fr _ _ _ _ => kF9); (rename News _ _ _ _ => kN9); (refine' KOr.go kq ?xF ?xN); (case xF => exact kF9); (case xN => (first | with_reducible exact kN9 | with_reducible exact drop1 kN9 | with_reducible exact drop2 kN9 | with_reducible exact drop2 (drop2 kN9) | with_reducible exact drop1 (drop2 kN9) | with_reducible exact drop1 (drop2 (drop2 kN9)) | with_reducible exact drop2 (drop2 (drop2 kN9)) | with_reducible exact drop2 (drop2 (drop2 (drop2 kN9))) | exact cb_drop kN9 (by kcj_all))))
    | ((rename KSaid _ _ _ _ _ _ _ _ _ _ => kq); (rename Fr _ _ _ _ => kF9); (rename News _ _ _ _ => kN9); (refine' KSaid.go kq ?wF ?wN); (case wF => exact kF9); (case wN => (first | with_reducible exact kN9 | with_reducible exact drop1 kN9 | with_reducible exact drop2 kN9 | with_reducible exact drop2 (drop2 kN9) | with_reducible exact drop1 (drop2 kN9) | with_reducible exact drop1 (drop2 (drop2 kN9)) | with_reducible exact drop2 (drop2 (drop2 kN9)) | with_reducible exact drop2 (drop2 (drop2 (drop2 kN9))) | exact cb_drop kN9 (by kcj_all))))
    | ((rename KFor _ _ _ _ _ _ => kq); (rename Fr _ _ _ _ => kF9); (rename News _ _ _ _ => kN9); (refine' KFor.go kq kF9 ?vN ?ve); (case vN => (first | with_reducible exact kN9 | with_reducible exact drop1 kN9 | with_reducible exact drop2 kN9 | with_reducible exact drop2 (drop2 kN9) | with_reducible exact drop1 (drop2 kN9) | with_reducible exact drop1 (drop2 (drop2 kN9)) | with_reducible exact drop2 (drop2 (drop2 kN9)) | with_reducible exact drop2 (drop2 (drop2 (drop2 kN9))) | exact cb_drop kN9 (by kcj_all))); (case ve => (intro y hy; (try dsimp only); (repeat (refine' (if_neg (off_name hy (by decide +kernel))).trans ?_)); first | exact if_neg (by rw [hy]; exact Bool.false_ne_true) | rfl))))))
end
end Mine
set_option maxRecDepth 100000 in
set_option maxHeartbeats 8000000 in
theorem PySem.Challenge.cw_ez0122_01_holds : PySem.Challenge.rw_ez0122_01.Holds := by
  exact Mine.law_walk
