import PyProof.Rows.All
import Wide.All
import OpenK.AllK
import Wide.FinOn
import PySem.Challenge.RW_ux0004_01
open PySem PySem.W PyProof.Rows PySem.Calls
set_option Elab.async false
set_option maxRecDepth 100000
set_option maxHeartbeats 8000000
set_option linter.unusedVariables false
set_option compiler.extract_closed false
namespace Mine
open_top hd for PySem.Challenge.rw_ux0004_01


abbrev Ar (dp un : Nat) (gd : Option (List Code)) (outer : List Env) : Around := { handled := none, depth := dp, frames := some outer, guards := gd, units := un }

def Hold (P : Prop) : Prop := P
theorem hold {P : Prop} (h : Hold P) : P := h
theorem unhold {P : Prop} (h : P) : Hold P := h

/-- what a call needs of the state: the frames below, the written part, the top -/
def Gd (w : World) (A : Around) (outer : List Env) (h : Heap) : Prop :=
  ∃ (base : Heap) (p : Program) (loose : List Str) (mean : ExcName → Option Value) (mg mb : Str → Option Value), Below A base outer h ∧ (hd.heap_39 w.params).In h ∧ Top p loose mean mg mb h

def Kp (h h' : Heap) : Prop := ∀ b o, h.get? b = some o → h'.get? b = some o
theorem Kp.refl (h : Heap) : Kp h h := fun _ _ e => e
theorem Kp.trans {h h' h'' : Heap} (a : Kp h h') (b : Kp h' h'') : Kp h h'' := fun _ _ e => b _ _ (a _ _ e)
theorem Kp.isList {h h' : Heap} (k : Kp h h') {l : Addr} {items : Array Value} (x : h.IsList l items) : h'.IsList l items := let ⟨o, ho, r⟩ := x; ⟨o, k l o ho, r⟩

theorem gd_of {w : World} {A₀ : Around} {base h₀ h : Heap} {outer : List Env} {L : Addr} {m : Str → Option Value} {p : Program} {loose : List Str} {mean : ExcName → Option Value} {mg mb : Str → Option Value} {dp un : Nat} {gd : Option (List Code)} {env : Env}
    (B : Below A₀ base outer h₀) (F : Fr h₀ L h m) (X : (hd.heap_39 w.params).In h₀) (T : Top p loose mean mg mb h₀) (hf : env.frame = some L) (hke : env.scope.kind = .function) :
    Gd w (Ar dp un gd (env :: outer)) (env :: outer) h := by
  have B₁ := pushX B F hf hke
  exact ⟨base, p, loose, mean, mg, mb, ⟨rfl, B₁.stays, B₁.frames⟩, X.keeps F.keep, T.keeps F.keep⟩

theorem back_fr {h₀ h h' : Heap} {L : Addr} {m : Str → Option Value} (F : Fr h₀ L h m) (k : Kp h h') : Fr h₀ L h' m :=
  ⟨F.ns.keeps k, fun b o e => k b o (F.keep b o e), F.above⟩
theorem back_news {h₀ h h' : Heap} {L : Addr} {news : List (Addr × Obj)} (N : News h₀ L h news) (k : Kp h h') : News h₀ L h' news :=
  fun p hp => ⟨k _ _ (N p hp).1, (N p hp).2⟩
theorem back_news1 {h₀ h h' : Heap} {L a : Addr} {o : Obj} {m : Str → Option Value} {news : List (Addr × Obj)} (F : Fr h₀ L h m) (N : News h₀ L h news) (k : Kp h h') (ha : h.objs.size < a) (hb : h'.get? a = some o) :
    News h₀ L h' ((a, o) :: news) := by
  intro p hp
  rcases List.mem_cons.mp hp with rfl | hp
  · refine ⟨hb, fun e => ?_, ?_⟩
    · have := F.ns.lt
      rw [← e] at this
      exact absurd (Nat.lt_trans this ha) (Nat.lt_irrefl _)
    · cases q : h₀.get? a with
      | none => rfl
      | some o' => exact absurd (Nat.lt_trans (Heap.lt_size (F.keep _ _ q)) ha) (Nat.lt_irrefl _)
  · exact back_news N k p hp
theorem back_lt {h₀ h : Heap} {L a : Addr} {news : List (Addr × Obj)} (N : News h₀ L h news) (ha : h.objs.size < a) : ∀ p ∈ news, p.1 < a :=
  fun p hp => Nat.lt_trans (Heap.lt_size (N p hp).1) ha

theorem enter0 {prog : Program} {w : World} {A : Around} {s : Shared} {base : Heap} {outer : List Env} {K : Frag} {mg mb : Str → Option Value} {p : Program} {loose : List Str} {mean : ExcName → Option Value}
    {R : Result → Shared → Prop} {name qual : Str} {params : Arguments} {body : List Stmt} {scope : Scope} {dV kV doc pm cdv ct oc : Value} {an od : Option Addr} {osl : Array (Option Value)} {f : Addr} {args : Args} {binds : List (Str × Value)}
    (B : Below A base outer s.heap) (X : K.In s.heap) (T : Top p loose mean mg mb s.heap)
    (ho : K.lookup f = some ⟨oc, od, .func (fnOf name qual params body scope dV kV doc pm an cdv ct), osl⟩) (hcd : codeIn K cdv qual = true) (hroom : A.depth < recursionLimit)
    (hbind : BindsTo s (fnOf name qual params body scope dV kV doc pm an cdv ct) args binds) (hloc : ∀ y ∈ binds, scope.names.lookup y.1 = some .local)
    (h : ∀ L' h₁, L' = s.heap.objs.size → Fr s.heap L' h₁ (fun y => binds.reverse.lookup y) → News s.heap L' h₁ [] → Below A base outer s.heap → K.In s.heap → Top p loose mean mg mb s.heap →
      wpAny (model prog w) (A.deeper (envOf qual scope L' f cdv)) (execs body (envOf qual scope L' f cdv))
        (fun fl s' => R (.ok (.ret (match fl with | .ret v => v | _ => .none))) s')
        (fun e s' => wpAny (model prog w) (A.deeper (envOf qual scope L' f cdv)) (leaving (envOf qual scope L' f cdv) e) (fun _ s'' => R (.error e) s'') (fun e' s'' => R (.error e') s'') s')
        { s with heap := h₁, toks := s.toks + binds.length })
    (hco : scope.isCoroutine = false) (hgen : scope.isGenerator = false) (hk : scope.kind = .function)
    (hcell : ∀ x ∈ scope.names, x.2 ≠ .cell) : codeAny (model prog w) A (.call (.ref f) args) R s := by
  refine codeAny_call_def (fd := fnOf name qual params body scope dV kV doc pm an cdv ct) (body := body) (binds := binds) hroom (X _ _ ho) rfl T.nolimit (codeRec_of X hcd) rfl hbind hcell hloc (fun h₁ hns hk₁ => ?_) hco hgen hk
  exact h s.heap.objs.size h₁ rfl ⟨hns, hk₁, Nat.le_refl _⟩ News.nil B X T

theorem enter0C {prog : Program} {w : World} {A : Around} {s : Shared} {base : Heap} {outer : List Env} {K : Frag} {mg mb : Str → Option Value} {p : Program} {loose : List Str} {mean : ExcName → Option Value}
    {R : Result → Shared → Prop} {name qual : Str} {params : Arguments} {body : List Stmt} {scope : Scope} {dV kV doc pm cdv ct oc : Value} {an od : Option Addr} {osl : Array (Option Value)} {f : Addr} {args : Args} {binds : List (Str × Value)}
    (B : Below A base outer s.heap) (X : K.In s.heap) (T : Top p loose mean mg mb s.heap)
    (ho : K.lookup f = some ⟨oc, od, .func (fnOf name qual params body scope dV kV doc pm an cdv ct), osl⟩) (hcd : codeIn K cdv qual = true) (hroom : A.depth < recursionLimit)
    (hbind : BindsTo s (fnOf name qual params body scope dV kV doc pm an cdv ct) args binds) (hkind : (binds.all fun y => scope.names.lookup y.1 == some .local || scope.names.lookup y.1 == some .cell) = true)
    (hnd : ((cellsFrom 0 scope.names []).map (·.1)).Nodup)
    (h : ∀ L' h₁ tk cells, L' = s.heap.objs.size → Fr s.heap L' h₁ (bindL (envOfC qual scope L' f cdv).kindOf binds fun _ => none) → News s.heap L' h₁ cells →
      CellsAre (bindC (envOfC qual scope L' f cdv).kindOf binds fun _ => none) (cellsFrom (L' + 1) scope.names []) cells → Below A base outer s.heap → K.In s.heap → Top p loose mean mg mb s.heap →
      wpAny (model prog w) (A.deeper (envOfC qual scope L' f cdv)) (execs body (envOfC qual scope L' f cdv))
        (fun fl s' => R (.ok (.ret (match fl with | .ret v => v | _ => .none))) s')
        (fun e s' => wpAny (model prog w) (A.deeper (envOfC qual scope L' f cdv)) (leaving (envOfC qual scope L' f cdv) e) (fun _ s'' => R (.error e) s'') (fun e' s'' => R (.error e') s'') s')
        { s with heap := h₁, toks := tk })
    (hco : scope.isCoroutine = false) (hgen : scope.isGenerator = false) (hk : scope.kind = .function) : codeAny (model prog w) A (.call (.ref f) args) R s := by
  refine codeAny_call_function hroom (X _ _ ho) rfl hco hgen rfl (codeRec_of X hcd) (hbind _ _ _ _ ?_)
  refine wpAny_newFunctionEnv_cells hk (kindsX hkind _) fun env' he s' x => ?_
  subst he
  refine ⟨T.nolimit.keeps x.toInCall.keep, codeAny_func ?_⟩
  obtain ⟨h₁, tk, rfl, _⟩ := x.done
  have hk₁ := x.toInCall.keep
  obtain ⟨cells, NC, Y⟩ := Cl.news (h₀ := s.heap) (Nat.le_refl _) fun n c hm => ⟨x.cell n c (lookup_of_mem_nodup (cellsFrom_names scope.names 0 (s.heap.objs.size + 1) [] [] rfl ▸ hnd) hm), x.above n c hm⟩
  refine h s.heap.objs.size h₁ tk cells rfl ⟨x.toInCall.ns, hk₁, Nat.le_refl _⟩ (fun p hp => ⟨(NC p hp).1, (NC p hp).2.1, (NC p hp).2.2⟩) Y B X T

theorem newList_L {M : Model} {A : Around} {E : Value → Shared → Prop} {s : Shared} {h₀ : Heap} {L : Addr} {m : Str → Option Value} {news : List (Addr × Obj)} {vs : List Value} {Q : Value → Shared → Prop} (F : Fr h₀ L s.heap m) (N : News h₀ L s.heap news)
    (h : ∀ l h', Fr h₀ L h' m → News h₀ L h' ((l, listOf vs.toArray 0) :: news) → (∀ p ∈ news, p.1 < l) → L < l → Q (.ref l) { s with heap := h' }) (hsz : vs.length ≤ sizeLine := by size_fits) : wpAny M A (newList vs) Q E s :=
  newList_N F N (fun h' F' N' => h _ h' F' N' (fun p hp => Heap.lt_size (N p hp).1) F.ns.lt) hsz

theorem fillNow : (Challenge.rw_ux0004_01.prog = Challenge.rw_ux0004_01.prog) ∧ (hd.heap_39 = hd.heap_39) := by
  k_fill
  exact ⟨rfl, rfl⟩

set_option maxHeartbeats 1500000

local macro_rules | `(tactic| walk_at $s:str) => `(tactic| k_extra $s)
local macro_rules | `(tactic| tb_start) => `(tactic| k_extra "tb_start")
local macro_rules | `(tactic| tbn_conj) => `(tactic| k_extra "tbn_conj")
local macro_rules | `(tactic| tb_rel) => `(tactic| k_extra "tb_rel")
local macro_rules | `(tactic| kwd_rel) => `(tactic| k_extra "kwd_rel")
local macro_rules | `(tactic| kwd_inv) => `(tactic| k_extra "kwd_inv")
local macro_rules | `(tactic| kwd_less) => `(tactic| k_extra "kwd_less")
local macro_rules | `(tactic| kst_same) => `(tactic| k_extra "kst_same")
local macro_rules | `(tactic| ktu_off) => `(tactic| k_extra "ktu_off")
local macro_rules | `(tactic| ktu_offL) => `(tactic| k_extra "ktu_offL")
local macro_rules | `(tactic| kst_facts1) => `(tactic| k_extra "kst_facts1")
local macro_rules | `(tactic| lcg_src) => `(tactic| k_extra "lcg_src")
local macro_rules | `(tactic| k_ne) => `(tactic| k_extra "k_ne")
section
theorem topOffC2 : True := by
  w_top off
  k_with_none
  exact trivial

theorem kw1 : True := by
  k_with "pyIter ref" => ((with_reducible show wpAny _ _ (pyIter (Value.ref _)) (fun it s₂ => LoopAtV _ _ _ _ _ _ _ _ _ it s₂) _ _); refine Mine.hold ?_)
  k_with "newList" => (k_here; k_dflt (refine' newList_L (by (k_asm)) (by (k_asm)) ?_; k_whole); intro l' h' F' N' l1 l2; (try k_lt l1); (try k_lt2 l2); (try k_sweep))
  k_with "tb_start" => (refine' enter0 (by (assumption)) (by (assumption)) (by (assumption)) (by (k_is)) (by (k_is)) (by (ktr_room)) (by (first | exact BindsTo.of_eq rfl | (refine' kp_binds (by (assumption)) (by (exact fun _ => rfl))))) (by (exact locs rfl)) ?_ (by (exact rfl)) (by (exact rfl)) (by (exact rfl)) (by (decide)); k_whole; intro L' h' hL' F' N' B' X' T'; (try dsimp only); (try k_fold))
  k_with "InvEndN" => refine Mine.hold ?_
  k_with "tb_rel" => (rename News _ _ _ _ => nE'; (try simp only [List.push_toArray] at nE'); (first | refine' kst_end ⟨_, _, _, _, _, _, _, _, _⟩ (by k_asm) nE' (by first | kst_in | kst_inAny) (by first | (intro p hp; kst_mem) | kst_anyIn) (by rfl) (by kst_facts) (by kst_all) (by kst_same) ?_ | refine' kst_end ⟨_, _, _, _, _, _, _, _⟩ (by k_asm) nE' (by first | kst_in | kst_inAny) (by first | (intro p hp; kst_mem) | kst_anyIn) (by rfl) (by kst_facts) (by kst_all) (by kst_same) ?_ | refine' kst_end ⟨_, _, _, _, _, _, _⟩ (by k_asm) nE' (by first | kst_in | kst_inAny) (by first | (intro p hp; kst_mem) | kst_anyIn) (by rfl) (by kst_facts) (by kst_all) (by kst_same) ?_ | refine' kst_end ⟨_, _, _, _, _, _⟩ (by k_asm) nE' (by first | kst_in | kst_inAny) (by first | (intro p hp; kst_mem) | kst_anyIn) (by rfl) (by kst_facts) (by kst_all) (by kst_same) ?_ | refine' kst_end ⟨_, _, _, _, _⟩ (by k_asm) nE' (by first | kst_in | kst_inAny) (by first | (intro p hp; kst_mem) | kst_anyIn) (by rfl) (by kst_facts) (by kst_all) (by kst_same) ?_ | refine' kst_end ⟨_, _, _, _⟩ (by k_asm) nE' (by first | kst_in | kst_inAny) (by first | (intro p hp; kst_mem) | kst_anyIn) (by rfl) (by kst_facts) (by kst_all) (by kst_same) ?_ | refine' kst_end ⟨_, _, _⟩ (by k_asm) nE' (by first | kst_in | kst_inAny) (by first | (intro p hp; kst_mem) | kst_anyIn) (by rfl) (by kst_facts) (by kst_all) (by kst_same) ?_ | refine' kst_end ⟨_, _⟩ (by k_asm) nE' (by first | kst_in | kst_inAny) (by first | (intro p hp; kst_mem) | kst_anyIn) (by rfl) (by kst_facts) (by kst_all) (by kst_same) ?_); (try dsimp only))
  k_with "exec For Name Call cons nil" => (k_here; (rename Fr _ _ _ _ => lF'); (with_unfolding_all refine' For_invVF lF' (by (exact rfl)) (by (exact rfl)) ?_; k_whole))
  k_with "kst_facts1" => with_reducible exact IntsAre.cons _ _ IntsAre.nil
  k_with "exec While Compare cons nil" => (k_here; refine Mine.hold ?_)
  k_with "KswEnd" => refine Mine.hold ?_
  k_with "kwd_less" => (rename News _ _ _ _ => nE'; (try simp only [List.push_toArray] at nE'); (first | refine' ksw_end ⟨_, _, _, _, _, _, _⟩ (by k_asm) nE' (by kst_in) (by kst_facts) (by kst_all) (by ksw_same) ?_ ?_ | refine' ksw_end ⟨_, _, _, _, _, _⟩ (by k_asm) nE' (by kst_in) (by kst_facts) (by kst_all) (by ksw_same) ?_ ?_ | refine' ksw_end ⟨_, _, _, _, _⟩ (by k_asm) nE' (by kst_in) (by kst_facts) (by kst_all) (by ksw_same) ?_ ?_ | refine' ksw_end ⟨_, _, _, _⟩ (by k_asm) nE' (by kst_in) (by kst_facts) (by kst_all) (by ksw_same) ?_ ?_ | refine' ksw_end ⟨_, _, _⟩ (by k_asm) nE' (by kst_in) (by kst_facts) (by kst_all) (by ksw_same) ?_ ?_ | refine' ksw_end ⟨_, _⟩ (by k_asm) nE' (by kst_in) (by kst_facts) (by kst_all) (by ksw_same) ?_ ?_); (all_goals (try dsimp only)))
  k_with "tbn_conj" => (refine' enter0C (by (assumption)) (by (assumption)) (by (assumption)) (by (k_is)) (by (k_is)) (by (ktr_room)) (by (exact BindsTo.of_eq rfl)) (by (exact rfl)) (by (decide +kernel)) ?_ (by (exact rfl)) (by (exact rfl)) (by (exact rfl)); k_whole; intro L' h' tk' cells' hL' F' N' Y' B' X' T'; k_cells Y'; (try simp only [List.cons_append, List.nil_append] at N'); (try dsimp only); (try k_fold))
  k_with "exec While BoolOp cons nil" => (k_here; refine Mine.hold ?_)
  k_with "compareOp NotEq ref ref" => (k_here; (with_reducible show wpAny _ _ (compareOp CmpOp.NotEq (Value.ref _) (Value.ref _)) _ _ _); (with_unfolding_all refine' ne_intsK (by (is_list)) (by (first | exact IntsAre.nil | l_intsC)) (by (is_list)) (by (first | exact IntsAre.nil | l_intsC)) (by (ktr_units)) ?_; k_whole))
  k_with "k_ne" => (refine neN ?_; (try dsimp only); (first | lia | omega))
  exact trivial
theorem tx_length (x : Str) : x.length = x.cps.toList.length := by simp [Str.length]
theorem tx_item {x : Str} {i : Int} (h0 : 0 ≤ i) (h1 : i < (x.length : Int)) : ∃ c, Txt.item x i = ⟨#[c]⟩ ∧ x.cps.toList.drop i.toNat = c :: x.cps.toList.drop (i.toNat + 1) := by
  have hlt : i.toNat < x.cps.toList.length := by rw [← tx_length]; (first | lia | omega)
  refine ⟨x.cps.toList[i.toNat], ?_, ?_⟩
  · unfold Txt.item Txt.charAt
    have e : seqIndex? i x.length = some i.toNat := by
      unfold seqIndex?
      simp only []
      rw [if_neg (show ¬ i < 0 by (first | lia | omega)), if_pos (by simp; (first | lia | omega))]
    rw [e]
    have hlt' : i.toNat < x.cps.size := by simpa using hlt
    simp [hlt']
  · exact List.drop_eq_getElem_cons hlt
theorem tx_q : Str.ofString "\"" = ⟨#[34]⟩ := by decide +kernel
theorem tx_beq {c : Nat} : ((⟨#[c]⟩ : Str) == Str.ofString "\"") = decide (c = 34) := by
  rw [tx_q]
  by_cases h : c = 34
  · subst h; rfl
  · rw [decide_eq_false h]
    apply beq_false_of_ne
    intro q
    injection q with q
    injection q with q
    injection q with q
    exact h q
theorem range_filterMap (l : List Nat) (a : Nat) : ∀ n, ((List.range n).map (fun k => a + k)).filterMap (l[·]?) = (l.drop a).take n := by
  intro n
  induction n with
  | zero => simp
  | succ n ih =>
    rw [List.range_succ, List.map_append, List.filterMap_append, ih, List.take_add_one]
    congr 1
    simp only [List.map_cons, List.map_nil, List.filterMap_cons, List.filterMap_nil]
    rw [List.getElem?_drop]
    cases l[a + n]? <;> rfl
theorem tx_cl (b n : Nat) : max (0 : Int) (min (b : Int) (n : Int)) = ((min b n : Nat) : Int) := by
  rcases Nat.le_total b n with h | h
  · rw [Nat.min_eq_left h, Int.min_eq_left (Int.ofNat_le.mpr h), Int.max_eq_right (Int.natCast_nonneg b)]
  · rw [Nat.min_eq_right h, Int.min_eq_right (Int.ofNat_le.mpr h), Int.max_eq_right (Int.natCast_nonneg n)]
theorem tx_nn (b : Nat) : ¬ (b : Int) < 0 := Int.not_lt.mpr (Int.natCast_nonneg b)
theorem tx_sub (a b : Nat) : (((b : Int) - (a : Int) + 1 - 1) / 1).toNat = b - a := by rw [Int.ediv_one, Int.add_sub_cancel, Int.toNat_sub]
theorem tx_ind (a b n : Nat) : Builtin.Str.strSliceIndices (some (a : Int)) (some (b : Int)) 1 n = (List.range (min b n - a)).map (fun k => a + k) := by
  unfold Builtin.Str.strSliceIndices sliceRange
  simp only [show (1 : Int) > 0 by decide, if_true]
  rw [if_neg (tx_nn b), if_neg (tx_nn a), tx_cl, tx_cl]
  by_cases h : min a n < min b n
  · have ha : a < n := Nat.lt_of_not_le fun hle => by
      rw [Nat.min_eq_right hle] at h
      exact Nat.lt_irrefl _ (Nat.lt_of_lt_of_le h (Nat.min_le_right b n))
    rw [if_pos (Int.ofNat_lt.mpr h), tx_sub, Nat.min_eq_left (Nat.le_of_lt ha)]
    apply List.map_congr_left
    intro k _
    rw [Int.one_mul, ← Int.natCast_add, Int.toNat_natCast]
  · have hz : min b n - a = 0 := Nat.sub_eq_zero_of_le (Nat.le_trans (Nat.not_lt.mp h) (Nat.min_le_left a n))
    rw [if_neg (fun q => h (Int.ofNat_lt.mp q)), hz]; rfl
theorem tx_all {x : Str} {a c : Nat} (hc : ((1 : Int) == 1 && ((List.range c).map (fun k => a + k)).length == x.length) = true) (h : a + c ≤ x.length ∨ c = 0) : (x.cps.toList.drop a).take c = x.cps.toList := by
  have e : c = x.length := by simpa using hc
  rcases h with h | h
  · have : a = 0 := Nat.le_zero.mp (Nat.le_of_add_le_add_right (b := c) (by rw [Nat.zero_add]; exact e ▸ h))
    rw [this, List.drop_zero, List.take_of_length_le (by rw [← tx_length, e]; exact Nat.le_refl _)]
  · rw [h] at e ⊢
    rw [List.take_zero, List.eq_nil_of_length_eq_zero ((tx_length x).symm.trans e.symm)]
theorem tx_slice {x : Str} {a b : Nat} : (Txt.slice x (some (a : Int)) (some (b : Int))).cps.toList = (x.cps.toList.drop a).take (b - a) := by
  have he : (x.cps.toList.drop a).take (b - a) = (x.cps.toList.drop a).take (min b x.length - a) := by
    rw [List.take_eq_take_min, List.length_drop, ← tx_length, ← Nat.sub_min_sub_right]
  rw [he]
  unfold Txt.slice
  rw [tx_ind]
  by_cases hc : ((1 : Int) == 1 && ((List.range (min b x.length - a)).map (fun k => a + k)).length == x.length) = true
  · rw [if_pos hc, tx_all hc]
    by_cases h : a ≤ min b x.length
    · exact .inl (by rw [Nat.add_sub_cancel' h]; exact Nat.min_le_right _ _)
    · exact .inr (Nat.sub_eq_zero_of_le (Nat.le_of_not_le h))
  · rw [if_neg hc]
    have := range_filterMap x.cps.toList a (min b x.length - a)
    simp only [Array.getElem?_toList] at this
    simp only [this]
theorem tx_indTo (b n : Nat) : Builtin.Str.strSliceIndices none (some (b : Int)) 1 n = (List.range (min b n)).map (fun k => 0 + k) := by
  have e : Builtin.Str.strSliceIndices none (some (b : Int)) 1 n = Builtin.Str.strSliceIndices (some ((0 : Nat) : Int)) (some (b : Int)) 1 n := by
    unfold Builtin.Str.strSliceIndices sliceRange
    simp only [show (1 : Int) > 0 by decide, if_true]
    rw [if_neg (tx_nn 0), tx_cl 0 n, Nat.zero_min]
    rfl
  rw [e, tx_ind, Nat.sub_zero]
theorem tx_sliceTo {x : Str} {b : Nat} : (Txt.slice x none (some (b : Int))).cps.toList = x.cps.toList.take b := by
  have he : x.cps.toList.take b = (x.cps.toList.drop 0).take (min b x.length) := by
    rw [List.take_eq_take_min, ← tx_length, List.drop_zero]
  rw [he]
  unfold Txt.slice
  rw [tx_indTo]
  by_cases hc : ((1 : Int) == 1 && ((List.range (min b x.length)).map (fun k => 0 + k)).length == x.length) = true
  · rw [if_pos hc, tx_all hc (.inl (by rw [Nat.zero_add]; exact Nat.min_le_right _ _))]
  · rw [if_neg hc]
    have := range_filterMap x.cps.toList 0 (min b x.length)
    simp only [Array.getElem?_toList] at this
    simp only [this]
theorem str_ext {x y : Str} (h : x.cps.toList = y.cps.toList) : x = y := by
  cases x; cases y; simp at h; rw [h]
theorem nat_xor_and (a b : Nat) : (a ^^^ b) + 2 * (a &&& b) = a + b := by
  induction a using Nat.strongRecOn generalizing b with
  | ind a ih =>
    by_cases h0 : a = 0
    · subst h0; simp
    · have h := ih (a / 2) (by (first | lia | omega)) (b / 2)
      have x1 := Nat.xor_div_two (a := a) (b := b)
      have x2 := Nat.and_div_two (a := a) (b := b)
      have m1 := Nat.xor_mod_two_eq_one (a := a) (b := b)
      have m2 := Nat.and_mod_two_eq_one (a := a) (b := b)
      rw [← x1, ← x2] at h
      by_cases ha : a % 2 = 1 <;> by_cases hb : b % 2 = 1 <;> simp only [ha, hb, iff_true, true_iff, iff_false, false_iff, not_true, not_false_iff, and_true, and_false, true_and, false_and] at m1 m2 <;> (first | lia | omega)
theorem bitXor_nat (a b : Nat) : Builtin.bitXor (a : Int) (b : Int) = ((a ^^^ b : Nat) : Int) := by
  rw [bitXor_and]
  have e : Builtin.bitAnd (a : Int) (b : Int) = ((a &&& b : Nat) : Int) := by
    unfold Builtin.bitAnd
    rw [decide_eq_true (by (first | lia | omega) : (0 : Int) ≤ (a : Int)), decide_eq_true (by (first | lia | omega) : (0 : Int) ≤ (b : Int))]
    rfl
  rw [e]
  have := nat_xor_and a b
  (first | lia | omega)
theorem bitXor_int {x y : Int} (hx : 0 ≤ x) (hy : 0 ≤ y) : Builtin.bitXor x y = ((x.toNat ^^^ y.toNat : Nat) : Int) := by
  rw [← bitXor_nat, Int.toNat_of_nonneg hx, Int.toNat_of_nonneg hy]
theorem nat_xor_top {x y : Nat} (hx : 256 ≤ x) (hx' : x < 512) (hy : 256 ≤ y) (hy' : y < 512) : x ^^^ y < 256 := by
  show x ^^^ y < 2 ^ 8
  apply Nat.lt_pow_two_of_testBit
  intro i hi
  rw [Nat.testBit_xor]
  by_cases h8 : i = 8
  · subst h8
    have e1 : x = 2 ^ 8 + (x - 256) := by (first | lia | omega)
    have e2 : y = 2 ^ 8 + (y - 256) := by (first | lia | omega)
    rw [e1, e2, Nat.testBit_two_pow_add_eq, Nat.testBit_two_pow_add_eq, Nat.testBit_lt_two_pow (by (first | lia | omega) : x - 256 < 2 ^ 8), Nat.testBit_lt_two_pow (by (first | lia | omega) : y - 256 < 2 ^ 8)]
    rfl
  · have hp : 2 ^ 9 ≤ 2 ^ i := Nat.pow_le_pow_right (by decide) (by (first | lia | omega))
    rw [Nat.testBit_lt_two_pow (by (first | lia | omega) : x < 2 ^ i), Nat.testBit_lt_two_pow (by (first | lia | omega) : y < 2 ^ i)]
    rfl
def overS (a o : Int) : Int := if 2 * o ≥ 256 then Builtin.bitXor (2 * o) (2 * a) else 2 * o
theorem overS_bnd {a o : Int} (ha : 128 ≤ a) (ha' : a < 256) (ho : 0 ≤ o) (ho' : o < 256) : 0 ≤ overS a o ∧ overS a o < 256 := by
  unfold overS
  by_cases h : 2 * o ≥ 256
  · rw [if_pos h, bitXor_int (by (first | lia | omega)) (by (first | lia | omega))]
    have := nat_xor_top (x := (2 * o).toNat) (y := (2 * a).toNat) (by (first | lia | omega)) (by (first | lia | omega)) (by (first | lia | omega)) (by (first | lia | omega))
    (first | lia | omega)
  · rw [if_neg h]; (first | lia | omega)
def overL : List Int → Nat
  | [] => 0
  | a :: r => if 2 * a < 256 then r.length + 1 else overL (r.map (overS a))
termination_by l => l.length
theorem overL_cons (a : Int) (r : List Int) : overL (a :: r) = if 2 * a < 256 then r.length + 1 else overL (r.map (overS a)) := by rw [overL]
theorem istermC {prog : Program} {w : World} {dp un : Nat} {gd : Option (List Code)} {outer : List Env} {s : Shared} {x : Int} {t : Tok} {Q E : Value → Shared → Prop}
    (G : Gd w (Ar dp un gd outer) outer s.heap) (hdp : dp + 2 < recursionLimit)
    (ret : ∀ h' tk', Kp s.heap h' → Q (.bool (decide (x < 256))) {s with heap := h', toks := tk'}) :
    wpAny (model prog w) (Ar dp un gd outer) (call (.ref 21) [.int x t]) Q E s := by
  obtain ⟨base, p, loose, mean, mg, mb, B, X, T⟩ := G
  refine wpAny_call ?_
  tb_start
  k_steps
  all_goals ((try dsimp only); k_unfold; (try dsimp only))
  all_goals exact ret _ _ (Fr.keep (by k_asm))
theorem isnontermC {prog : Program} {w : World} {dp un : Nat} {gd : Option (List Code)} {outer : List Env} {s : Shared} {x : Int} {t : Tok} {Q E : Value → Shared → Prop}
    (G : Gd w (Ar dp un gd outer) outer s.heap) (hdp : dp + 2 < recursionLimit)
    (ret : ∀ h' tk', Kp s.heap h' → Q (.bool (decide (x ≥ 256))) {s with heap := h', toks := tk'}) :
    wpAny (model prog w) (Ar dp un gd outer) (call (.ref 28) [.int x t]) Q E s := by
  obtain ⟨base, p, loose, mean, mg, mb, B, X, T⟩ := G
  refine wpAny_call ?_
  tb_start
  k_steps
  all_goals ((try dsimp only); k_unfold; (try dsimp only))
  all_goals exact ret _ _ (Fr.keep (by k_asm))
theorem iseofC {prog : Program} {w : World} {dp un : Nat} {gd : Option (List Code)} {outer : List Env} {s : Shared} {x : Int} {t : Tok} {Q E : Value → Shared → Prop}
    (G : Gd w (Ar dp un gd outer) outer s.heap) (hdp : dp + 2 < recursionLimit)
    (ret : ∀ h' tk', Kp s.heap h' → Q (.bool (decide (x = 0))) {s with heap := h', toks := tk'}) :
    wpAny (model prog w) (Ar dp un gd outer) (call (.ref 35) [.int x t]) Q E s := by
  obtain ⟨base, p, loose, mean, mg, mb, B, X, T⟩ := G
  refine wpAny_call ?_
  tb_start
  k_steps
  all_goals ((try dsimp only); k_unfold; (try dsimp only))
  all_goals exact ret _ _ (Fr.keep (by k_asm))
theorem istermT {prog : Program} {w : World} {dp un : Nat} {gd : Option (List Code)} {outer : List Env} {s : Shared} {x : Int} {t : Tok} {Q E : Value → Shared → Prop}
    (hx : x < 256) (G : Gd w (Ar dp un gd outer) outer s.heap) (hdp : dp + 2 < recursionLimit)
    (ret : ∀ h' tk', Kp s.heap h' → Q (.bool true) {s with heap := h', toks := tk'}) :
    wpAny (model prog w) (Ar dp un gd outer) (call (.ref 21) [.int x t]) Q E s :=
  istermC G hdp fun h' tk' k => by
    have e : decide (x < 256) = true := by simp; (first | lia | omega)
    rw [e]; exact ret h' tk' k
theorem istermF {prog : Program} {w : World} {dp un : Nat} {gd : Option (List Code)} {outer : List Env} {s : Shared} {x : Int} {t : Tok} {Q E : Value → Shared → Prop}
    (hx : 256 ≤ x) (G : Gd w (Ar dp un gd outer) outer s.heap) (hdp : dp + 2 < recursionLimit)
    (ret : ∀ h' tk', Kp s.heap h' → Q (.bool false) {s with heap := h', toks := tk'}) :
    wpAny (model prog w) (Ar dp un gd outer) (call (.ref 21) [.int x t]) Q E s :=
  istermC G hdp fun h' tk' k => by
    have e : decide (x < 256) = false := by simp; (first | lia | omega)
    rw [e]; exact ret h' tk' k
theorem isnontermT {prog : Program} {w : World} {dp un : Nat} {gd : Option (List Code)} {outer : List Env} {s : Shared} {x : Int} {t : Tok} {Q E : Value → Shared → Prop}
    (hx : 256 ≤ x) (G : Gd w (Ar dp un gd outer) outer s.heap) (hdp : dp + 2 < recursionLimit)
    (ret : ∀ h' tk', Kp s.heap h' → Q (.bool true) {s with heap := h', toks := tk'}) :
    wpAny (model prog w) (Ar dp un gd outer) (call (.ref 28) [.int x t]) Q E s :=
  isnontermC G hdp fun h' tk' k => by
    have e : decide (x ≥ 256) = true := by simp; (first | lia | omega)
    rw [e]; exact ret h' tk' k
theorem isnontermF {prog : Program} {w : World} {dp un : Nat} {gd : Option (List Code)} {outer : List Env} {s : Shared} {x : Int} {t : Tok} {Q E : Value → Shared → Prop}
    (hx : x < 256) (G : Gd w (Ar dp un gd outer) outer s.heap) (hdp : dp + 2 < recursionLimit)
    (ret : ∀ h' tk', Kp s.heap h' → Q (.bool false) {s with heap := h', toks := tk'}) :
    wpAny (model prog w) (Ar dp un gd outer) (call (.ref 28) [.int x t]) Q E s :=
  isnontermC G hdp fun h' tk' k => by
    have e : decide (x ≥ 256) = false := by simp; (first | lia | omega)
    rw [e]; exact ret h' tk' k
theorem iseofT {prog : Program} {w : World} {dp un : Nat} {gd : Option (List Code)} {outer : List Env} {s : Shared} {x : Int} {t : Tok} {Q E : Value → Shared → Prop}
    (hx : x = 0) (G : Gd w (Ar dp un gd outer) outer s.heap) (hdp : dp + 2 < recursionLimit)
    (ret : ∀ h' tk', Kp s.heap h' → Q (.bool true) {s with heap := h', toks := tk'}) :
    wpAny (model prog w) (Ar dp un gd outer) (call (.ref 35) [.int x t]) Q E s :=
  iseofC G hdp fun h' tk' k => by
    have e : decide (x = 0) = true := by simp; (first | lia | omega)
    rw [e]; exact ret h' tk' k
theorem iseofF {prog : Program} {w : World} {dp un : Nat} {gd : Option (List Code)} {outer : List Env} {s : Shared} {x : Int} {t : Tok} {Q E : Value → Shared → Prop}
    (hx : ¬ x = 0) (G : Gd w (Ar dp un gd outer) outer s.heap) (hdp : dp + 2 < recursionLimit)
    (ret : ∀ h' tk', Kp s.heap h' → Q (.bool false) {s with heap := h', toks := tk'}) :
    wpAny (model prog w) (Ar dp un gd outer) (call (.ref 35) [.int x t]) Q E s :=
  iseofC G hdp fun h' tk' k => by
    have e : decide (x = 0) = false := by simp; (first | lia | omega)
    rw [e]; exact ret h' tk' k
theorem kw2 : True := by
  k_with "kwd_rel" => (intro h' tk' kp'; (try dsimp only at kp'); have F' := back_fr (by assumption) kp'; have N' := back_news (by assumption) kp'; clear kp'; (try k_sweep); (try dsimp only))
  k_with "kwd_inv" => exact gd_of (by assumption) (by k_asm) (by assumption) (by assumption) rfl rfl
  k_with "call ref" => (k_here; (with_reducible show wpAny _ _ (call (Value.ref 21) [Value.int _ _]) _ _ _); k_dflt (first | (refine' istermT (by omega) (by (kwd_inv)) (by (ktr_room)) ?_) | (refine' istermF (by omega) (by (kwd_inv)) (by (ktr_room)) ?_) | (refine' istermC (by (kwd_inv)) (by (ktr_room)) ?_); k_whole); kwd_rel)
  k_with "call ref" => (k_here; (with_reducible show wpAny _ _ (call (Value.ref 28) [Value.int _ _]) _ _ _); k_dflt (first | (refine' isnontermT (by omega) (by (kwd_inv)) (by (ktr_room)) ?_) | (refine' isnontermF (by omega) (by (kwd_inv)) (by (ktr_room)) ?_) | (refine' isnontermC (by (kwd_inv)) (by (ktr_room)) ?_); k_whole); kwd_rel)
  k_with "call ref" => (k_here; (with_reducible show wpAny _ _ (call (Value.ref 35) [Value.int _ _]) _ _ _); k_dflt (first | (refine' iseofT (by omega) (by (kwd_inv)) (by (ktr_room)) ?_) | (refine' iseofF (by omega) (by (kwd_inv)) (by (ktr_room)) ?_) | (refine' iseofC (by (kwd_inv)) (by (ktr_room)) ?_); k_whole); kwd_rel)
  exact trivial
def quotL (ns : List Int) : Nat → List Int
  | 0 => [0]
  | k + 1 => quotL ns k ++ [if k % 2 = 0 then Builtin.bitXor (Builtin.bitXor ((quotL ns k).getD k 0) (ns.getD (k+1) 0)) (ns.getD (k/2) 0) else Builtin.bitXor ((quotL ns k).getD k 0) (ns.getD (k+1) 0)]
theorem quotL_even {ns : List Int} {k : Nat} {kN : Int} {a : List Int} (e : kN = 0 + (k : Int)) (ha : a = quotL ns k) (h : kN.fmod 2 = 0) :
    a ++ [Builtin.bitXor (Builtin.bitXor (a.getD kN.toNat 0) (ns.getD (kN + 1).toNat 0)) (ns.getD (kN.fdiv 2).toNat 0)] = quotL ns (k + 1) := by
  subst ha
  have e1 : kN.toNat = k := by (first | lia | omega)
  have e2 : (kN + 1).toNat = k + 1 := by (first | lia | omega)
  have e3 : (kN.fdiv 2).toNat = k / 2 := by
    rw [Int.fdiv_eq_ediv_of_nonneg _ (by (first | lia | omega))]; (first | lia | omega)
  have e4 : k % 2 = 0 := by
    rw [Int.fmod_eq_emod_of_nonneg _ (by (first | lia | omega))] at h; (first | lia | omega)
  rw [e1, e2, e3, quotL, if_pos e4]
theorem quotL_odd {ns : List Int} {k : Nat} {kN : Int} {a : List Int} (e : kN = 0 + (k : Int)) (ha : a = quotL ns k) (h : ¬ kN.fmod 2 = 0) :
    a ++ [Builtin.bitXor (a.getD kN.toNat 0) (ns.getD (kN + 1).toNat 0)] = quotL ns (k + 1) := by
  subst ha
  have e1 : kN.toNat = k := by (first | lia | omega)
  have e2 : (kN + 1).toNat = k + 1 := by (first | lia | omega)
  have e4 : ¬ k % 2 = 0 := by
    rw [Int.fmod_eq_emod_of_nonneg _ (by (first | lia | omega))] at h; (first | lia | omega)
  rw [e1, e2, quotL, if_neg e4]
theorem quotC {prog : Program} {w : World} {dp un : Nat} {gd : Option (List Code)} {outer : List Env} {s : Shared}
    {l : Addr} {vs : List Value} {ns : List Int} {Q E : Value → Shared → Prop}
    (G : Gd w (Ar dp un gd outer) outer s.heap) (hdp : dp + 8 < recursionLimit) (hun : un + 64 < cLine)
    (hl : s.heap.IsList l vs.toArray) (hi : IntsAre vs ns) (hn : ns.length = 16)
    (ret : ∀ a us n h' tk', Kp s.heap h' → s.heap.objs.size < a → h'.get? a = some (listOf us.toArray n) → IntsAre us (quotL ns 15) → Q (.ref a) {s with heap := h', toks := tk'}) :
    wpAny (model prog w) (Ar dp un gd outer) (call (.ref 111) [.ref l]) Q E s := by
  obtain ⟨base, p, loose, mean, mg, mb, B, X, T⟩ := G
  refine wpAny_call ?_
  tb_start
  k_steps
  refine unhold ?_
  k_state (fun pre made => pre.length ≤ 15 ∧ made.length = pre.length + 1 ∧ made = quotL ns pre.length) "made"
  all_goals k_steps
  all_goals (try refine unhold ?_)
  · tb_rel
    rename (_ = quotL _ _) => hq
    rename (Int.fmod _ _ = _) => hp
    simp only [List.length_append, List.length_singleton]
    exact ⟨by (first | lia | omega), by (first | lia | omega), quotL_even kEq hq hp⟩
  · tb_rel
    rename (_ = quotL _ _) => hq
    rename (¬ Int.fmod _ _ = _) => hp
    simp only [List.length_append, List.length_singleton]
    exact ⟨by (first | lia | omega), by (first | lia | omega), quotL_odd kEq hq hp⟩
  · rename (_ = quotL _ _) => hq
    subst hq
    (try dsimp only)
    refine ret _ _ _ _ _ (Fr.keep (by k_asm)) ?_ (kNews _ (.head _)).1 ?_
    · (first | lia | omega)
    · assumption
def regL (ns : List Int) : Nat → Int
  | 0 => 255
  | k + 1 => if 2 * regL ns k + ns.getD (k + 1) 0 ≥ 256 then 2 * regL ns k + ns.getD (k + 1) 0 - 256 else 2 * regL ns k + ns.getD (k + 1) 0
def octL (ns : List Int) : Nat → List Int
  | 0 => []
  | k + 1 => octL ns k ++ (if k + 1 > 7 then [regL ns (k + 1)] else [])
theorem reg_arith {r b x : Int} (r0 : 0 ≤ r) (r1 : r ≤ 255) (b0 : 0 ≤ b) (b1 : b ≤ 1) (hx : x = if 2 * r + b ≥ 256 then 2 * r + b - 256 else 2 * r + b) : 0 ≤ x ∧ x ≤ 255 ∧ x.toNat = (2 * r.toNat + b.toNat) % 256 := by
  obtain ⟨n, rfl⟩ := Int.eq_ofNat_of_zero_le r0
  obtain ⟨c, rfl⟩ := Int.eq_ofNat_of_zero_le b0
  have hn : n ≤ 255 := Int.ofNat_le.mp r1
  have hc : c ≤ 1 := Int.ofNat_le.mp b1
  clear r0 b0 r1 b1
  by_cases h : 256 ≤ 2 * n + c
  · have h' : 2 * (n : Int) + (c : Int) ≥ 256 := Int.ofNat_le.mpr h
    rw [if_pos h'] at hx
    have e : x = ((2 * n + c - 256 : Nat) : Int) := hx.trans (Int.ofNat_sub h).symm
    have h3 : 2 * n + c - 256 ≤ 255 := by clear hx e; (first | lia | omega)
    rw [e]
    refine ⟨Int.natCast_nonneg _, Int.ofNat_le.mpr h3, ?_⟩
    rw [Int.toNat_natCast, Int.toNat_natCast, Int.toNat_natCast, Nat.mod_eq_sub_mod h, Nat.mod_eq_of_lt (Nat.lt_succ_of_le h3)]
  · have h' : ¬ 2 * (n : Int) + (c : Int) ≥ 256 := fun k => h (Int.ofNat_le.mp k)
    rw [if_neg h'] at hx
    have e : x = ((2 * n + c : Nat) : Int) := hx
    have h3 := Nat.lt_of_not_le h
    rw [e]
    refine ⟨Int.natCast_nonneg _, Int.ofNat_le.mpr (Nat.le_of_lt_succ h3), ?_⟩
    rw [Int.toNat_natCast, Int.toNat_natCast, Int.toNat_natCast, Nat.mod_eq_of_lt h3]
theorem oct_end {ns oct oct' : List Int} {k : Nat} {kN reg reg' : Int} (e : kN = 1 + (k : Int)) (hk : k < 15) (hl : oct.length = k - 7) (ho : oct = octL ns k) (hr : reg = regL ns k) (b0 : 0 ≤ reg) (b1 : reg ≤ 255) (h01 : ∀ i : Nat, 0 ≤ ns.getD i 0 ∧ ns.getD i 0 ≤ 1)
    (hr' : (2 * reg + ns.getD kN.toNat 0 ≥ 256 ∧ reg' = 2 * reg + ns.getD kN.toNat 0 - 256) ∨ (¬ (2 * reg + ns.getD kN.toNat 0 ≥ 256) ∧ reg' = 2 * reg + ns.getD kN.toNat 0))
    (ho' : (7 < kN ∧ oct' = oct ++ [reg']) ∨ (¬ 7 < kN ∧ oct' = oct)) :
    k + 1 ≤ 15 ∧ oct'.length = k + 1 - 7 ∧ oct' = octL ns (k + 1) ∧ reg' = regL ns (k + 1) ∧ 0 ≤ reg' ∧ reg' ≤ 255 := by
  have e1 : kN = ((k + 1 : Nat) : Int) := e.trans (Int.add_comm _ _)
  have hb := h01 (k + 1)
  rw [e1, Int.toNat_natCast] at hr'
  rw [e1] at ho'
  have h7 : (7 : Int) < ((k + 1 : Nat) : Int) ↔ 7 < k + 1 := ⟨Int.ofNat_lt.mp, Int.ofNat_lt.mpr⟩
  rw [h7] at ho'
  have h2 : reg' = if 2 * reg + ns.getD (k + 1) 0 ≥ 256 then 2 * reg + ns.getD (k + 1) 0 - 256 else 2 * reg + ns.getD (k + 1) 0 := by
    rcases hr' with ⟨a, b⟩ | ⟨a, b⟩
    · rw [if_pos a, b]
    · rw [if_neg a, b]
  have h1 : reg' = regL ns (k + 1) := by rw [regL, ← hr]; exact h2
  have h3 := reg_arith b0 b1 hb.1 hb.2 h2
  refine ⟨hk, ?_, ?_, h1, h3.1, h3.2.1⟩
  · clear h2 h1 h3 hb hr' e e1 hr b0 b1 h01 ho
    rcases ho' with ⟨a, b⟩ | ⟨a, b⟩
    · rw [b, List.length_append, List.length_singleton, hl]; clear b hl; (first | lia | omega)
    · rw [b, hl]; clear b hl; (first | lia | omega)
  · rw [octL, ← ho, ← h1]
    rcases ho' with ⟨a, b⟩ | ⟨a, b⟩
    · rw [if_pos a, b]
    · rw [if_neg a, b, List.append_nil]
theorem octC {prog : Program} {w : World} {dp un : Nat} {gd : Option (List Code)} {outer : List Env} {s : Shared}
    {l : Addr} {vs : List Value} {ns : List Int} {Q E : Value → Shared → Prop}
    (G : Gd w (Ar dp un gd outer) outer s.heap) (hdp : dp + 8 < recursionLimit) (hun : un + 64 < cLine)
    (hl : s.heap.IsList l vs.toArray) (hi : IntsAre vs ns) (hn : ns.length = 16) (h01 : ∀ i : Nat, 0 ≤ ns.getD i 0 ∧ ns.getD i 0 ≤ 1) 
    (ret : ∀ a us n h' tk', Kp s.heap h' → s.heap.objs.size < a → h'.get? a = some (listOf us.toArray n) → IntsAre us (octL ns 15) → Q (.ref a) {s with heap := h', toks := tk'}) :
    wpAny (model prog w) (Ar dp un gd outer) (call (.ref 99) [.ref l]) Q E s := by
  obtain ⟨base, p, loose, mean, mg, mb, B, X, T⟩ := G
  refine wpAny_call ?_
  tb_start
  k_steps
  refine unhold ?_
  k_state (fun pre oct reg => pre.length ≤ 15 ∧ oct.length = pre.length - 7 ∧ oct = octL ns pre.length ∧ reg = regL ns pre.length ∧ 0 ≤ reg ∧ reg ≤ 255) "octets" "register"
  all_goals k_steps
  · rename Fr _ _ _ _ => nF
    rename News _ _ _ _ => nN
    with_unfolding_all refine iter_tupTurns (vs := [_, _]) (by rfl) nF nN (List.Mem.head _) (by rfl) (by rfl) ?_
    clear nF
    intro i' l1
    refine ItemsRest.val (fun h' tk' F' => ?_)
    ktu_objs
    k_steps
    rename Fr _ _ _ _ => nF
    rename News _ _ _ _ => nM
    refine ⟨_, _, _, _ :: _ :: kOwn, rfl, nF, nM, fun p hp q hq => by rw [List.mem_singleton.mp hq]; exact Nat.ne_of_lt (l1 p hp), ⟨⟨.head _, trivial⟩, ?_⟩⟩
    clear nF nM
    refine ItemsRest.val (fun h' tk' F' => ?_)
    ktu_objs
    k_steps
    rename Fr _ _ _ _ => nF
    rename News _ _ _ _ => nM
    refine ⟨_, _, _, _ :: _ :: kOwn, rfl, nF, nM, fun p hp q hq => by rw [List.mem_singleton.mp hq]; exact Nat.ne_of_lt (l1 p hp), ⟨⟨.head _, trivial⟩, ?_⟩⟩
    clear nF nM
    refine ItemsRest.zero (fun h' tk' F' N' => ?_)
    k_steps
    all_goals (refine unhold ?_; tb_rel; (rename (_ = octL _ _) => ho); (rename (_ = regL _ _) => hr); (rename (List.length _ = _ - 7) => hol); (rename ((decide _ == true) = _) => hc); (have hlen9 : (kPre ++ [kN]).length = kPre.length + 1 := by simp); (rw [hlen9]); refine oct_end kEq (by (first | lia | omega)) hol ho hr (by assumption) (by assumption) h01 ?_ ?_)
    all_goals first | exact .inl ⟨by simpa using hc, rfl⟩ | exact .inr ⟨by simpa using hc, rfl⟩ | exact .inl ⟨by assumption, rfl⟩ | exact .inr ⟨by assumption, rfl⟩
  · rename (_ = octL _ _) => hq
    subst hq
    (try dsimp only)
    k_unfold
    refine ret _ _ _ _ _ (Fr.keep (by k_asm)) ?_ (kNews _ (.head _)).1 ?_
    · (first | lia | omega)
    · assumption
def dueF (turned first : Int) (k : Nat) (x : Int) : Int := if (k : Int) = first ∨ (first < (k : Int) ∧ (turned.fdiv (2 ^ k)).fmod 2 = 1) then 1 - x else x
def rowL (free turned first : Int) : Nat → List Int
  | 0 => [1]
  | k + 1 =>
    let r := if 0 < k then rowL free turned first k ++ [(free.fdiv (2 ^ k)).fmod 2] else rowL free turned first k
    r ++ [dueF turned first k (if 0 < k then Builtin.bitXor (r.getD (2 * k) 0) (r.getD k 0) else 1)]
theorem row_end {free turned first kN due : Int} {row row' : List Int} {k : Nat} (e : kN = 0 + (k : Int)) (hk : k < 8) (hl : row.length = max 1 (2 * k)) (ho : row = rowL free turned first k)
    (h : (0 < kN ∧ row' = row ++ [(free.fdiv (2 ^ kN.toNat)).fmod 2] ++ [due] ∧ (((kN = first ∨ (first < kN ∧ (turned.fdiv (2 ^ kN.toNat)).fmod 2 = 1)) ∧ due = 1 - Builtin.bitXor ((row ++ [(free.fdiv (2 ^ kN.toNat)).fmod 2]).getD (2 * kN).toNat 0) ((row ++ [(free.fdiv (2 ^ kN.toNat)).fmod 2]).getD kN.toNat 0))
        ∨ (¬ (kN = first ∨ (first < kN ∧ (turned.fdiv (2 ^ kN.toNat)).fmod 2 = 1)) ∧ due = Builtin.bitXor ((row ++ [(free.fdiv (2 ^ kN.toNat)).fmod 2]).getD (2 * kN).toNat 0) ((row ++ [(free.fdiv (2 ^ kN.toNat)).fmod 2]).getD kN.toNat 0))))
      ∨ (¬ 0 < kN ∧ row' = row ++ [due] ∧ (((kN = first ∨ (first < kN ∧ (turned.fdiv (2 ^ kN.toNat)).fmod 2 = 1)) ∧ due = 1 - 1) ∨ (¬ (kN = first ∨ (first < kN ∧ (turned.fdiv (2 ^ kN.toNat)).fmod 2 = 1)) ∧ due = 1)))) :
    k + 1 ≤ 8 ∧ row'.length = max 1 (2 * (k + 1)) ∧ row' = rowL free turned first (k + 1) := by
  have e0 : kN = (k : Int) := by (first | lia | omega)
  subst e0
  have e1 : ((k : Int)).toNat = k := by (first | lia | omega)
  have e2 : (2 * (k : Int)).toNat = 2 * k := by (first | lia | omega)
  rw [e1, e2] at h
  have hd : ∀ x : Int, (((k : Int) = first ∨ (first < (k : Int) ∧ (turned.fdiv (2 ^ k)).fmod 2 = 1)) ∧ due = 1 - x) ∨ (¬ ((k : Int) = first ∨ (first < (k : Int) ∧ (turned.fdiv (2 ^ k)).fmod 2 = 1)) ∧ due = x) → due = dueF turned first k x := by
    intro x hx
    unfold dueF
    rcases hx with ⟨a, b⟩ | ⟨a, b⟩
    · rw [if_pos a, b]
    · rw [if_neg a, b]
  refine ⟨by (first | lia | omega), ?_, ?_⟩
  · rcases h with ⟨a, b, _⟩ | ⟨a, b, _⟩
    · rw [b]; simp only [List.length_append, List.length_singleton]; (first | lia | omega)
    · rw [b]; simp only [List.length_append, List.length_singleton]; (first | lia | omega)
  · rcases h with ⟨a, b, c⟩ | ⟨a, b, c⟩
    · have hk0 : 0 < k := by (first | lia | omega)
      rw [rowL]
      simp only [if_pos hk0]
      rw [← ho, b, hd _ c]
    · have hk0 : ¬ 0 < k := by (first | lia | omega)
      rw [rowL]
      simp only [if_neg hk0]
      rw [← ho, b, hd _ c]
theorem rowC {prog : Program} {w : World} {dp un : Nat} {gd : Option (List Code)} {outer : List Env} {s : Shared}
    {free turned first : Int} {t1 t2 t3 : Tok} {Q E : Value → Shared → Prop}
    (G : Gd w (Ar dp un gd outer) outer s.heap) (hdp : dp + 8 < recursionLimit) (hun : un + 64 < cLine) (hf0 : 0 ≤ first)
    (ret : ∀ a us n h' tk', Kp s.heap h' → s.heap.objs.size < a → h'.get? a = some (listOf us.toArray n) → IntsAre us (rowL free turned first 8) → Q (.ref a) {s with heap := h', toks := tk'}) :
    wpAny (model prog w) (Ar dp un gd outer) (call (.ref 92) [.int free t1, .int turned t2, .int first t3]) Q E s := by
  obtain ⟨base, p, loose, mean, mg, mb, B, X, T⟩ := G
  refine wpAny_call ?_
  tb_start
  k_steps
  refine unhold ?_
  k_with "state" => exact ⟨Nat.zero_le _, rfl, rfl⟩
  k_state_short (fun pre row => pre.length ≤ 8 ∧ row.length = max 1 (2 * pre.length) ∧ row = rowL free turned first pre.length) "row"
  all_goals k_steps
  all_goals (try refine unhold ?_)
  all_goals (try (tb_rel; (rename (_ = rowL _ _ _ _) => ho); (rename (List.length _ = max 1 _) => hol); (have hlen9 : (kPre ++ [kN]).length = kPre.length + 1 := by simp); (rw [hlen9])))
  · refine row_end kEq (by (first | lia | omega)) hol ho (.inl ⟨by assumption, rfl, ?_⟩)
    exact .inl ⟨.inl (by assumption), rfl⟩
  · refine row_end kEq (by (first | lia | omega)) hol ho (.inl ⟨by assumption, rfl, ?_⟩)
    exact .inl ⟨.inr ⟨by assumption, by assumption⟩, rfl⟩
  · refine row_end kEq (by (first | lia | omega)) hol ho (.inl ⟨by assumption, rfl, ?_⟩)
    exact .inr ⟨by rintro (h | ⟨_, h⟩) <;> contradiction, rfl⟩
  · refine row_end kEq (by (first | lia | omega)) hol ho (.inl ⟨by assumption, rfl, ?_⟩)
    exact .inr ⟨by rintro (h | ⟨h, _⟩) <;> contradiction, rfl⟩
  · refine row_end kEq (by (first | lia | omega)) hol ho (.inr ⟨by assumption, rfl, ?_⟩)
    exact .inl ⟨.inl (by assumption), rfl⟩
  · refine row_end kEq (by (first | lia | omega)) hol ho (.inr ⟨by assumption, rfl, ?_⟩)
    exact .inr ⟨by rintro (h | ⟨h, _⟩) <;> first | contradiction | (first | lia | omega), rfl⟩
  · rename (_ = rowL _ _ _ _) => hq
    subst hq
    (try dsimp only)
    refine ret _ _ _ _ _ (Fr.keep (by k_asm)) ?_ (kNews _ (.head _)).1 ?_
    · (first | lia | omega)
    · assumption
def rootT (ns : List Int) (letter : Str) : Nat → Str
  | 0 => Str.ofString ""
  | k + 1 => (if 0 < k ∧ ns.getD (2 * k) 0 = 1 then rootT ns letter k ++ letter else rootT ns letter k) ++ Str.ofString "\""
theorem root_end {ns : List Int} {letter text text' : Str} {k : Nat} {kN : Int} (e : kN = 0 + (k : Int)) (ht : text = rootT ns letter k)
    (h : (0 < kN ∧ ns.getD (2 * kN).toNat 0 = 1 ∧ text' = text ++ letter ++ Str.ofString "\"") ∨ (¬ (0 < kN ∧ ns.getD (2 * kN).toNat 0 = 1) ∧ text' = text ++ Str.ofString "\"")) :
    text' = rootT ns letter (k + 1) := by
  have e0 : kN = (k : Int) := by (first | lia | omega)
  subst e0
  have e2 : (2 * (k : Int)).toNat = 2 * k := by (first | lia | omega)
  rw [e2] at h
  rw [rootT, ← ht]
  rcases h with ⟨a, b, c⟩ | ⟨a, c⟩
  · rw [if_pos ⟨by (first | lia | omega), b⟩, c]
  · rw [if_neg (by rintro ⟨x, y⟩; exact a ⟨by (first | lia | omega), y⟩), c]
theorem rootC {prog : Program} {w : World} {dp un : Nat} {gd : Option (List Code)} {outer : List Env} {s : Shared}
    {l : Addr} {vs : List Value} {ns : List Int} {often : Int} {letter : Str} {t1 t2 : Tok} {Q E : Value → Shared → Prop}
    (G : Gd w (Ar dp un gd outer) outer s.heap) (hdp : dp + 8 < recursionLimit) (hun : un + 64 < cLine)
    (hl : s.heap.IsList l vs.toArray) (hi : IntsAre vs ns) (hn : ns.length = 16) (hf0 : 0 ≤ often) (hf8 : often ≤ 8) (hlet : letter.length = 1)
    (ret : ∀ t, (rootT ns letter often.toNat).length ≤ 2 * often.toNat → ∀ h' tk', Kp s.heap h' → Q (.str (rootT ns letter often.toNat) t) {s with heap := h', toks := tk'}) :
    wpAny (model prog w) (Ar dp un gd outer) (call (.ref 125) [.ref l, .int often t1, .str letter t2]) Q E s := by
  obtain ⟨base, p, loose, mean, mg, mb, B, X, T⟩ := G
  refine wpAny_call ?_
  tb_start
  k_steps
  refine unhold ?_
  k_with "state" => exact ⟨Nat.zero_le _, Nat.zero_le _, rfl⟩
  k_state_short (fun pre text => pre.length ≤ 8 ∧ text.length ≤ 2 * pre.length ∧ text = rootT ns letter pre.length) "text"
  all_goals k_steps
  all_goals (try refine unhold ?_)
  · tb_rel
    rename (_ = rootT _ _ _) => ht
    have hlen9 : (kPre ++ [kN]).length = kPre.length + 1 := by simp
    rw [hlen9]
    refine ⟨by (first | lia | omega), ?_, root_end kEq ht (.inl ⟨by assumption, by assumption, rfl⟩)⟩
    have hq9 : (Str.ofString "\"").length = 1 := rfl
    (first | lia | omega)
  · tb_rel
    rename (_ = rootT _ _ _) => ht
    have hlen9 : (kPre ++ [kN]).length = kPre.length + 1 := by simp
    rw [hlen9]
    refine ⟨by (first | lia | omega), ?_, root_end kEq ht (.inr ⟨by rintro ⟨_, h⟩; contradiction, rfl⟩)⟩
    have hq9 : (Str.ofString "\"").length = 1 := rfl
    (first | lia | omega)
  · tb_rel
    rename (_ = rootT _ _ _) => ht
    have hlen9 : (kPre ++ [kN]).length = kPre.length + 1 := by simp
    rw [hlen9]
    refine ⟨by (first | lia | omega), ?_, root_end kEq ht (.inr ⟨by rintro ⟨h, _⟩; contradiction, rfl⟩)⟩
    have hq9 : (Str.ofString "\"").length = 1 := rfl
    (first | lia | omega)
  · rename (_ = rootT _ _ _) => hq
    rename (Str.length _ ≤ 2 * _) => hq2
    rw [rangeKs_length, Int.sub_zero] at hq hq2
    subst hq
    (try dsimp only)
    exact ret _ hq2 _ _ (Fr.keep (by k_asm))
def textS (letter : Str) (ns : List Int) : Str := ns.foldl (fun t n => (if n = 0 then t else t ++ letter) ++ Str.ofString "\"") (Str.ofString "")
theorem textS_snoc (letter : Str) (pre : List Int) (n : Int) : textS letter (pre ++ [n]) = (if n = 0 then textS letter pre else textS letter pre ++ letter) ++ Str.ofString "\"" := by
  simp only [textS, List.foldl_append, List.foldl_cons, List.foldl_nil]
theorem textC {prog : Program} {w : World} {dp un : Nat} {gd : Option (List Code)} {outer : List Env} {s : Shared}
    {l : Addr} {vs : List Value} {ns : List Int} {letter : Str} {t2 : Tok} {Q E : Value → Shared → Prop}
    (G : Gd w (Ar dp un gd outer) outer s.heap) (hdp : dp + 8 < recursionLimit) (hun : un + 64 < cLine)
    (hl : s.heap.IsList l vs.toArray) (hi : IntsAre vs ns) (hn : ns.length ≤ 16) (hlet : letter.length = 1)
    (ret : ∀ t, (textS letter ns).length ≤ 2 * ns.length → ∀ h' tk', Kp s.heap h' → Q (.str (textS letter ns) t) {s with heap := h', toks := tk'}) :
    wpAny (model prog w) (Ar dp un gd outer) (call (.ref 118) [.ref l, .str letter t2]) Q E s := by
  obtain ⟨base, p, loose, mean, mg, mb, B, X, T⟩ := G
  refine wpAny_call ?_
  tb_start
  k_steps
  refine unhold ?_
  k_with "state" => exact ⟨Nat.zero_le _, rfl⟩
  k_state (fun pre text => text.length ≤ 2 * pre.length ∧ text = textS letter pre) "text"
  all_goals k_steps
  all_goals (try refine unhold ?_)
  · tb_rel
    rename (_ = textS _ _) => ht
    rename ((decide _ == true) = _) => hc
    have h0 : kN = 0 := by simpa using hc
    have hq9 : (Str.ofString "\"").length = 1 := rfl
    refine ⟨by rw [List.length_append, List.length_singleton]; (first | lia | omega), ?_⟩
    rw [textS_snoc, if_pos h0, ht]
  · tb_rel
    rename (_ = textS _ _) => ht
    rename ((decide _ == true) = _) => hc
    have h0 : ¬ kN = 0 := by simpa using hc
    have hq9 : (Str.ofString "\"").length = 1 := rfl
    refine ⟨by rw [List.length_append, List.length_singleton]; (first | lia | omega), ?_⟩
    rw [textS_snoc, if_neg h0, ht]
  · tb_rel
    rename (_ = textS _ _) => ht
    rename ((decide _ != false) = _) => hc
    have h0 : kN = 0 := by simpa using hc
    have hq9 : (Str.ofString "\"").length = 1 := rfl
    refine ⟨by rw [List.length_append, List.length_singleton]; (first | lia | omega), ?_⟩
    rw [textS_snoc, if_pos h0, ht]
  · tb_rel
    rename (_ = textS _ _) => ht
    rename ((decide _ != false) = _) => hc
    have h0 : ¬ kN = 0 := by simpa using hc
    have hq9 : (Str.ofString "\"").length = 1 := rfl
    refine ⟨by rw [List.length_append, List.length_singleton]; (first | lia | omega), ?_⟩
    rw [textS_snoc, if_neg h0, ht]
  · rename (_ = textS _ _) => hq
    subst hq
    (try dsimp only)
    exact ret _ (by assumption) _ _ (Fr.keep (by k_asm))
def dirL : List Nat → List Nat
  | [] => []
  | c :: r => if c = 34 then (match r with | [] => [] | d :: r' => if d = 34 then 34 :: dirL r' else []) else c :: dirL r
theorem dirL_stop {c : Nat} {r : List Nat} (h : c = 34) (hr : ∀ d r', r = d :: r' → d ≠ 34) : dirL (c :: r) = [] := by
  rw [dirL.eq_def]
  simp only [if_pos h]
  cases r with
  | nil => rfl
  | cons d r' => simp only [if_neg (hr d r' rfl)]
theorem dirL_two {c d : Nat} {r : List Nat} (h : c = 34) (hd : d = 34) : dirL (c :: d :: r) = c :: dirL r := by
  subst h hd
  rw [dirL.eq_def]; simp only [if_true]
theorem dirL_one {c : Nat} {r : List Nat} (h : ¬ c = 34) : dirL (c :: r) = c :: dirL r := by
  rw [dirL.eq_def]; simp only [if_neg h]
theorem str_neq {x y : Str} (h : (x != y) = true) : x.cps.toList ≠ y.cps.toList := fun e => by rw [str_ext e] at h; simp at h
theorem str_eqb {x y : Str} (h : (x != y) = false) : x.cps.toList = y.cps.toList := by
  have : x = y := by simpa using h
  rw [this]
theorem tx_257 : (Str.ofString "257").cps.toList = [50, 53, 55] := by decide +kernel
theorem tx_sq : (Str.ofString " \"").cps.toList = [32, 34] := by decide +kernel
theorem parse_stop {resp dir : Str} {i : Int} {D : List Nat} (h5 : 5 ≤ i) (h1 : i < (resp.length : Int)) (hc : (Txt.item resp i == Str.ofString "\"") = true) (hd : dir.cps.toList ++ dirL (resp.cps.toList.drop i.toNat) = D)
    (hend : (resp.length : Int) ≤ i + 1 ∨ (¬ (resp.length : Int) ≤ i + 1 ∧ (Txt.item resp (i + 1) != Str.ofString "\"") = true)) : dir.cps.toList = D := by
  obtain ⟨c, e1, e2⟩ := tx_item (x := resp) (i := i) (by (first | lia | omega)) h1
  rw [e1, tx_beq] at hc
  rw [e2, dirL_stop (of_decide_eq_true hc) ?_, List.append_nil] at hd
  · exact hd
  · intro d r' hr
    rcases hend with h | ⟨h, hb⟩
    · have h3 := congrArg List.length hr
      rw [List.length_drop, ← tx_length, List.length_cons] at h3
      (first | lia | omega)
    · obtain ⟨c', e3, e4⟩ := tx_item (x := resp) (i := i + 1) (by (first | lia | omega)) (Int.not_le.mp h)
      rw [e3, bne, tx_beq] at hb
      rw [Int.toNat_add (by (first | lia | omega)) (by (first | lia | omega)), show ((1 : Int).toNat) = 1 from rfl] at e4
      have := e4.symm.trans hr
      injection this with h4 _
      rw [← h4]
      simpa using hb
theorem parse_two {resp dir : Str} {i : Int} {D : List Nat} (h5 : 5 ≤ i) (h1 : i < (resp.length : Int)) (h2 : ¬ (resp.length : Int) ≤ i + 1) (hc : (Txt.item resp i == Str.ofString "\"") = true) (hb : (Txt.item resp (i + 1) != Str.ofString "\"") = false) (hd : dir.cps.toList ++ dirL (resp.cps.toList.drop i.toNat) = D) :
    (dir ++ Txt.item resp i).length = dir.length + 1 ∧ (dir ++ Txt.item resp i).cps.toList ++ dirL (resp.cps.toList.drop (i + 1 + 1).toNat) = D := by
  obtain ⟨c, e1, e2⟩ := tx_item (x := resp) (i := i) (by (first | lia | omega)) h1
  obtain ⟨c', e3, e4⟩ := tx_item (x := resp) (i := i + 1) (by (first | lia | omega)) (Int.not_le.mp h2)
  rw [e1, tx_beq] at hc
  rw [e3, bne, tx_beq] at hb
  have hb' : c' = 34 := by simpa using hb
  have t1 : (i + 1).toNat = i.toNat + 1 := by (first | lia | omega)
  have t2 : (i + 1 + 1).toNat = i.toNat + 1 + 1 := by (first | lia | omega)
  rw [t1] at e4
  rw [e2, e4, dirL_two (of_decide_eq_true hc) hb'] at hd
  rw [e1, t2]
  refine ⟨by rw [PySem.Str.length_append]; rfl, ?_⟩
  rw [PySem.Str.cps_append, Array.toList_append, List.append_assoc]
  exact hd
theorem parse_one {resp dir : Str} {i : Int} {D : List Nat} (h5 : 5 ≤ i) (h1 : i < (resp.length : Int)) (hc : (Txt.item resp i == Str.ofString "\"") = false) (hd : dir.cps.toList ++ dirL (resp.cps.toList.drop i.toNat) = D) :
    (dir ++ Txt.item resp i).length = dir.length + 1 ∧ (dir ++ Txt.item resp i).cps.toList ++ dirL (resp.cps.toList.drop (i + 1).toNat) = D := by
  obtain ⟨c, e1, e2⟩ := tx_item (x := resp) (i := i) (by (first | lia | omega)) h1
  rw [e1, tx_beq] at hc
  have t1 : (i + 1).toNat = i.toNat + 1 := by (first | lia | omega)
  rw [e2, dirL_one (of_decide_eq_false hc)] at hd
  rw [e1, t1]
  refine ⟨by rw [PySem.Str.length_append]; rfl, ?_⟩
  rw [PySem.Str.cps_append, Array.toList_append, List.append_assoc]
  exact hd
theorem parse_done {resp dir : Str} {i : Int} {D : List Nat} (h5 : 5 ≤ i) (h1 : ¬ i < (resp.length : Int)) (hd : dir.cps.toList ++ dirL (resp.cps.toList.drop i.toNat) = D) : dir.cps.toList = D := by
  rw [List.drop_eq_nil_of_le (by rw [← tx_length]; (first | lia | omega)), dirL, List.append_nil] at hd
  exact hd
theorem parseC {prog : Program} {w : World} {dp un : Nat} {gd : Option (List Code)} {outer : List Env} {s : Shared}
    {base : Heap} {p : Program} {loose : List Str} {mean : ExcName → Option Value} {mg mb : Str → Option Value}
    {resp : Str} {t2 : Tok} {Q E : Value → Shared → Prop}
    (B : Below (Ar dp un gd outer) base outer s.heap) (X : (hd.heap_39 w.params).In s.heap) (T : Top p loose mean mg mb s.heap)
    (hdp : dp + 8 < recursionLimit) (hun : un + 64 < cLine) (hlen : resp.length ≤ 200)
    (exc : resp.cps.toList.take 3 ≠ [50, 53, 55] → ∀ e h' tk' t', RaisedK base outer e (.ref 76) t' [.str resp t2] [] h' → s.heap.UpToSlots h' → E (.ref e) {s with heap := h', toks := tk'})
    (non : resp.cps.toList.take 3 = [50, 53, 55] → (resp.cps.toList.drop 3).take 2 ≠ [32, 34] → ∀ t h' tk', Kp s.heap h' → Q (.str (Str.ofString "") t) {s with heap := h', toks := tk'})
    (ok : resp.cps.toList.take 3 = [50, 53, 55] → (resp.cps.toList.drop 3).take 2 = [32, 34] → ∀ (d : Str) t h' tk', d.cps.toList = dirL (resp.cps.toList.drop 5) → Kp s.heap h' → Q (.str d t) {s with heap := h', toks := tk'}) :
    wpAny (model prog w) (Ar dp un gd outer) (call (.ref 85) [.str resp t2]) Q E s := by
  refine wpAny_call ?_
  tb_start
  k_steps
  · refine exc ?_ _ _ _ _ (by assumption) (by assumption)
    rename (Txt.slice _ _ _ != _) = true => hc
    have h := str_neq hc
    rw [tx_257, show (some (3 : Int)) = some ((3 : Nat) : Int) from rfl, tx_sliceTo] at h
    exact h
  · dsimp only
    k_unfold
    (try dsimp only)
    rename (Txt.slice _ (some _) _ != _) = true => hc
    rename (Txt.slice _ none _ != _) = false => hd
    have h := str_neq hc
    have h2 := str_eqb hd
    rw [tx_257, show (some (3 : Int)) = some ((3 : Nat) : Int) from rfl, tx_sliceTo] at h2
    rw [tx_sq, show (some (3 : Int)) = some ((3 : Nat) : Int) from rfl, show (some (5 : Int)) = some ((5 : Nat) : Int) from rfl, tx_slice] at h
    exact non h2 h _ _ _ (Fr.keep (by k_asm))
  refine unhold ?_
  rename (Txt.slice _ (some _) _ != _) = false => hc
  rename (Txt.slice _ none _ != _) = false => hd
  have h := str_eqb hc
  have h2 := str_eqb hd
  rw [tx_257, show (some (3 : Int)) = some ((3 : Nat) : Int) from rfl, tx_sliceTo] at h2
  rw [tx_sq, show (some (3 : Int)) = some ((3 : Nat) : Int) from rfl, show (some (5 : Int)) = some ((5 : Nat) : Int) from rfl, tx_slice] at h
  replace ok := ok h2 h
  clear h h2 hc hd
  k_with "state" => exact ⟨Int.le_refl _, Nat.zero_le _, Nat.zero_le _, rfl⟩
  k_while (fun _ i dir => 5 ≤ i ∧ dir.length ≤ 200 ∧ (dir.length : Int) + 5 ≤ i ∧ dir.cps.toList ++ dirL (resp.cps.toList.drop i.toNat) = dirL (resp.cps.toList.drop 5)) (fun _ i dir => ((resp.length : Int) - i).toNat) "i" "dirname"
  all_goals k_steps
  all_goals (try refine unhold ?_)
  · rename ((Txt.item _ _ == _) = true) => hc
    rename (_ ++ dirL _ = dirL _) => hd
    have hfin := parse_stop (by (first | lia | omega)) (by (first | lia | omega)) hc hd (.inl (by assumption))
    (try dsimp only)
    (try k_unfold)
    (try dsimp only)
    exact ok _ _ _ _ hfin (Fr.keep (by k_asm))
  · rename ((Txt.item _ _ == _) = true) => hc
    rename ((Txt.item _ _ != _) = true) => hb
    rename (_ ++ dirL _ = dirL _) => hd
    have hfin := parse_stop (by (first | lia | omega)) (by (first | lia | omega)) hc hd (.inr ⟨by (first | lia | omega), hb⟩)
    (try dsimp only)
    (try k_unfold)
    (try dsimp only)
    exact ok _ _ _ _ hfin (Fr.keep (by k_asm))
  · rename ((Txt.item _ _ == _) = true) => hc
    rename ((Txt.item _ _ != _) = false) => hb
    rename (_ ++ dirL _ = dirL _) => hd
    have hfin := parse_two (by (first | lia | omega)) (by (first | lia | omega)) (by (first | lia | omega)) hc hb hd
    kwd_less
    · exact ⟨by (first | lia | omega), by (first | lia | omega), by (first | lia | omega), hfin.2⟩
    · (first | lia | omega)
  · rename ((Txt.item _ _ == _) = false) => hc
    rename (_ ++ dirL _ = dirL _) => hd
    have hfin := parse_one (by (first | lia | omega)) (by (first | lia | omega)) hc hd
    kwd_less
    · exact ⟨by (first | lia | omega), by (first | lia | omega), by (first | lia | omega), hfin.2⟩
    · (first | lia | omega)
  · rename (_ ++ dirL _ = dirL _) => hd
    have hfin := parse_done (by (first | lia | omega)) (by (first | lia | omega)) hd
    (try dsimp only)
    (try k_unfold)
    exact ok _ _ _ _ hfin (Fr.keep (by k_asm))
theorem below_of {A₀ : Around} {base h₀ h : Heap} {outer : List Env} {L : Addr} {m : Str → Option Value} {dp un : Nat} {gd : Option (List Code)} {env : Env}
    (B : Below A₀ base outer h₀) (F : Fr h₀ L h m) (hf : env.frame = some L) (hke : env.scope.kind = .function) :
    Below (Ar dp un gd (env :: outer)) base (env :: outer) h := by
  have B₁ := pushX B F hf hke
  exact ⟨rfl, B₁.stays, B₁.frames⟩
theorem x_of {K : Frag} {h₀ h : Heap} {L : Addr} {m : Str → Option Value} (X : K.In h₀) (F : Fr h₀ L h m) : K.In h := X.keeps F.keep
theorem t_of {p : Program} {loose : List Str} {mean : ExcName → Option Value} {mg mb : Str → Option Value} {h₀ h : Heap} {L : Addr} {m : Str → Option Value} (T : Top p loose mean mg mb h₀) (F : Fr h₀ L h m) : Top p loose mean mg mb h := T.keeps F.keep
theorem dirL_le : ∀ (n : Nat) (l : List Nat), l.length ≤ n → (dirL l).length ≤ l.length := by
  intro n
  induction n with
  | zero => intro l h; rw [List.length_eq_zero_iff.mp (Nat.le_zero.mp h)]; exact Nat.le_refl _
  | succ n ih =>
    intro l h
    cases l with
    | nil => exact Nat.le_refl _
    | cons c r =>
      by_cases hc : c = 34
      · cases r with
        | nil => rw [dirL_stop hc (fun d r' e => by cases e)]; exact Nat.zero_le _
        | cons d r' =>
          by_cases hd : d = 34
          · rw [dirL_two hc hd]
            simp only [List.length_cons] at h ⊢
            have := ih r' (by (first | lia | omega))
            (first | lia | omega)
          · rw [dirL_stop hc (fun d' r'' e => by injection e with e1 e2; rw [← e1]; exact hd)]; exact Nat.zero_le _
      · rw [dirL_one hc]
        simp only [List.length_cons] at h ⊢
        have := ih r (by (first | lia | omega))
        (first | lia | omega)
theorem parseOk {prog : Program} {w : World} {dp un : Nat} {gd : Option (List Code)} {outer : List Env} {s : Shared} {resp : Str} {body : List Nat} {t2 : Tok} {Q E : Value → Shared → Prop}
    (G : Gd w (Ar dp un gd outer) outer s.heap) (hdp : dp + 8 < recursionLimit) (hun : un + 64 < cLine) (hlen : resp.length ≤ 200)
    (hr : resp.cps.toList = 50 :: 53 :: 55 :: 32 :: 34 :: body)
    (ok : ∀ (d : Str) t, d.cps.toList = dirL body → d.length ≤ 200 → ∀ h' tk', Kp s.heap h' → Q (.str d t) {s with heap := h', toks := tk'}) :
    wpAny (model prog w) (Ar dp un gd outer) (call (.ref 85) [.str resp t2]) Q E s := by
  obtain ⟨base, p, loose, mean, mg, mb, B, X, T⟩ := G
  refine parseC B X T hdp hun hlen (fun h => ?_) (fun _ h => ?_) (fun _ _ d t h' tk' hd k => ?_)
  · rw [hr] at h; exact absurd rfl h
  · rw [hr] at h; exact absurd rfl h
  · rw [hr] at hd
    refine ok d t hd ?_ h' tk' k
    rw [tx_length, hd]
    have hl : body.length + 5 ≤ 200 := by rw [tx_length, hr] at hlen; simpa using hlen
    exact Nat.le_trans (dirL_le body.length body (Nat.le_refl _)) (by (first | lia | omega))
theorem tx_pre2 (x y : Str) : (Str.ofString "257 \"" ++ x ++ y).cps.toList = 50 :: 53 :: 55 :: 32 :: 34 :: (x.cps.toList ++ y.cps.toList) := by
  rw [PySem.Str.cps_append, PySem.Str.cps_append, Array.toList_append, Array.toList_append, show (Str.ofString "257 \"").cps.toList = [50, 53, 55, 32, 34] from by decide +kernel]
  rfl
theorem kw3 : True := by
  k_with "exec Assign cons ListComp" => (k_here; k_dflt (refine LCg.Assign_ListComp_U (F₀ := by k_asm) (by rfl) (by with_unfolding_all rfl) (by with_unfolding_all rfl) (by decide) (by rfl) (by decide) (by rfl) (by rfl) (by rfl) ?_))
  k_with "eval ListComp" => (k_here; k_dflt (refine LCg.ListComp_U (F₀ := by k_asm) (by with_unfolding_all rfl) (by decide) (by rfl) (by decide) (by rfl) ?_))
  k_with "CompSrc" => refine Mine.hold ?_
  k_with "KCfEl" => refine Mine.hold ?_
  k_with "call builtin:len" => (k_here; (with_reducible show wpAny _ _ (call (Value.builtin "len") [Value.ref _]) _ _ _); k_dflt (refine' kst_len (by (k_asm)) (by (k_mem)) (by (first | exact IntsAre.length (by assumption) | exact rfl)) (by (omega)) ?_; k_whole))
  exact trivial
theorem fr_name {h₀ h : Heap} {L : Addr} {m : Str → Option Value} {x : Str} {v : Value} (F : Fr h₀ L h m) (hm : m x = some v) : Fr h₀ L h (fun y => if y = x then some v else m y) := by
  have e : (fun y => if y = x then some v else m y) = m := by
    funext y
    by_cases hy : y = x
    · rw [if_pos hy, hy, hm]
    · rw [if_neg hy]
  rw [e]; exact F
theorem overC {prog : Program} {w : World} {dp un : Nat} {gd : Option (List Code)} {outer : List Env} {s : Shared}
    {l : Addr} {vs : List Value} {ns : List Int} {often : Int} {t1 : Tok} {Q E : Value → Shared → Prop}
    (G : Gd w (Ar dp un gd outer) outer s.heap) (hdp : dp + 8 < recursionLimit) (hun : un + 128 < cLine)
    (hl : s.heap.IsList l vs.toArray) (hi : IntsAre vs ns) (hn : ns.length = 8) (hf0 : 0 ≤ often) (hf8 : often ≤ 8) (hb : ∀ x ∈ ns, 0 ≤ x ∧ x < 256)
    (ret : ∀ t h' tk', Kp s.heap h' → Q (.int (overL (ns.take often.toNat) : Int) t) {s with heap := h', toks := tk'}) :
    wpAny (model prog w) (Ar dp un gd outer) (call (.ref 104) [.ref l, .int often t1]) Q E s := by
  obtain ⟨base, p, loose, mean, mg, mb, B, X, T⟩ := G
  refine wpAny_call ?_
  tbn_conj
  k_steps
  refine unhold ?_
  rename (_ = s.heap.objs.size) => hL9
  subst hL9
  rename Fr _ _ _ _ => nF
  rename News _ _ _ _ => nN
  rename (IntsAre _ (List.take _ _)) => hI0
  rename (_ < _) => hlt
  refine While_inv2 (fun n m nx => ∃ D ws xs o e, nx = [(D, listOf ws.toArray e), (s.heap.objs.size + 1, o)] ∧ m (Str.ofString "left") = some (.ref D) ∧ IntsAre ws xs ∧ xs.length = n ∧ n ≤ 8 ∧ overL xs = overL (ns.take often.toNat) ∧ (∀ x ∈ xs, 0 ≤ x ∧ x < 256) ∧ @Ne Nat (s.heap.objs.size + 1) D ∧ ∃ v, o.data = .cell v) (n₀ := (ns.take often.toNat).length) nF nN ⟨_, _, _, _, _, rfl, rfl, hI0, rfl, by rw [List.length_take]; (first | lia | omega), rfl, fun x hx => hb x (List.mem_of_mem_take hx), Nat.ne_of_lt hlt, _, by assumption⟩ ?_
  clear nF nN hlt hI0
  rintro n m₁ news₁ h₁ tk₁ F₁ N₁ ⟨D, ws, xs, o, e, rfl, hm, hI, hlen, hn8, hov, hxb, hlt, cv, hcv⟩
  have F₂ := fr_name F₁ hm
  clear F₁ hm
  cases xs with
  | nil =>
    cases hI
    k_steps
    have hz : overL (ns.take often.toNat) = 0 := by rw [← hov, overL]
    have hr := ret
    rw [hz] at hr
    exact hr _ _ _ (Fr.keep (by k_asm))
  | cons a rs =>
    have hab := hxb a (.head _)
    have hle : ((a :: rs).length : Int) = (rs.length : Int) + 1 := by rw [List.length_cons]; (first | lia | omega)
    k_steps
    · rename (decide (_ = []) = true) => hh
      simp at hh
    · rename ((decide _ == false) = true) => hc
      have hc2 : ¬ 2 * a < 256 := by simpa using hc
      refine unhold ?_
      rename (IntsAre _ (List.drop _ _)) => hI2
      refine LCg.CompSrc.ledger (by rfl) (by k_asm) (by k_asm) (by k_mem) (by kcf_size) ?_
      intro g'
      refine kcf_list (overS a) hI2 (fun k' t' I' oI' C' oC' D' m' ys' h' tk' E' hk' hC' hx' F' N' off' ne' hMark' => ?_) ?_
      all_goals (try k_fold)
      · (try simp only [LCg.Off3, and_true] at off')
        have hk2 := hxb k' (List.mem_of_mem_drop hk')
        k_steps
        · refine unhold (kcf_el ?_ rfl rfl)
          rename ((decide _ == true) = true) => hd
          have hd2 : 2 * k' ≥ 256 := by simpa using hd
          unfold overS
          rw [if_pos hd2]
          rfl
        · refine unhold (kcf_el ?_ rfl rfl)
          rename ((decide _ == true) = false) => hd
          have hd2 : ¬ 2 * k' ≥ 256 := by simpa using hd
          unfold overS
          rw [if_neg hd2]
      · k_steps
        rename (IntsAre _ (List.map _ _)) => hI3
        rename (_ ≠ _ ∧ _ ≠ _ ∧ _ ≠ _ ∧ _ ≠ _) => ho1
        have hne := ho1.2.2.2
        rename Fr _ _ _ _ => nF
        rename News _ _ _ _ => nN
        refine ⟨_, _, _, [_, _], rs.length, rfl, nF, kst_newsOf nN (l' := [_, _]) ?_, by rw [← hlen, List.length_cons]; exact Nat.lt_succ_self _, _, _, rs.map (overS a), _, ys.length, rfl, rfl, hI3, List.length_map _, ?_, ?_, ?_, hne, _, by assumption⟩
        · intro p hp
          rcases List.mem_cons.mp hp with rfl | hp
          · exact List.mem_cons.mpr (Or.inl rfl)
          · rw [List.mem_singleton.mp hp]; simp
        · have : (a :: rs).length = rs.length + 1 := rfl
          (first | lia | omega)
        · rw [← hov, overL_cons, if_neg hc2]
        · intro x hx
          obtain ⟨y, hy, rfl⟩ := List.mem_map.mp hx
          have hyb := hxb y (.tail _ hy)
          exact overS_bnd (by (first | lia | omega)) hab.2 hyb.1 hyb.2
    · rename ((decide _ == false) = false) => hc
      have hc2 : 2 * a < 256 := by simpa using hc
      rw [show ((a :: rs).length : Int) = ((overL (ns.take often.toNat) : Nat) : Int) from by rw [← hov, overL_cons, if_pos hc2, List.length_cons]]
      exact ret _ _ _ (Fr.keep (by k_asm))

end

section
theorem topOffK1 : True := by
  w_top off
  k_with_none
  exact trivial

theorem kw4 : True := by
  k_with "pyIter ref" => ((with_reducible show wpAny _ _ (pyIter (Value.ref _)) (fun it s₂ => LoopAtV _ _ _ _ _ _ _ _ _ it s₂) _ _); refine Mine.hold ?_)
  k_with "newList" => (k_here; k_dflt (refine' newList_L (by (k_asm)) (by (k_asm)) ?_; k_whole); intro l' h' F' N' l1 l2; (try k_lt l1); (try k_lt2 l2); (try k_sweep))
  k_with "tb_start" => (refine' enter0 (by (assumption)) (by (assumption)) (by (assumption)) (by (k_is)) (by (k_is)) (by (ktr_room)) (by (first | exact BindsTo.of_eq rfl | (refine' kp_binds (by (assumption)) (by (exact fun _ => rfl))))) (by (exact locs rfl)) ?_ (by (exact rfl)) (by (exact rfl)) (by (exact rfl)) (by (decide)); k_whole; intro L' h' hL' F' N' B' X' T'; (try dsimp only); (try k_fold))
  k_with "InvEndN" => refine Mine.hold ?_
  k_with "tb_rel" => (rename News _ _ _ _ => nE'; (try simp only [List.push_toArray] at nE'); (first | refine' kst_end ⟨_, _, _, _, _, _, _, _, _⟩ (by k_asm) nE' (by first | kst_in | kst_inAny) (by first | (intro p hp; kst_mem) | kst_anyIn) (by rfl) (by kst_facts) (by kst_all) (by kst_same) ?_ | refine' kst_end ⟨_, _, _, _, _, _, _, _⟩ (by k_asm) nE' (by first | kst_in | kst_inAny) (by first | (intro p hp; kst_mem) | kst_anyIn) (by rfl) (by kst_facts) (by kst_all) (by kst_same) ?_ | refine' kst_end ⟨_, _, _, _, _, _, _⟩ (by k_asm) nE' (by first | kst_in | kst_inAny) (by first | (intro p hp; kst_mem) | kst_anyIn) (by rfl) (by kst_facts) (by kst_all) (by kst_same) ?_ | refine' kst_end ⟨_, _, _, _, _, _⟩ (by k_asm) nE' (by first | kst_in | kst_inAny) (by first | (intro p hp; kst_mem) | kst_anyIn) (by rfl) (by kst_facts) (by kst_all) (by kst_same) ?_ | refine' kst_end ⟨_, _, _, _, _⟩ (by k_asm) nE' (by first | kst_in | kst_inAny) (by first | (intro p hp; kst_mem) | kst_anyIn) (by rfl) (by kst_facts) (by kst_all) (by kst_same) ?_ | refine' kst_end ⟨_, _, _, _⟩ (by k_asm) nE' (by first | kst_in | kst_inAny) (by first | (intro p hp; kst_mem) | kst_anyIn) (by rfl) (by kst_facts) (by kst_all) (by kst_same) ?_ | refine' kst_end ⟨_, _, _⟩ (by k_asm) nE' (by first | kst_in | kst_inAny) (by first | (intro p hp; kst_mem) | kst_anyIn) (by rfl) (by kst_facts) (by kst_all) (by kst_same) ?_ | refine' kst_end ⟨_, _⟩ (by k_asm) nE' (by first | kst_in | kst_inAny) (by first | (intro p hp; kst_mem) | kst_anyIn) (by rfl) (by kst_facts) (by kst_all) (by kst_same) ?_); (try dsimp only))
  k_with "exec For Name Call cons nil" => (k_here; (rename Fr _ _ _ _ => lF'); (with_unfolding_all refine' For_invVF lF' (by (exact rfl)) (by (exact rfl)) ?_; k_whole))
  k_with "kst_facts1" => with_reducible exact IntsAre.cons _ _ IntsAre.nil
  k_with "exec While Compare cons nil" => (k_here; refine Mine.hold ?_)
  k_with "KswEnd" => refine Mine.hold ?_
  k_with "kwd_less" => (rename News _ _ _ _ => nE'; (try simp only [List.push_toArray] at nE'); (first | refine' ksw_end ⟨_, _, _, _, _, _, _⟩ (by k_asm) nE' (by kst_in) (by kst_facts) (by kst_all) (by ksw_same) ?_ ?_ | refine' ksw_end ⟨_, _, _, _, _, _⟩ (by k_asm) nE' (by kst_in) (by kst_facts) (by kst_all) (by ksw_same) ?_ ?_ | refine' ksw_end ⟨_, _, _, _, _⟩ (by k_asm) nE' (by kst_in) (by kst_facts) (by kst_all) (by ksw_same) ?_ ?_ | refine' ksw_end ⟨_, _, _, _⟩ (by k_asm) nE' (by kst_in) (by kst_facts) (by kst_all) (by ksw_same) ?_ ?_ | refine' ksw_end ⟨_, _, _⟩ (by k_asm) nE' (by kst_in) (by kst_facts) (by kst_all) (by ksw_same) ?_ ?_ | refine' ksw_end ⟨_, _⟩ (by k_asm) nE' (by kst_in) (by kst_facts) (by kst_all) (by ksw_same) ?_ ?_); (all_goals (try dsimp only)))
  k_with "tbn_conj" => (refine' enter0C (by (assumption)) (by (assumption)) (by (assumption)) (by (k_is)) (by (k_is)) (by (ktr_room)) (by (exact BindsTo.of_eq rfl)) (by (exact rfl)) (by (decide +kernel)) ?_ (by (exact rfl)) (by (exact rfl)) (by (exact rfl)); k_whole; intro L' h' tk' cells' hL' F' N' Y' B' X' T'; k_cells Y'; (try simp only [List.cons_append, List.nil_append] at N'); (try dsimp only); (try k_fold))
  k_with "exec While BoolOp cons nil" => (k_here; refine Mine.hold ?_)
  k_with "compareOp NotEq ref ref" => (k_here; (with_reducible show wpAny _ _ (compareOp CmpOp.NotEq (Value.ref _) (Value.ref _)) _ _ _); (with_unfolding_all refine' ne_intsK (by (is_list)) (by (first | exact IntsAre.nil | l_intsC)) (by (is_list)) (by (first | exact IntsAre.nil | l_intsC)) (by (ktr_units)) ?_; k_whole))
  k_with "k_ne" => (refine neN ?_; (try dsimp only); (first | lia | omega))
  k_with "execs cons" => (k_here; (try k_gentoks); (with_reducible refine wpAny_execs_cons ?_); k_fold)
  exact trivial
theorem parseRaise {prog : Program} {w : World} {dp un : Nat} {gd : Option (List Code)} {outer : List Env} {s : Shared}
    {base : Heap} {p : Program} {loose : List Str} {mean : ExcName → Option Value} {mg mb : Str → Option Value}
    {resp : Str} {t2 : Tok} {Q E : Value → Shared → Prop}
    (B : Below (Ar dp un gd outer) base outer s.heap) (X : (hd.heap_39 w.params).In s.heap) (T : Top p loose mean mg mb s.heap)
    (hdp : dp + 8 < recursionLimit) (hun : un + 64 < cLine) (hlen : resp.length ≤ 200) (hr : resp.cps.toList.take 3 ≠ [50, 53, 55])
    (exc : ∀ e h' tk' t', RaisedK base outer e (.ref 76) t' [.str resp t2] [] h' → s.heap.UpToSlots h' → E (.ref e) {s with heap := h', toks := tk'}) :
    wpAny (model prog w) (Ar dp un gd outer) (call (.ref 85) [.str resp t2]) Q E s :=
  parseC B X T hdp hun hlen (fun _ => exc) (fun h => absurd h hr) (fun h => absurd h hr)
theorem parseNone {prog : Program} {w : World} {dp un : Nat} {gd : Option (List Code)} {outer : List Env} {s : Shared} {resp : Str} {a b : Nat} {body : List Nat} {t2 : Tok} {Q E : Value → Shared → Prop}
    (G : Gd w (Ar dp un gd outer) outer s.heap) (hdp : dp + 8 < recursionLimit) (hun : un + 64 < cLine) (hlen : resp.length ≤ 200)
    (hr : resp.cps.toList = 50 :: 53 :: 55 :: a :: b :: body) (hne : [a, b] ≠ [32, 34])
    (ok : ∀ t, ∀ h' tk', Kp s.heap h' → Q (.str (Str.ofString "") t) {s with heap := h', toks := tk'}) :
    wpAny (model prog w) (Ar dp un gd outer) (call (.ref 85) [.str resp t2]) Q E s := by
  obtain ⟨base, p, loose, mean, mg, mb, B, X, T⟩ := G
  refine parseC B X T hdp hun hlen (fun h => ?_) (fun _ _ => ok) (fun _ h => ?_)
  · rw [hr] at h; exact absurd rfl h
  · rw [hr] at h; exact absurd h hne
theorem tx_len_157 : (Str.ofString "157").length = 3 := by decide +kernel
open Builtin Builtin.Str Builtin.BaseException Builtin.Exceptions in
theorem ownArgs {M : Model} {A : Around} {E : Value → Shared → Prop} {s : Shared} {e t0 : Addr} {oe : Obj} {ws : Array Value} {items : List Value} {Q : Value × List Value → Shared → Prop}
    (ho : s.heap.get? e = some oe) (hd : oe.data = .fields ws) (h0 : ws[0]? = some (.ref t0)) (ht : s.heap.TupAt t0 items) (hq : Q (.ref t0, items) s) :
    wpAny M A (bexcArgs (.ref e)) Q E s := by
  obtain ⟨ot, k, hto, _, htd⟩ := ht
  unfold bexcArgs
  refine wpAny_bind (wpAny_field ho hd h0 (wpAny_bind (wpAny_seqItems hto htd ?_)))
  have : items.toArray.toList = items := by simp
  show wpAny M A (pure (Value.ref t0, items.toArray.toList)) Q E s
  rw [this]; exact wpAny_pure hq
theorem slot_bexc : Slot "Exception" "__str__" "BaseException.__str__" := PySem.F.excStr_Exception.str
open Builtin Builtin.Str Builtin.BaseException Builtin.Exceptions in
theorem ownStr {prog : Program} {w : World} {A : Around} {E : Value → Shared → Prop} {s : Shared} {K : Frag} {C e t0 : Addr} {oe : Obj} {ws : Array Value} {m : Str} {tk : Tok} {Q : Value → Shared → Prop}
    (hu : A.units + 2 < cLine) (X : K.In s.heap) (ho : s.heap.get? e = some oe) (hc : oe.cls = .ref C) (hd : oe.data = .fields ws) (h0 : ws[0]? = some (.ref t0)) (ht : s.heap.TupAt t0 [.str m tk])
    (hs : findIn K (.ref C) "__str__" = some (some (.builtin "BaseException.__str__"))) (hm : mroIn K C (.type "BaseException") = some true)
    (hq : Q (.str m tk) s) : wpAny (model prog w) A (call (.type "str") [.ref e]) Q E s := by
  have hty : ∀ M : Model, Looks M s.heap (typeOf (.ref e)) (.ref C) := fun M => by
    refine (Looks.ld (part := none) ho).andThen ?_
    rw [hc]
    exact .now
  have hcall : ∀ {prog : Program} {w : World} {A' : Around} {E' : Value → Shared → Prop} {Q' : Value → Shared → Prop}, Q' (.str m tk) s → wpAny (model prog w) A' (call (.builtin "BaseException.__str__") [.ref e]) Q' E' s := fun {prog w A' E' Q'} hq' => by
    refine wpAny_call (codeAny_call_builtin slot_bexc.plain PySem.F.entry_bexc_str (check_slot (i := "BaseException.__str__") (owner := "BaseException") (n := "__str__") (by decide +kernel) (by decide +kernel) ((hty _).andThen (looks_mroIn X hm)) (PySem.F.args_bexc_str _) ?_))
    unfold Builtin.«BaseException.__str__»
    repeat (first | with_reducible refine ownArgs ho hd h0 ht ?_ | wp_step)
    exact hq'
  refine PySem.callType_new PySem.F.called_str (by decide) (PySem.F.typeCall_str_1 _) (PySem.F.newCall_str_1 _) (fun obj => PySem.F.args_object_init_2 obj _) PySem.F.entry_str_new
    (meets_str_new (S := fun A' R s' => A'.units + 1 < cLine ∧ s' = s ∧ R (.ok (.ret (.str m tk))) s')
      fun prog w A' R' s' hq' => ?_)
    ⟨(show A.units + 1 + 1 < cLine from hu), rfl, typeIs_str _ _ _, hq⟩
  obtain ⟨hu', rfl, hr⟩ := hq'
  unfold PySem.Builtin.Str.strOf
  rw [show isExactStr (.ref e) = false from rfl]
  refine wpAny_bind (m := cRoomFor _ _) (wpAny_cRoomFor hu' ?_)
  refine wpAny_bind (m := callSpecial? (.ref e) (Str.ofString "__str__")) (wpAny_bind (wpAny_bind ((hty _).here ((looks_findIn X hs).here (wpAny_holding (wpAny_bind ((Looks.of_pure (slot_bexc.bind _)).here (wpAny_bind (hcall (wpAny_pure ?_))))))))))
  exact wpAny_pure hr
theorem goesX {M : Model} {A : Around} {E : Value → Shared → Prop} {s : Shared} {h₀ : Heap} {L : Addr} {m : Str → Option Value} {env : Env} {n : Str} {pos : Pos} {Q : Unit → Shared → Prop}
    (F : Fr h₀ L s.heap m) (hL : env.locals = L) (hk : env.scope.kind = .function) (hl : env.kindOf n = some .local) {news : List (Addr × Obj)} (N : News h₀ L s.heap news)
    (h : ∀ h' v, Fr h₀ L h' (fun x => if x = n then v else m x) → News h₀ L h' news → Q () { s with heap := h', toks := s.toks + 1 }) :
    wpAny M A (do bindName env n .none; unbindBehindTheSuite env n pos) Q E s := by
  subst hL
  refine wpAny_nameGoes_keeps hl F.ns ?_ fun h' v hn hs => h h' v (F.set hn hs) (fun q hq => ?_)
  · rw [hk]; rfl
  · exact ⟨(hs.2 q.1 (fun z => (N q hq).2.1 z)).trans (N q hq).1, (N q hq).2⟩
theorem caughtX {prog : Program} {w : World} {A : Around} {E : Value → Shared → Prop} {s' : Shared} {h g : Heap} {env : Env} {outer : List Env} {L e t C : Addr} {m : Str → Option Value} {vs : List Value}
    {n x : Str} {b₀ : Stmt} {suite : List Stmt} {pos np : Pos} {rest : List ExceptHandler} {Q : Flow → Shared → Prop} {K : Frag} {B₁ : Heap} {nws : List (Addr × Obj)}
    (hA : A.frames = some (env :: outer)) (hf : env.frame = some L)
    (R : RaisedK B₁ (env :: outer) e (.ref C) t vs nws s'.heap) (hB : ∀ b o, h.get? b = some o → b ∉ (env :: outer).filterMap (·.frame) → B₁.get? b = some o)
    (F : Fr g L h m) (hgs : g.StaysIn B₁) (hsm : h.UpToSlots s'.heap) (X : K.In g) (q : ktsIn K C "BaseException" = true)
    (hname : ∀ (A' : Around) (Q' : Value → Shared → Prop) (E' : Value → Shared → Prop) (s₁ : Shared), Fr g L s₁.heap m → Q' (.ref C) s₁ → wpAny (model prog w) A' (eval (.Name x np) env) Q' E' s₁)
    (k : ∀ h' oe ot ws nt, Fr g L h' m → h.UpToSlots h' → (∀ b o, h.get? b = some o → b ∉ (env :: outer).filterMap (·.frame) → h'.get? b = some o) →
      h'.get? e = some oe → oe.cls = .ref C → oe.data = .fields ws → ws[0]? = some (.ref t) → B₁.get? e = none → h'.get? t = some ot → ot.cls = .type "tuple" → ot.data = .seq vs.toArray nt → B₁.get? t = none →
      wpAny (model prog w) (A.mark (some (.ref e))) (storeName env n (.ref e)) (fun _ s₃ => wpAny (model prog w) (A.mark (some (.ref e))) (execs (b₀ :: suite) env)
        (fun f s₄ => wpAny (model prog w) A (do bindName env n .none; unbindBehindTheSuite env n pos) (fun _ s₅ => Q f s₅) E s₄)
        (AsSuiteRaised (model prog w) (A.mark (some (.ref e))) env n pos (notedBy (model prog w) (A.mark (some (.ref e))) env (cameBackBy (model prog w) A env E))) s₃)
        (notedBy (model prog w) (A.mark (some (.ref e))) env (cameBackBy (model prog w) A env E)) { s' with heap := h' }) :
    wpAny (model prog w) A (noteFrame (.ref e) env)
      (fun _ s₂ => wpAny (model prog w) A (setFlight (.ref e) none) (fun _ s₃ =>
        wpAny (model prog w) A (handleBy (.ref e) env (.ExceptHandler (some (.Name x np)) (some n) (b₀ :: suite) pos :: rest)) Q E s₃) E s₂) E s' := by
  obtain ⟨⟨B, hBB, _, hfl, hnew⟩, htup⟩ := R
  refine wpAny_looks_onW hA hf hfl fun h₄ hheld₄ hsm₄ => ?_
  refine wpAny_landsW hheld₄ fun h₅ hheld hsm₅' => ?_
  have hsm₅ := hsm₄.trans hsm₅'
  have kB : ∀ h₁ : Heap, B.StaysIn h₁ → ∀ b o, h.get? b = some o → b ∉ (env :: outer).filterMap (·.frame) → h₁.get? b = some o := fun h₁ hs b o e nm => hs b o (hBB b o (hB b o e nm))
  have F₅ : Fr g L h₅ m := ⟨(hsm.trans hsm₅).ns F.ns, fun b o e => hheld.1 b o (hBB b o (hgs b o e)), F.above⟩
  obtain ⟨ob, hob, hobc⟩ := hheld.there
  obtain ⟨nm, q', N, bs, bm, hdct, sn, sub, ab, col, dd, k0, k1, k2, k3, k5, newId, hC, hbase, hbT⟩ := kts_cls X q
  have hC₅ := F₅.keep _ _ hC
  refine wpAny_handleBy_cons (codeAny_handlers_test (hname _ _ _ _ F₅ ?_)) (by intro q; cases q)
  refine wpAny_excMatches_sub_self hC₅ hob hobc hbase (codeAny_handlers_suite_as ?_)
  refine lands_againW hheld fun h₆ hfl₆ hsm₆ => ?_
  obtain ⟨oe, ws, hoe, hoec, hoed, hoe0⟩ := hfl₆.first
  obtain ⟨ot, nt, hot, hotc, hotd⟩ := (htup.of_slots hsm₅).of_slots hsm₆
  have hne : ∀ b, B.get? b = none → B₁.get? b = none := fun b hb => by
    cases z : B₁.get? b with
    | none => rfl
    | some o => rw [hBB b o z] at hb; cases hb
  exact k h₆ oe ot ws nt ⟨((hsm.trans hsm₅).trans hsm₆).ns F.ns, fun b o e => hfl₆.1 b o (hBB b o (hgs b o e)), F.above⟩ ((hsm.trans hsm₅).trans hsm₆) (kB h₆ hfl₆.1) hoe hoec hoed hoe0 (hne _ hfl₆.2.1) hot hotc hotd (hne _ hnew)
theorem news_two {h₀ h : Heap} {L : Addr} {x y : Addr × Obj} {l : List (Addr × Obj)} (N : News h₀ L h (x :: y :: l)) : News h₀ L h l := fun p hp => N p (.tail _ (.tail _ hp))
theorem ledgerR {g0 h0 h1 : Heap} {L Lo : Addr} {oL : Obj} {m : Str → Option Value} {cells : List (Addr × Obj)} (hst : g0.StaysIn h0) (F : Fr h0 L h1 m) (N : News h0 L h1 cells) (ho : h0.get? Lo = some oL) (hn : g0.get? Lo = none) : News g0 L h1 ((Lo, oL) :: cells) := by
  intro q hq
  rcases List.mem_cons.mp hq with rfl | hq
  · refine ⟨F.keep _ _ ho, fun z => ?_, hn⟩
    have h1 := Heap.lt_size ho
    have h2 := F.above
    have z : Lo = L := z
    rw [z] at h1
    exact absurd h1 (Nat.not_lt.mpr h2)
  · exact ⟨(N q hq).1, (N q hq).2.1, fresh_of_stays hst (N q hq).2.2⟩
theorem frameR {g0 h0 h1 : Heap} {L : Addr} {m : Str → Option Value} (hst : g0.StaysIn h0) (hsz : g0.objs.size ≤ h0.objs.size) (F : Fr h0 L h1 m) : Fr g0 L h1 m :=
  ⟨F.ns, fun b o e => F.keep b o (hst b o e), Nat.le_trans hsz F.above⟩
theorem gd_fr {dp un : Nat} {gd : Option (List Code)} {envC envL : Env} {g0 h : Heap} {L Lo : Addr} {oL : Obj} {m : Str → Option Value} {news : List (Addr × Obj)}
    (F : Fr g0 L h m) (N : News g0 L h news) (hm : (Lo, oL) ∈ news) (hd : ∃ es n, oL.data = .dict es n) (hfL : envL.frame = some Lo) (hkL : envL.scope.kind = .function)
    (hfC : envC.frame = some L) (hkC : envC.scope.kind = .function) : Below (Ar dp un gd [envC, envL]) g0 [envC, envL] h := by
  refine ⟨rfl, F.keep, ?_⟩
  have hd : ∀ vs, oL.data ≠ .fields vs := fun vs q => by obtain ⟨es, n, hd⟩ := hd; rw [hd] at q; cases q
  refine .cons (by rw [hkC]; decide) hfC F.ns (kts_self F) ?_
  exact ⟨by rw [hkL]; decide, ⟨Lo, oL, hfL, (N _ hm).2.2, (N _ hm).1, hd⟩, trivial⟩
theorem bad_take {a : Str} {l : List Nat} (y : Str) (ha : a.cps.toList = l) (h3 : 3 ≤ l.length) (hne : l.take 3 ≠ [50, 53, 55]) : (a ++ y).cps.toList.take 3 ≠ [50, 53, 55] := by
  rw [PySem.Str.cps_append, Array.toList_append, ha, List.take_append_of_le_length h3]
  exact hne
theorem parseBad {prog : Program} {w : World} {dp un : Nat} {gd : Option (List Code)} {envC envL : Env} {s : Shared} {g0 : Heap} {L Lo : Addr} {oL : Obj} {m : Str → Option Value} {news : List (Addr × Obj)}
    {p : Program} {loose : List Str} {mean : ExcName → Option Value} {mg mb : Str → Option Value} {a y : Str} {t2 : Tok} {Q E : Value → Shared → Prop}
    (X : (hd.heap_39 w.params).In g0) (T : Top p loose mean mg mb g0) (F : Fr g0 L s.heap m) (N : News g0 L s.heap news) (hfL : envL.frame = some Lo) (hm : (Lo, oL) ∈ news) (hd : ∃ es n, oL.data = .dict es n) (hkL : envL.scope.kind = .function)
    (hfC : envC.frame = some L) (hkC : envC.scope.kind = .function) (hdp : dp + 8 < recursionLimit) (hun : un + 64 < cLine) (hlen : y.length ≤ 100)
    (h3 : (decide (3 ≤ a.cps.toList.length) && decide (a.cps.toList.length ≤ 50) && decide (a.cps.toList.take 3 ≠ [50, 53, 55])) = true)
    (exc : ∀ e h' tk' t', RaisedK (hideAll s.heap ([envC, envL].filterMap (·.frame))) [envC, envL] e (.ref 76) t' [.str (a ++ y) t2] [] h' → s.heap.UpToSlots h' → E (.ref e) {s with heap := h', toks := tk'}) :
    wpAny (model prog w) (Ar dp un gd [envC, envL]) (call (.ref 85) [.str (a ++ y) t2]) Q E s := by
  have B := gd_fr (dp := dp) (un := un) (gd := gd) F N hm hd hfL hkL hfC hkC
  have hin : ∀ env ∈ [envC, envL], ∀ b, env.frame = some b → b ∈ [envC, envL].filterMap (·.frame) := fun env he b hb => List.mem_filterMap.mpr ⟨env, he, hb⟩
  have B1 : Below (Ar dp un gd [envC, envL]) (hideAll s.heap ([envC, envL].filterMap (·.frame))) [envC, envL] s.heap := ⟨rfl, fun b o q => of_hideAll _ q, funFrames_hide B.frames hin⟩
  simp only [Bool.and_eq_true, decide_eq_true_eq] at h3
  obtain ⟨⟨h3, h8⟩, hne⟩ := h3
  refine parseRaise B1 (X.keeps F.keep) (T.keeps F.keep) hdp hun ?_ (bad_take y rfl h3 hne) exc
  rw [PySem.Str.length_append, tx_length a]
  (first | lia | omega)
theorem caughtR {prog : Program} {w : World} {A : Around} {E : Value → Shared → Prop} {s' : Shared} {h g0 : Heap} {envC envL : Env} {L Lo e t C : Addr} {oL : Obj} {m : Str → Option Value} {vs : List Value}
    {n x : Str} {b₀ : Stmt} {suite : List Stmt} {pos np : Pos} {rest : List ExceptHandler} {Q : Flow → Shared → Prop} {K : Frag} {news : List (Addr × Obj)}
    (hfL : envL.frame = some Lo) (R : RaisedK (hideAll h ([envC, envL].filterMap (·.frame))) [envC, envL] e (.ref C) t vs [] s'.heap) (hA : A.frames = some [envC, envL]) (hfC : envC.frame = some L) (hloc : envC.locals = L) (hkC : envC.scope.kind = .function) (hl : envC.kindOf n = some .local)
    (F : Fr g0 L h m) (N : News g0 L h news) (hm : (Lo, oL) ∈ news) (hd : ∃ es n, oL.data = .dict es n) (hsm : h.UpToSlots s'.heap) (X : K.In g0) (q : ktsIn K C "BaseException" = true)
    (hname : ∀ (A' : Around) (Q' : Value → Shared → Prop) (E' : Value → Shared → Prop) (s₁ : Shared), Fr g0 L s₁.heap m → Q' (.ref C) s₁ → wpAny (model prog w) A' (eval (.Name x np) envC) Q' E' s₁)
    (k : ∀ h' tk' oe ot ws nt sl, Fr g0 L h' (fun y => if y = n then some (.ref e) else m y) → (∀ b o, h.get? b = some o → b ≠ L → b ≠ Lo → h'.get? b = some o) →
      h'.get? Lo = some { oL with slots := sl } → News g0 L h' [(e, oe), (t, ot)] → @Ne Nat e Lo → @Ne Nat t Lo → oe.cls = .ref C → oe.data = .fields ws → ws[0]? = some (.ref t) → ot.cls = .type "tuple" → ot.data = .seq vs.toArray nt →
      wpAny (model prog w) (A.mark (some (.ref e))) (execs (b₀ :: suite) envC)
        (fun f s₄ => wpAny (model prog w) A (do bindName envC n .none; unbindBehindTheSuite envC n pos) (fun _ s₅ => Q f s₅) E s₄)
        (AsSuiteRaised (model prog w) (A.mark (some (.ref e))) envC n pos (notedBy (model prog w) (A.mark (some (.ref e))) envC (cameBackBy (model prog w) A envC E)))
        { s' with heap := h', toks := tk' }) :
    wpAny (model prog w) A (noteFrame (.ref e) envC)
      (fun _ s₂ => wpAny (model prog w) A (setFlight (.ref e) none) (fun _ s₃ =>
        wpAny (model prog w) A (handleBy (.ref e) envC (.ExceptHandler (some (.Name x np)) (some n) (b₀ :: suite) pos :: rest)) Q E s₃) E s₂) E s' := by
  have hmf : ∀ b, b ∈ [envC, envL].filterMap (·.frame) → b = L ∨ b = Lo := fun b hb => by
    rw [List.filterMap_cons, hfC, List.filterMap_cons, hfL] at hb
    simpa using hb
  have hst : g0.StaysIn (hideAll h ([envC, envL].filterMap (·.frame))) := fun b o hb => hideAll_get _ (F.keep b o hb) fun hx => by
    rcases hmf b hx with rfl | rfl
    · rw [kts_self F] at hb; cases hb
    · rw [(N _ hm).2.2] at hb; cases hb
  refine caughtX hA hfC R (fun b o hb nm => hideAll_get _ hb nm) F hst hsm X q hname (fun h₁ oe ot ws nt F₁ U₁ k₁ he hec hed he0 hen ht htc htd htn => ?_)
  subst hloc
  have hdF : ∀ vs, oL.data ≠ .fields vs := fun vs q => by obtain ⟨es, n, hd⟩ := hd; rw [hd] at q; cases q
  obtain ⟨sl, hLo⟩ := U₁ Lo oL (N _ hm).1 hdF
  have heL : e ≠ Lo := fun z => by
    rw [z, hLo] at he
    cases he
    exact hdF _ hed
  have htL : t ≠ Lo := fun z => by
    obtain ⟨es, n, hd⟩ := hd
    rw [z, hLo] at ht
    cases ht
    have htd : oL.data = _ := htd
    rw [hd] at htd
    cases htd
  have hLne : Lo ≠ envC.locals := (N _ hm).2.1
  obtain ⟨oF, es, ep, hoF, hoFd, _⟩ := F₁.ns
  refine wpAny_storeName_local hl F₁.ns (fun h₂ hn hs => ?_) (by rw [hkC]; rfl)
  refine k h₂ _ oe ot ws nt _ (F₁.set hn hs) (fun b o hb n1 n2 => ?_) ((hs.2 Lo hLne).trans hLo) (fun q hq => ?_) heL htL hec hed he0 htc htd
  · exact (hs.2 b n1).trans (k₁ b o hb fun hx => (hmf b hx).elim n1 n2)
  · have hne : ∀ b o, h₁.get? b = some o → (∀ es n, o.data ≠ .dict es n) → b ≠ envC.locals := fun b o hb hx z => by
      subst z
      rw [hoF] at hb
      cases hb
      exact hx _ _ hoFd
    have hnn : ∀ b, (hideAll h ([envC, envL].filterMap (·.frame))).get? b = none → g0.get? b = none := fun b hb => by
      cases z : g0.get? b with
      | none => rfl
      | some o => rw [hst b o z] at hb; cases hb
    rcases List.mem_cons.mp hq with rfl | hq
    · have z := hne e oe he fun es n q => by rw [hed] at q; cases q
      exact ⟨(hs.2 e z).trans he, z, hnn e hen⟩
    · rcases List.mem_cons.mp hq with rfl | hq
      · have z := hne t ot ht fun es n q => by rw [htd] at q; cases q
        exact ⟨(hs.2 t z).trans ht, z, hnn t htn⟩
      · cases hq
inductive NewsTurn (Lo : Addr) (o' : Obj) : List (Addr × Obj) → List (Addr × Obj) → Prop
  | nil : NewsTurn Lo o' [] []
  | here {o : Obj} {a b : List (Addr × Obj)} : NewsTurn Lo o' a b → NewsTurn Lo o' ((Lo, o) :: a) ((Lo, o') :: b)
  | same {q : Addr} {o : Obj} {a b : List (Addr × Obj)} : @Ne Nat q Lo → NewsTurn Lo o' a b → NewsTurn Lo o' ((q, o) :: a) ((q, o) :: b)
theorem turn_news {g0 h h' : Heap} {L Lo : Addr} {o' : Obj} {news news' : List (Addr × Obj)} (W : NewsTurn Lo o' news news') (k : ∀ b o, h.get? b = some o → b ≠ L → b ≠ Lo → h'.get? b = some o) (hLo : h'.get? Lo = some o')
    (N : News g0 L h news) : News g0 L h' news' := by
  induction W with
  | nil => exact fun q hq => nomatch hq
  | here W ih =>
    intro q hq
    rcases List.mem_cons.mp hq with rfl | hq
    · exact ⟨hLo, (N _ (.head _)).2⟩
    · exact ih (fun p hp => N p (.tail _ hp)) q hq
  | same hne W ih =>
    intro q hq
    rcases List.mem_cons.mp hq with rfl | hq
    · exact ⟨k _ _ (N _ (.head _)).1 (N _ (.head _)).2.1 hne, (N _ (.head _)).2⟩
    · exact ih (fun p hp => N p (.tail _ hp)) q hq
theorem turn_go {P : Prop} {g0 h h' : Heap} {L Lo : Addr} {o' : Obj} {news news' n2 : List (Addr × Obj)} (N2 : News g0 L h' n2) (k : ∀ b o, h.get? b = some o → b ≠ L → b ≠ Lo → h'.get? b = some o) (hLo : h'.get? Lo = some o')
    (N : News g0 L h news) (W : NewsTurn Lo o' news news') (go : News g0 L h' (n2 ++ news') → P) : P :=
  go fun q hq => (List.mem_append.mp hq).elim (N2 q) (turn_news W k hLo N q)
theorem ownStrN {prog : Program} {w : World} {A : Around} {E : Value → Shared → Prop} {s : Shared} {g0 : Heap} {L e t : Addr} {m0 : Str → Option Value} {news : List (Addr × Obj)} {oe ot : Obj} {ws : Array Value} {nt : Nat} {m : Str} {tk : Tok} {K : Frag} {C : Addr} {Q : Value → Shared → Prop}
    (F : Fr g0 L s.heap m0) (N : News g0 L s.heap news) (X : K.In g0) (he : (e, oe) ∈ news) (hc : oe.cls = .ref C) (hd : oe.data = .fields ws) (h0 : ws[0]? = some (.ref t)) (ht : (t, ot) ∈ news) (htc : ot.cls = .type "tuple") (htd : ot.data = .seq [Value.str m tk].toArray nt)
    (hu : A.units + 2 < cLine) (hs : findIn K (.ref C) "__str__" = some (some (.builtin "BaseException.__str__"))) (hm : mroIn K C (.type "BaseException") = some true) (hq : Q (.str m tk) s) : wpAny (model prog w) A (call (.type "str") [.ref e]) Q E s :=
  ownStr hu (X.keeps F.keep) (N _ he).1 hc hd h0 ⟨ot, nt, (N _ ht).1, htc, htd⟩ hs hm hq
theorem endR {P : Prop} {g0 h0 h : Heap} {L Lo : Addr} {oL : Obj} {m : Str → Option Value} {news : List (Addr × Obj)} {sl : Array (Option Value)} (ret : ∀ sl, h.get? Lo = some { oL with slots := sl } → (∀ b o, h0.get? b = some o → b ≠ Lo → h.get? b = some o) → P)
    (F : Fr g0 L h m) (N : News g0 L h news) (hm : (Lo, { oL with slots := sl }) ∈ news) (hks : ∀ b o, h0.get? b = some o → b ≠ Lo → g0.get? b = some o) : P :=
  ret sl (N _ hm).1 fun b o e n => F.keep b o (hks b o e n)
def RefP (s₀ : Shared) (g0 : Heap) (L Lo : Addr) (oL : Obj) (c : Addr) (oc : Obj) (s' : Shared) : Prop :=
  ∃ h' tk' m' sl, s' = { s₀ with heap := h', toks := tk' } ∧ Fr g0 L h' m' ∧ News g0 L h' [(Lo, { oL with slots := sl }), (c, oc)]
theorem refCut {M : Model} {A : Around} {E : Value → Shared → Prop} {s₀ s₁ : Shared} {env : Env} {st : Stmt} {rest : List Stmt} {Q : Flow → Shared → Prop} {g0 h : Heap} {L Lo c : Addr} {oL oc : Obj} {m : Str → Option Value}
    (_F : Fr g0 L h m) (_N : News g0 L h [(Lo, oL), (c, oc)])
    (walk : wpAny M A (exec st env) (fun f s' => f = .next ∧ RefP s₀ g0 L Lo oL c oc s') E s₁)
    (key : ∀ h' tk' m' sl, Fr g0 L h' m' → News g0 L h' [(Lo, { oL with slots := sl }), (c, oc)] → wpAny M A (execs rest env) Q E { s₀ with heap := h', toks := tk' }) : wpAny M A (execs (st :: rest) env) Q E s₁ :=
  wpAny_execs_cons (wpAny_mono walk (fun f s' h => by
    obtain ⟨rfl, h', tk', m', sl, rfl, F, N⟩ := h
    exact key h' tk' m' sl F N) fun _ _ e => e)
theorem refEnd {s₀ : Shared} {g0 h : Heap} {L Lo c : Addr} {oL oc : Obj} {m : Str → Option Value} {news : List (Addr × Obj)} {tk : Nat} {sl : Array (Option Value)} (F : Fr g0 L h m) (N : News g0 L h news) (hm : (Lo, { oL with slots := sl }) ∈ news) (hc : (c, oc) ∈ news) :
    RefP s₀ g0 L Lo oL c oc { s₀ with heap := h, toks := tk } :=
  ⟨h, tk, m, sl, rfl, F, fun q hq => by
    rcases List.mem_cons.mp hq with rfl | hq
    · exact N _ hm
    · rw [List.mem_singleton.mp hq]; exact N _ hc⟩
def TupIn (ax : Addr) (its : Array Value) (news : List (Addr × Obj)) : Prop := ∃ o, (ax, o) ∈ news ∧ o.cls = .type "tuple" ∧ ∃ n, o.data = .seq its n
theorem TupIn.at {h₀ h : Heap} {L ax : Addr} {its : Array Value} {news : List (Addr × Obj)} (x : TupIn ax its news) (N : News h₀ L h news) : h.IsTuple ax its := by
  obtain ⟨o, hm, hc, n, hd⟩ := x
  exact ⟨o, (N _ hm).1, hc, n, hd⟩
theorem tup_st {ax I : Addr} {its : Array Value} {h₀ : Heap} {L : Addr} : ∀ i (h h' : Heap) (o : Obj) (nw : List (Addr × Obj)), (h.IsTupleIter I ax i ∧ h.IsTuple ax its) → h.get? I = some o → h'.get? I = some o → (∀ b o, h₀.get? b = some o → h'.get? b = some o) → News h₀ L h' nw → TupIn ax its nw → (h'.IsTupleIter I ax i ∧ h'.IsTuple ax its) :=
  fun i h h' o nw st e e' k N S => ⟨by obtain ⟨o', q, r⟩ := st.1; rw [e] at q; cases q; exact ⟨o, e', r⟩, S.at N⟩
def SrcTu (prog : Program) (w : World) (A : Around) (h₀ : Heap) (L : Addr) (m : Str → Option Value) (env : Env) (elt : Expr) (x : Str) (scope : Scope) (cl : List (Str × Addr)) (Fin : Shared → List Value → List (Addr × Obj) → Prop) (xv : Value) (s₁ : Shared) : Prop :=
  ∃ ax its news, xv = .ref ax ∧ A.handled = none ∧ Fr h₀ L s₁.heap m ∧ News h₀ L s₁.heap news ∧ TupIn ax its news ∧ its.size ≤ sizeLine ∧
    ∀ s₂ : Shared, (∃ h, s₂ = { s₁ with heap := h }) → LCg.CompRest prog w A h₀ L m env elt x scope cl s₂ (TupIn ax its) (fun i v => its[i]? = some v) (Fin s₂) its.size 0 [] news
theorem ListComp_TU {prog : Program} {w : World} {A : Around} {E : Value → Shared → Prop} {s : Shared} {h₀ : Heap} {L : Addr} {m : Str → Option Value} {env : Env} {elt iter : Expr} {x : Str} {px : Pos} {scope : Scope} {cl : List (Str × Addr)} {pos : Pos} {Q : Value → Shared → Prop} (F₀ : Fr h₀ L s.heap m)
    (hclos : closureFor scope env = pure cl) (hcell : ∀ y ∈ scope.names, y.2 ≠ .cell) (hkind : scope.kind = .function)
    (hnames : ∀ y ∈ scope.names, y.2 = .local → scope.names.lookup y.1 = some .local) (hx : scope.names.lookup x = some .local)
    (h : wpAny (model prog w) A (eval iter env) (SrcTu prog w A h₀ L m env elt x scope cl (fun s₂ => LCg.FinE h₀ L m s₂ Q)) E s)
    (hs : ∀ x, foldedSetIterable iter env x = pure x := by intro _; rfl) :
    wpAny (model prog w) A (eval (.ListComp elt [⟨.Name x px, iter, [], 0⟩] scope pos) env) Q E s := by
  rw [eval_ListComp]
  refine wpAny_comprehension_free (use := none) rfl hs hclos hkind hnames (wpAny_mono h (fun xv s₁ h₁ => ?_) fun _ _ e => e)
  obtain ⟨ax, its, news, rfl, hh, F, N, S, hsz, R⟩ := h₁
  have hl := S.at N
  have hlt : ax < s₁.heap.objs.size := by obtain ⟨_, e, _⟩ := hl; exact Heap.lt_size e
  refine wpAny_pyIter_tuple hl ?_
  have up : ∀ b o, s₁.heap.get? b = some o → (s₁.heap.push { cls := .type "tuple_iterator", data := .fields #[.ref ax, .int 0 0] }).get? b = some o := fun b o e => Heap.get?_push_of_some _ e
  refine LCg.block_U (Walks.tuple hh s₁.heap.objs.size ax (Nat.ne_of_lt hlt) its) hsz (fun i h st => by obtain ⟨o, e, _⟩ := st.1; exact ⟨o, e⟩) tup_st hcell hkind hx ⟨⟨_, Heap.get?_push_size _ rfl, rfl, rfl⟩, hl.at (up _)⟩ (fun b hb => ?_)
    (F.keeps up) (N.grown up) (Nat.ne_of_lt F.ns.lt) (next_is_new F) (fun p hp => Nat.ne_of_lt (Heap.lt_size (N p hp).1)) S (R _ ⟨_, rfl⟩) ?_
  · show b < (s₁.heap.push _).objs.size
    rw [Heap.size_push]
    rcases List.mem_cons.mp hb with rfl | hb
    · exact Nat.lt_succ_self _
    · rw [List.mem_singleton.mp hb]; exact Nat.lt_succ_of_lt hlt
  · intro D C h tk m' ys news' F' N' o1 hn hC₀ hD₀ hCL hDL hCD offC fin
    refine ⟨m', hn, fun h'' hs'' => fin D h'' tk (F'.change hs'' hCL hC₀) (fun p hp => ?_) o1⟩
    refine ⟨hs''.extBut _ _ ?_ (N' p hp).1, (N' p hp).2⟩
    rcases List.mem_cons.mp hp with rfl | hp
    · exact Ne.symm hCD
    · exact offC p hp
theorem SrcTu.intro {prog : Program} {w : World} {A : Around} {h₀ : Heap} {L : Addr} {m : Str → Option Value} {env : Env} {elt : Expr} {x : Str} {scope : Scope} {cl : List (Str × Addr)} {Fin : Shared → List Value → List (Addr × Obj) → Prop} {ax : Addr} {its : Array Value} {k : Nat} {news : List (Addr × Obj)} {s₁ : Shared}
    (hh : A.handled = none) (F : Fr h₀ L s₁.heap m) (N : News h₀ L s₁.heap news) (hm : (ax, ({ cls := .type "tuple", data := .seq its k } : Obj)) ∈ news) (hsz : its.size ≤ sizeLine)
    (h : ∀ g, LCg.CompRest prog w A h₀ L m env elt x scope cl { s₁ with heap := g } (TupIn ax its) (fun i v => its[i]? = some v) (Fin { s₁ with heap := g }) its.size 0 [] news) :
    SrcTu prog w A h₀ L m env elt x scope cl Fin (.ref ax) s₁ := ⟨ax, its, news, rfl, hh, F, N, ⟨_, hm, rfl, _, rfl⟩, hsz, fun _ ⟨g, e⟩ => e ▸ h g⟩
theorem gd_fr' {w : World} {dp un : Nat} {gd : Option (List Code)} {envC envL : Env} {g0 h : Heap} {L Lo : Addr} {oL : Obj} {m : Str → Option Value} {news : List (Addr × Obj)} {p : Program} {loose : List Str} {mean : ExcName → Option Value} {mg mb : Str → Option Value}
    (X : (hd.heap_39 w.params).In g0) (T : Top p loose mean mg mb g0) (F : Fr g0 L h m) (N : News g0 L h news) (hfL : envL.frame = some Lo) (hm : (Lo, oL) ∈ news) (hd : ∃ es n, oL.data = .dict es n) (hkL : envL.scope.kind = .function)
    (hfC : envC.frame = some L) (hkC : envC.scope.kind = .function) : Gd w (Ar dp un gd [envC, envL]) [envC, envL] h :=
  ⟨g0, p, loose, mean, mg, mb, gd_fr F N hm hd hfL hkL hfC hkC, X.keeps F.keep, T.keeps F.keep⟩
theorem parseNoneA {prog : Program} {w : World} {dp un : Nat} {gd : Option (List Code)} {outer : List Env} {s : Shared} {a y : Str} {t2 : Tok} {Q E : Value → Shared → Prop}
    (G : Gd w (Ar dp un gd outer) outer s.heap) (hdp : dp + 8 < recursionLimit) (hun : un + 64 < cLine) (hlen : y.length ≤ 100)
    (h3 : (decide (a.cps.toList.take 3 = [50, 53, 55]) && decide (5 ≤ a.cps.toList.length) && decide (a.cps.toList.length ≤ 50) && decide ((a.cps.toList.drop 3).take 2 ≠ [32, 34])) = true)
    (ok : ∀ t, ∀ h' tk', Kp s.heap h' → Q (.str (Str.ofString "") t) {s with heap := h', toks := tk'}) :
    wpAny (model prog w) (Ar dp un gd outer) (call (.ref 85) [.str (a ++ y) t2]) Q E s := by
  simp only [Bool.and_eq_true, decide_eq_true_eq] at h3
  obtain ⟨⟨⟨h3, h5⟩, h8⟩, hne⟩ := h3
  have hl : (a ++ y).length ≤ 200 := by
    rw [PySem.Str.length_append, tx_length a]
    (first | lia | omega)
  have hc : (a ++ y).cps.toList = a.cps.toList ++ y.cps.toList := by rw [PySem.Str.cps_append, Array.toList_append]
  match ha : a.cps.toList with
  | c1 :: c2 :: c3 :: c4 :: c5 :: r =>
    rw [ha] at h3 hne hc
    simp only [List.take_succ_cons, List.take_zero, List.cons.injEq, and_true] at h3
    obtain ⟨rfl, rfl, rfl⟩ := h3
    exact parseNone G hdp hun hl hc hne ok
  | [] => rw [ha] at h5; simp at h5
  | [_] => rw [ha] at h5; simp at h5
  | [_, _] => rw [ha] at h5; simp at h5
  | [_, _, _] => rw [ha] at h5; simp at h5
  | [_, _, _, _] => rw [ha] at h5; simp at h5
theorem parseOneA {prog : Program} {w : World} {dp un : Nat} {gd : Option (List Code)} {outer : List Env} {s : Shared} {a y : Str} {t2 : Tok} {Q E : Value → Shared → Prop}
    (G : Gd w (Ar dp un gd outer) outer s.heap) (hdp : dp + 8 < recursionLimit) (hun : un + 64 < cLine) (hlen : y.length ≤ 100)
    (h3 : a.cps.toList = [50, 53, 55, 32, 34, 45, 34, 45])
    (ok : ∀ t, ∀ h' tk', Kp s.heap h' → Q (.str (Str.ofString "-") t) {s with heap := h', toks := tk'}) :
    wpAny (model prog w) (Ar dp un gd outer) (call (.ref 85) [.str (a ++ y) t2]) Q E s := by
  have hl : (a ++ y).length ≤ 200 := by
    rw [PySem.Str.length_append, tx_length a, h3]
    simp only [List.length_cons, List.length_nil]
    (first | lia | omega)
  have hc : (a ++ y).cps.toList = 50 :: 53 :: 55 :: 32 :: 34 :: (45 :: 34 :: 45 :: y.cps.toList) := by rw [PySem.Str.cps_append, Array.toList_append, h3]; rfl
  refine parseOk G hdp hun hl hc (fun d t hd _ h' tk' k => ?_)
  rw [dirL_one (by decide), dirL_stop rfl (fun d r e => by injection e with e _; rw [← e]; decide)] at hd
  rw [str_ext (x := d) (y := Str.ofString "-") (hd.trans (by decide +kernel))]
  exact ok t h' tk' k
theorem ne_str_same {prog : Program} {w : World} {A : Around} {E : Value → Shared → Prop} {s : Shared} {a : Str} {t u : Tok} {Q : Value → Shared → Prop} (h : Q (.bool false) s) : wpAny (model prog w) A (compareOp .NotEq (.str a t) (.str a u)) Q E s :=
  PyProof.Rows.ne_str (by
    have e : (a != a) = false := by simp
    rw [e]; exact h)
theorem iteF {P Q : Prop} (h : Q) : if (false : Bool) = true then P else Q := by rw [if_neg Bool.false_ne_true]; exact h
theorem iteT {P Q : Prop} (h : P) : if (true : Bool) = true then P else Q := by rw [if_pos rfl]; exact h
theorem fr_twice {g0 h : Heap} {L : Addr} {n : Str} {a b : Option Value} {m : Str → Option Value} (F : Fr g0 L h (fun x => if x = n then a else if x = n then b else m x)) : Fr g0 L h (fun x => if x = n then a else m x) := by
  have e : (fun x => if x = n then a else if x = n then b else m x) = fun x => if x = n then a else m x := by
    funext x
    by_cases h : x = n
    · rw [if_pos h, if_pos h]
    · rw [if_neg h, if_neg h, if_neg h]
  exact e ▸ F
def EvA (prog : Program) (w : World) (h₀ : Heap) (L : Addr) (env : Env) (x : Str) (v : Value) : Prop :=
  ∀ (m : Str → Option Value) (A : Around) (Q E : Value → Shared → Prop) (s : Shared) (p : Pos), Fr h₀ L s.heap m → Q v s → wpAny (model prog w) A (eval (.Name x p) env) Q E s
def EvL (prog : Program) (w : World) (h₀ : Heap) (L : Addr) (env : Env) (x : Str) : Prop :=
  ∀ (m : Str → Option Value) (v : Value) (A : Around) (Q E : Value → Shared → Prop) (s : Shared) (p : Pos), Fr h₀ L s.heap m → m x = some v → Q v s → wpAny (model prog w) A (eval (.Name x p) env) Q E s
theorem e_useA {prog : Program} {w : World} {h₀ : Heap} {L : Addr} {m : Str → Option Value} {env : Env} {x : Str} {v : Value} {A : Around} {Q E : Value → Shared → Prop} {s : Shared} {p : Pos}
    (h : EvA prog w h₀ L env x v) (F : Fr h₀ L s.heap m) (q : Q v s) : wpAny (model prog w) A (eval (.Name x p) env) Q E s := h m A Q E s p F q
theorem e_useL {prog : Program} {w : World} {h₀ : Heap} {L : Addr} {m : Str → Option Value} {env : Env} {x : Str} {v : Value} {A : Around} {Q E : Value → Shared → Prop} {s : Shared} {p : Pos}
    (h : EvL prog w h₀ L env x) (F : Fr h₀ L s.heap m) (e : m x = some v) (q : Q v s) : wpAny (model prog w) A (eval (.Name x p) env) Q E s := h m v A Q E s p F e q
def turnL (Lo : Addr) (o' : Obj) (l : List (Addr × Obj)) : List (Addr × Obj) := l.map fun p => if @Eq Nat p.1 Lo then (Lo, o') else p
theorem turn_newsL {g0 h h' : Heap} {L Lo : Addr} {o' : Obj} {news : List (Addr × Obj)} (k : ∀ b o, h.get? b = some o → b ≠ L → b ≠ Lo → h'.get? b = some o) (hLo : h'.get? Lo = some o')
    (N : News g0 L h news) : News g0 L h' (turnL Lo o' news) := by
  intro q hq
  obtain ⟨p, hp, rfl⟩ := List.mem_map.mp hq
  by_cases e : @Eq Nat p.1 Lo
  · rw [if_pos e]
    have z := (N p hp).2
    rw [show p.1 = Lo from e] at z
    exact ⟨hLo, z⟩
  · rw [if_neg e]
    exact ⟨k _ _ (N p hp).1 (N p hp).2.1 e, (N p hp).2⟩
theorem turn_goL {P : Prop} {g0 h h' : Heap} {L Lo : Addr} {o' : Obj} {news n2 : List (Addr × Obj)} (N2 : News g0 L h' n2) (k : ∀ b o, h.get? b = some o → b ≠ L → b ≠ Lo → h'.get? b = some o) (hLo : h'.get? Lo = some o')
    (N : News g0 L h news) (go : News g0 L h' (n2 ++ turnL Lo o' news) → P) : P :=
  go fun q hq => (List.mem_append.mp hq).elim (N2 q) (turn_newsL k hLo N q)
theorem turn_eq {Lo : Addr} {o' : Obj} {a b : List (Addr × Obj)} (W : NewsTurn Lo o' a b) : turnL Lo o' a = b := by
  induction W with
  | nil => rfl
  | here W ih => show (if _ then _ else _) :: turnL _ _ _ = _; rw [if_pos rfl, ih]
  | same hne W ih => show (if _ then _ else _) :: turnL _ _ _ = _; rw [if_neg hne, ih]
theorem turn_use {P : Prop} {g0 h' : Heap} {L Lo : Addr} {o' : Obj} {news news' : List (Addr × Obj)} (N : News g0 L h' (turnL Lo o' news)) (W : NewsTurn Lo o' news news') (go : News g0 L h' news' → P) : P := go (turn_eq W ▸ N)
theorem kw5 : True := by
  k_with "ite" => first | with_reducible refine Mine.iteF ?_ | with_reducible refine Mine.iteT ?_
  k_with "compareOp NotEq str str" => (with_reducible refine ne_str_same ?_)
  k_with "exec Try" => ((with_reducible show wpAny _ _ (exec (Stmt.Try _ (_ :: _) _ [] _) _) _ _ _); refine wpAny_Try_except ?_)
  k_with "call ref" => ((with_reducible show wpAny _ _ (call (Value.ref 85) [Value.str _ _]) _ _ _); k_dflt (refine' parseBad (by (assumption)) (by (assumption)) (by (assumption)) (by (k_asm)) (by (exact hfL)) (by (assumption)) (by (assumption)) (by (exact hkL)) (by (exact hfC)) (by (exact hkC)) (by (ktr_room)) (by (ktr_units)) (by (assumption)) (by (assumption)) ?_; k_whole); intro e' h' tk' t' R' U'; (try dsimp only))
  k_with "noteFrame ref" => ((rename RaisedK _ _ _ _ _ _ _ _ => rkX); k_dflt (refine' caughtR (by (exact hfL)) (by (exact rkX)) (by (exact rfl)) (by (exact hfC)) (by (exact hloc)) (by (exact hkC)) (by (exact hl)) (by (assumption)) (by (assumption)) (by (assumption)) (by (assumption)) (by (assumption)) (by (assumption)) (by (kts_isx)) (by ((intro A' Q' E' s₁ F' q; exact e_useA (by assumption) F' q))) ?_; k_whole); intro h' tk' oe' ot' ws' nt' sl' F' K' hLo' N' ne1 ne2 c1 d1 z1 c2 d2; refine turn_goL N' K' hLo' (by assumption) ?_; intro N''; clear N' K' hLo' rkX; (try simp only [List.cons_append, List.nil_append] at N''); (try dsimp only at N''); (try k_sweep); (try dsimp only))
  k_with "call type:str" => ((with_reducible show wpAny _ _ (call (Value.type "str") [Value.ref _]) _ _ _); k_dflt (refine' ownStrN (by (assumption)) (by (assumption)) (by (assumption)) (by ((repeat first | exact List.Mem.head _ | refine List.Mem.tail _ ?_))) (by (assumption)) (by (assumption)) (by (assumption)) (by ((repeat first | exact List.Mem.head _ | refine List.Mem.tail _ ?_))) (by (assumption)) (by (assumption)) (by (ktr_units)) (by (k_is)) (by (k_is)) ?_; k_whole))
  k_with "bind" => ((with_reducible show wpAny _ _ (do bindName _ _ Value.none; unbindBehindTheSuite _ _ _) _ _ _); k_dflt (refine' goesX (by (assumption)) (by (assumption)) (by (assumption)) (by (assumption)) (by (assumption)) ?_; k_whole); intro h' v' F' N'; (try k_sweep); (try dsimp only); (replace N' := news_two N'))
  k_with "eval Name" => (k_dflt (refine' e_useL (by (with_reducible assumption)) (by (with_reducible assumption)) (by ((first | with_reducible assumption | exact if_pos rfl | exact (if_neg (by decide)).trans (by assumption)))) ?_; k_whole))
  k_with "eval Name" => (k_dflt (refine' e_useA (by (with_reducible assumption)) (by (with_reducible assumption)) ?_; k_whole))
  k_with "exec Expr" => (refine wpAny_Expr_any ?_ (by assumption))
  exact trivial
set_option maxHeartbeats 8000000 in
theorem tryC {prog : Program} {w : World} {dp un : Nat} {gd : Option (List Code)} {envC envL : Env} {s : Shared} {g0 : Heap} {L Lo : Addr} {oL : Obj}
    {p : Program} {loose : List Str} {mean : ExcName → Option Value} {mg mb m : Str → Option Value} {news : List (Addr × Obj)}
    {a y : Str} {t : Tok} {Q : Flow → Shared → Prop} {E : Value → Shared → Prop} {p1 p2 p3 p4 p5 p6 p7 p8 p9 q1 q2 q3 q4 q5 q6 q7 q8 : Pos}
    (X : (hd.heap_39 w.params).In g0) (T : Top p loose mean mg mb g0)
    (hfL : envL.frame = some Lo) (hkL : envL.scope.kind = .function) (hfC : envC.frame = some L) (hloc : envC.locals = L) (hkC : envC.scope.kind = .function) (hl : envC.kindOf (Str.ofString "refusal") = some .local)
    (hin : interactive envC = false) (F : Fr g0 L s.heap m) (N : News g0 L s.heap news) (hm : (Lo, oL) ∈ news) (hoL : ∃ es n, oL.data = .dict es n)
    (hw : m (Str.ofString "wrong") = some (.str (a ++ y) t)) (hdp : dp + 16 < recursionLimit) (hun : un + 128 < cLine) (hlen : y.length ≤ 100)
    (h3 : (decide (3 ≤ a.cps.toList.length) && decide (a.cps.toList.length ≤ 50) && decide (a.cps.toList.take 3 ≠ [50, 53, 55])) = true)
    (e1 : EvA prog w g0 L envC (Str.ofString "parse257") (.ref 85)) (e2 : EvA prog w g0 L envC (Str.ofString "error_reply") (.ref 76)) (e3 : EvA prog w g0 L envC (Str.ofString "str") (.type "str"))
    (e4 : EvL prog w g0 L envC (Str.ofString "wrong")) (e5 : EvL prog w g0 L envC (Str.ofString "refusal"))
    (ret : ∀ h' tk' sl v, Fr g0 L h' (fun x => if x = Str.ofString "refusal" then v else m x) → News g0 L h' (turnL Lo { oL with slots := sl } news) → Q .next { s with heap := h', toks := tk' }) :
    wpAny (model prog w) (Ar dp un gd [envC, envL]) (exec (.Try
      [.Expr (.Call (.Name (Str.ofString "parse257") p1) [.Name (Str.ofString "wrong") p2] [] p3) p4, .Return (some (.Constant (.bool false) 0 p5)) p6]
      [.ExceptHandler (some (.Name (Str.ofString "error_reply") p7)) (some (Str.ofString "refusal"))
        [.If (.Compare (.Call (.Name (Str.ofString "str") p8) [.Name (Str.ofString "refusal") p9] [] q1) [.NotEq] [.Name (Str.ofString "wrong") q2] q3) [.Return (some (.Constant (.bool false) 0 q4)) q5] [] q6] q7]
      [] [] q8) envC) Q E s := by
  k_steps
  exact ret _ _ _ _ (fr_twice F') N'
theorem kw6 : True := by
  k_with "exec Try" => (k_here; (with_reducible show wpAny _ _ (exec (Stmt.Try _ (_ :: _) _ [] _) _) _ _ _); k_dflt (refine' tryC (by (assumption)) (by (assumption)) (by (assumption)) (by (assumption)) (by (exact rfl)) (by (exact rfl)) (by (exact rfl)) (by (exact rfl)) (by (exact rfl)) (by (k_asm)) (by (assumption)) (by ((repeat first | exact List.Mem.head _ | refine List.Mem.tail _ ?_))) (by (assumption)) (by (exact rfl)) (by (ktr_room)) (by (ktr_units)) (by (omega)) (by (decide +kernel)) (by ((intro m' A' Q' E' s' p' F' q'; refine nameX_K F' (by assumption) (topRead_of (by assumption)) (by k_is) q'))) (by ((intro m' A' Q' E' s' p' F' q'; refine nameX_K F' (by assumption) (topRead_of (by assumption)) (by k_is) q'))) (by ((intro m' A' Q' E' s' p' F' q'; refine nameX_B F' (by assumption) (topRead_of (by assumption)) (by k_is) (by boot_by_name) (by decide) q'))) (by ((intro m' v' A' Q' E' s' p' F' q1' q'; refine nameX_L F' q1' q'))) (by ((intro m' v' A' Q' E' s' p' F' q1' q'; refine nameX_L F' q1' q'))) ?_; k_whole); intro h' tk' sl' v' F' N'; (refine' turn_use N' (by ((repeat first | exact NewsTurn.nil | apply NewsTurn.here | (apply NewsTurn.same; omega)))) ?_); clear N'; intro N'; (try k_sweep); (try dsimp only))
  exact trivial
theorem clsRef {a b : Value} {C : Addr} {n : String} (h : a = .ref C) (h1 : b = .type n) : a ≠ b := by rw [h, h1]; intro e; cases e
theorem kw7 : True := by
  k_with "ktu_off" => exact Or.inr (clsRef (by assumption) (by assumption))
  k_with "eval ListComp" => (k_here; k_dflt (refine ListComp_TU (F₀ := by k_asm) (by with_unfolding_all rfl) (by decide) (by rfl) (by decide) (by rfl) ?_))
  k_with "SrcTu" => (k_here; k_dflt (refine SrcTu.intro (by rfl) (by k_asm) (by k_asm) (by k_mem) (by first | size_fits | exact Nat.le_of_ble_eq_true rfl) ?_; intro g'; lcg_lit))
  k_with "lcg_src" => exact ⟨_, by k_mem, rfl, _, rfl⟩
  k_with "call ref" => (k_here; (with_reducible show wpAny _ _ (call (Value.ref 85) [Value.str _ _]) _ _ _); k_dflt (first | (refine' parseNoneA (by ((refine' gd_fr' (by (assumption)) (by (assumption)) (by (k_asm)) (by (k_asm)) (by (assumption)) (by ((repeat first | exact List.Mem.head _ | refine List.Mem.tail _ ?_))) (by (assumption)) (by (assumption)) (by (exact rfl)) (by (exact rfl))))) (by (ktr_room)) (by (ktr_units)) (by (omega)) (by decide +kernel) ?_; k_whole) | (refine' parseOneA (by ((refine' gd_fr' (by (assumption)) (by (assumption)) (by (k_asm)) (by (k_asm)) (by (assumption)) (by ((repeat first | exact List.Mem.head _ | refine List.Mem.tail _ ?_))) (by (assumption)) (by (assumption)) (by (exact rfl)) (by (exact rfl))))) (by (ktr_room)) (by (ktr_units)) (by (omega)) (by decide +kernel) ?_; k_whole)); intro t'; intro h' tk' kp'; (try dsimp only at kp'); have F' := back_fr (by assumption) kp'; have N' := back_news (by assumption) kp')
  exact trivial
set_option maxHeartbeats 8000000 in
theorem refusedC {prog : Program} {w : World} {dp un : Nat} {gd : Option (List Code)} {envL : Env} {s : Shared} {gb : Heap} {Lo : Addr} {oL : Obj}
    {p : Program} {loose : List Str} {mean : ExcName → Option Value} {mg mb : Str → Option Value}
    {reply : Str} {t1 : Tok} {Q E : Value → Shared → Prop}
    (Xb : (hd.heap_39 w.params).In gb) (Tb : Top p loose mean mg mb gb) (hst : gb.StaysIn s.heap) (hnb : gb.get? Lo = none)
    (hfL : envL.frame = some Lo) (hkL : envL.scope.kind = .function) (ho : s.heap.get? Lo = some oL) (hoL : ∃ es n, oL.data = .dict es n)
    (hdp : dp + 48 < recursionLimit) (hun : un + 512 < cLine)
    (hlen : reply.length ≤ 100)
    (ret : ∀ h' tk' sl, h'.get? Lo = some { oL with slots := sl } → (∀ b o, s.heap.get? b = some o → b ≠ Lo → h'.get? b = some o) → Q (.bool true) {s with heap := h', toks := tk'}) :
    wpAny (model prog w) (Ar dp un gd [envL]) (call (.ref 135) [.str reply t1]) Q E s := by
  have hg0 : ∃ g0 : Heap, g0.StaysIn s.heap ∧ gb.StaysIn g0 ∧ g0.get? Lo = none ∧ g0.objs.size = s.heap.objs.size ∧ (∀ b o, s.heap.get? b = some o → b ≠ Lo → g0.get? b = some o) := by
    refine ⟨hideAll s.heap [Lo], fun b o q => of_hideAll _ q, fun b o q => hideAll_get _ (hst b o q) fun hx => ?_, hideAll_none _ (.head _), hideAll_size _ _, fun b o q n => hideAll_get _ q fun hx => ?_⟩
    · rw [List.mem_singleton.mp hx, hnb] at q; cases q
    · exact n (List.mem_singleton.mp hx)
  obtain ⟨g0, hs0, hb0, hn, hsz, hks⟩ := hg0
  have X := Xb.keeps hb0
  have T := Tb.keeps hb0
  have hoF : ∀ vs, oL.data ≠ .fields vs := fun vs q => by obtain ⟨es, n, hd⟩ := hoL; rw [hd] at q; cases q
  have hLoS := Heap.lt_size ho
  have Bw : Below (Ar dp un gd [envL]) g0 [envL] s.heap := ⟨rfl, hs0, by rw [hkL]; decide, ⟨Lo, oL, hfL, hn, ho, hoF⟩, trivial⟩
  have Xw := X.keeps hs0
  have Tw := T.keeps hs0
  clear Xb Tb hst hnb hb0
  refine wpAny_call ?_
  tbn_conj
  rename Fr s.heap _ _ _ => Fw
  rename News s.heap _ _ _ => Nw
  rename Below _ _ _ _ => Bx
  rename Frag.In _ s.heap => Xx
  rename Top _ _ _ _ _ s.heap => Tx
  have F0 := frameR hs0 (Nat.le_of_eq hsz) Fw
  have N0 := ledgerR hs0 Fw Nw ho hn
  have hLL := Nat.lt_of_lt_of_le hLoS Fw.above
  clear Bx Xx Tx Xw Tw Bw hoF
  refine refCut (s₀ := s) F0 N0 ?walk ?key
  case key =>
    clear F0 N0
    intro h' tk' m' sl F0 N0
    clear Fw Nw
    k_steps
    refine' endR (fun sl => ret _ _ sl) ?F ?N ?m hks
    case F => k_asm
    case N => assumption
    case m => (repeat first | exact List.Mem.head _ | refine List.Mem.tail _ ?_)
  case walk =>
    clear Fw Nw
    k_steps
    all_goals first
      | (rename ((_ != _) = true) => hx; simp at hx; done)
      | ((try dsimp only); refine' refEnd ?f1 ?n1 ?m1 ?m2; (case f1 => k_asm); (case n1 => assumption); (case m1 => (repeat first | exact List.Mem.head _ | refine List.Mem.tail _ ?_)); (case m2 => (repeat first | exact List.Mem.head _ | refine List.Mem.tail _ ?_)))

end

section
theorem topOffK2 : True := by
  w_top off
  k_with_none
  exact trivial

theorem kw8 : True := by
  k_with "pyIter ref" => ((with_reducible show wpAny _ _ (pyIter (Value.ref _)) (fun it s₂ => LoopAtV _ _ _ _ _ _ _ _ _ it s₂) _ _); refine Mine.hold ?_)
  k_with "newList" => (k_here; k_dflt (refine' newList_L (by (k_asm)) (by (k_asm)) ?_; k_whole); intro l' h' F' N' l1 l2; (try k_lt l1); (try k_lt2 l2); (try k_sweep))
  k_with "tb_start" => (refine' enter0 (by (assumption)) (by (assumption)) (by (assumption)) (by (k_is)) (by (k_is)) (by (ktr_room)) (by (first | exact BindsTo.of_eq rfl | (refine' kp_binds (by (assumption)) (by (exact fun _ => rfl))))) (by (exact locs rfl)) ?_ (by (exact rfl)) (by (exact rfl)) (by (exact rfl)) (by (decide)); k_whole; intro L' h' hL' F' N' B' X' T'; (try dsimp only); (try k_fold))
  k_with "InvEndN" => refine Mine.hold ?_
  k_with "tb_rel" => (rename News _ _ _ _ => nE'; (try simp only [List.push_toArray] at nE'); (first | refine' kst_end ⟨_, _, _, _, _, _, _, _, _⟩ (by k_asm) nE' (by first | kst_in | kst_inAny) (by first | (intro p hp; kst_mem) | kst_anyIn) (by rfl) (by kst_facts) (by kst_all) (by kst_same) ?_ | refine' kst_end ⟨_, _, _, _, _, _, _, _⟩ (by k_asm) nE' (by first | kst_in | kst_inAny) (by first | (intro p hp; kst_mem) | kst_anyIn) (by rfl) (by kst_facts) (by kst_all) (by kst_same) ?_ | refine' kst_end ⟨_, _, _, _, _, _, _⟩ (by k_asm) nE' (by first | kst_in | kst_inAny) (by first | (intro p hp; kst_mem) | kst_anyIn) (by rfl) (by kst_facts) (by kst_all) (by kst_same) ?_ | refine' kst_end ⟨_, _, _, _, _, _⟩ (by k_asm) nE' (by first | kst_in | kst_inAny) (by first | (intro p hp; kst_mem) | kst_anyIn) (by rfl) (by kst_facts) (by kst_all) (by kst_same) ?_ | refine' kst_end ⟨_, _, _, _, _⟩ (by k_asm) nE' (by first | kst_in | kst_inAny) (by first | (intro p hp; kst_mem) | kst_anyIn) (by rfl) (by kst_facts) (by kst_all) (by kst_same) ?_ | refine' kst_end ⟨_, _, _, _⟩ (by k_asm) nE' (by first | kst_in | kst_inAny) (by first | (intro p hp; kst_mem) | kst_anyIn) (by rfl) (by kst_facts) (by kst_all) (by kst_same) ?_ | refine' kst_end ⟨_, _, _⟩ (by k_asm) nE' (by first | kst_in | kst_inAny) (by first | (intro p hp; kst_mem) | kst_anyIn) (by rfl) (by kst_facts) (by kst_all) (by kst_same) ?_ | refine' kst_end ⟨_, _⟩ (by k_asm) nE' (by first | kst_in | kst_inAny) (by first | (intro p hp; kst_mem) | kst_anyIn) (by rfl) (by kst_facts) (by kst_all) (by kst_same) ?_); (try dsimp only))
  k_with "exec For Name Call cons nil" => (k_here; (rename Fr _ _ _ _ => lF'); (with_unfolding_all refine' For_invVF lF' (by (exact rfl)) (by (exact rfl)) ?_; k_whole))
  k_with "kst_facts1" => with_reducible exact IntsAre.cons _ _ IntsAre.nil
  k_with "exec While Compare cons nil" => (k_here; refine Mine.hold ?_)
  k_with "KswEnd" => refine Mine.hold ?_
  k_with "kwd_less" => (rename News _ _ _ _ => nE'; (try simp only [List.push_toArray] at nE'); (first | refine' ksw_end ⟨_, _, _, _, _, _, _⟩ (by k_asm) nE' (by kst_in) (by kst_facts) (by kst_all) (by ksw_same) ?_ ?_ | refine' ksw_end ⟨_, _, _, _, _, _⟩ (by k_asm) nE' (by kst_in) (by kst_facts) (by kst_all) (by ksw_same) ?_ ?_ | refine' ksw_end ⟨_, _, _, _, _⟩ (by k_asm) nE' (by kst_in) (by kst_facts) (by kst_all) (by ksw_same) ?_ ?_ | refine' ksw_end ⟨_, _, _, _⟩ (by k_asm) nE' (by kst_in) (by kst_facts) (by kst_all) (by ksw_same) ?_ ?_ | refine' ksw_end ⟨_, _, _⟩ (by k_asm) nE' (by kst_in) (by kst_facts) (by kst_all) (by ksw_same) ?_ ?_ | refine' ksw_end ⟨_, _⟩ (by k_asm) nE' (by kst_in) (by kst_facts) (by kst_all) (by ksw_same) ?_ ?_); (all_goals (try dsimp only)))
  k_with "tbn_conj" => (refine' enter0C (by (assumption)) (by (assumption)) (by (assumption)) (by (k_is)) (by (k_is)) (by (ktr_room)) (by (exact BindsTo.of_eq rfl)) (by (exact rfl)) (by (decide +kernel)) ?_ (by (exact rfl)) (by (exact rfl)) (by (exact rfl)); k_whole; intro L' h' tk' cells' hL' F' N' Y' B' X' T'; k_cells Y'; (try simp only [List.cons_append, List.nil_append] at N'); (try dsimp only); (try k_fold))
  k_with "exec While BoolOp cons nil" => (k_here; refine Mine.hold ?_)
  k_with "compareOp NotEq ref ref" => (k_here; (with_reducible show wpAny _ _ (compareOp CmpOp.NotEq (Value.ref _) (Value.ref _)) _ _ _); (with_unfolding_all refine' ne_intsK (by (is_list)) (by (first | exact IntsAre.nil | l_intsC)) (by (is_list)) (by (first | exact IntsAre.nil | l_intsC)) (by (ktr_units)) ?_; k_whole))
  k_with "k_ne" => (refine neN ?_; (try dsimp only); (first | lia | omega))
  k_with "kwd_rel" => (intro h' tk' kp'; (try dsimp only at kp'); have F' := back_fr (by assumption) kp'; have N' := back_news (by assumption) kp'; clear kp'; (try k_sweep); (try dsimp only))
  k_with "kwd_inv" => exact gd_of (by assumption) (by k_asm) (by assumption) (by assumption) rfl rfl
  k_with "call ref" => (k_here; (with_reducible show wpAny _ _ (call (Value.ref 21) [Value.int _ _]) _ _ _); k_dflt (first | (refine' istermT (by omega) (by (kwd_inv)) (by (ktr_room)) ?_) | (refine' istermF (by omega) (by (kwd_inv)) (by (ktr_room)) ?_) | (refine' istermC (by (kwd_inv)) (by (ktr_room)) ?_); k_whole); kwd_rel)
  k_with "call ref" => (k_here; (with_reducible show wpAny _ _ (call (Value.ref 28) [Value.int _ _]) _ _ _); k_dflt (first | (refine' isnontermT (by omega) (by (kwd_inv)) (by (ktr_room)) ?_) | (refine' isnontermF (by omega) (by (kwd_inv)) (by (ktr_room)) ?_) | (refine' isnontermC (by (kwd_inv)) (by (ktr_room)) ?_); k_whole); kwd_rel)
  k_with "call ref" => (k_here; (with_reducible show wpAny _ _ (call (Value.ref 35) [Value.int _ _]) _ _ _); k_dflt (first | (refine' iseofT (by omega) (by (kwd_inv)) (by (ktr_room)) ?_) | (refine' iseofF (by omega) (by (kwd_inv)) (by (ktr_room)) ?_) | (refine' iseofC (by (kwd_inv)) (by (ktr_room)) ?_); k_whole); kwd_rel)
  k_with "execs cons" => (k_here; (try k_gentoks); (with_reducible refine wpAny_execs_cons ?_); k_fold)
  k_with "exec Assign cons ListComp" => (k_here; k_dflt (refine LCg.Assign_ListComp_U (F₀ := by k_asm) (by rfl) (by with_unfolding_all rfl) (by with_unfolding_all rfl) (by decide) (by rfl) (by decide) (by rfl) (by rfl) (by rfl) ?_))
  k_with "eval ListComp" => (k_here; k_dflt (refine LCg.ListComp_U (F₀ := by k_asm) (by with_unfolding_all rfl) (by decide) (by rfl) (by decide) (by rfl) ?_))
  k_with "CompSrc" => refine Mine.hold ?_
  k_with "KCfEl" => refine Mine.hold ?_
  k_with "call builtin:len" => (k_here; (with_reducible show wpAny _ _ (call (Value.builtin "len") [Value.ref _]) _ _ _); k_dflt (refine' kst_len (by (k_asm)) (by (k_mem)) (by (first | exact IntsAre.length (by assumption) | exact rfl)) (by (omega)) ?_; k_whole))
  k_with "call ref" => (k_here; (with_reducible show wpAny _ _ (call (Value.ref 118) [Value.ref _, Value.str _ _]) _ _ _); k_dflt (refine' textC (by (kwd_inv)) (by (ktr_room)) (by (ktr_units)) (by (is_list)) (by (l_intsC)) (by (omega)) (by (assumption)) ?_; k_whole); intro t' hln'; kwd_rel)
  k_with "call ref" => (k_here; (with_reducible show wpAny _ _ (call (Value.ref 125) [Value.ref _, Value.int _ _, Value.str _ _]) _ _ _); k_dflt (refine' rootC (by (kwd_inv)) (by (ktr_room)) (by (ktr_units)) (by (is_list)) (by (l_intsC)) (by (omega)) (by (omega)) (by (omega)) (by (assumption)) ?_; k_whole); intro t' hln'; kwd_rel)
  k_with "call ref" => (k_here; (with_reducible show wpAny _ _ (call (Value.ref 85) [Value.str _ _]) _ _ _); k_dflt (refine' parseOk (by (kwd_inv)) (by (ktr_room)) (by (ktr_units)) (by (((have h5 : (Str.ofString "257 \"").length = 5 := by decide +kernel); (simp only [PySem.Str.length_append]); omega))) (by (exact tx_pre2 _ _)) ?_; k_whole); intro d' t' hd' hdl'; kwd_rel)
  exact trivial
theorem str_st {I : Addr} {ty : String} {X : Str} {t : Tok} {h₀ : Heap} {L : Addr} : ∀ i (h h' : Heap) (o : Obj) (nw : List (Addr × Obj)), h.IsStrIter I ty X t i → h.get? I = some o → h'.get? I = some o → (∀ b o, h₀.get? b = some o → h'.get? b = some o) → News h₀ L h' nw → True → h'.IsStrIter I ty X t i :=
  fun i h h' o nw st e e' _ _ _ => by
    obtain ⟨o', q, r⟩ := st
    rw [e] at q; cases q
    exact ⟨o, e', r⟩
def SrcST (prog : Program) (w : World) (A : Around) (h₀ : Heap) (L : Addr) (m : Str → Option Value) (env : Env) (ct elt : Expr) (x : Str) (scope : Scope) (cl : List (Str × Addr)) (Fin : Shared → List Value → List (Addr × Obj) → Prop) (xv : Value) (s₁ : Shared) : Prop :=
  ∃ X t news, xv = .str X t ∧ A.handled = none ∧ Fr h₀ L s₁.heap m ∧ News h₀ L s₁.heap news ∧ X.cps.size ≤ sizeLine ∧
    ∀ s₂ : Shared, (∃ h, s₂ = { s₁ with heap := h }) → LCt.CompRestT prog w A h₀ L m env ct elt x scope cl s₂ (fun _ => True) (SignAt X) (Fin s₂) X.cps.size 0 [] news
theorem ListComp_TS {prog : Program} {w : World} {A : Around} {E : Value → Shared → Prop} {s : Shared} {h₀ : Heap} {L : Addr} {m : Str → Option Value} {env : Env} {ct elt iter : Expr} {x : Str} {px : Pos} {scope : Scope} {cl : List (Str × Addr)} {pos : Pos} {Q : Value → Shared → Prop} (F₀ : Fr h₀ L s.heap m)
    (hclos : closureFor scope env = pure cl) (hcell : ∀ y ∈ scope.names, y.2 ≠ .cell) (hkind : scope.kind = .function)
    (hnames : ∀ y ∈ scope.names, y.2 = .local → scope.names.lookup y.1 = some .local) (hx : scope.names.lookup x = some .local)
    (h : wpAny (model prog w) A (eval iter env) (SrcST prog w A h₀ L m env ct elt x scope cl (fun s₂ => LCg.FinE h₀ L m s₂ Q)) E s)
    (hs : ∀ x, foldedSetIterable iter env x = pure x := by intro _; rfl) :
    wpAny (model prog w) A (eval (.ListComp elt [⟨.Name x px, iter, [ct], 0⟩] scope pos) env) Q E s := by
  rw [eval_ListComp]
  refine wpAny_comprehension_free (use := none) rfl hs hclos hkind hnames (wpAny_mono h (fun xv s₁ h₁ => ?_) fun _ _ e => e)
  obtain ⟨X, t, news, rfl, hh, F, N, hsz, R⟩ := h₁
  cases ha : X.cps.all (· < 128)
  · refine wpAny_pyIter_wide ha ?_
    refine LCt.block_T (Walks.strWide hh s₁.heap.objs.size X t) hsz (fun i h st => by obtain ⟨o, e, _⟩ := st; exact ⟨o, e⟩) str_st hcell hkind hx ⟨_, Heap.get?_push_size _ rfl, rfl, rfl⟩ (fun b hb => ?_)
      (F.keeps fun _ _ e => Heap.get?_push_of_some _ e) (N.grown fun _ _ e => Heap.get?_push_of_some _ e) (Nat.ne_of_lt F.ns.lt) (next_is_new F) (fun p hp => Nat.ne_of_lt (Heap.lt_size (N p hp).1)) trivial (R _ ⟨_, rfl⟩) ?_
    · rw [List.mem_singleton.mp hb]
      show s₁.heap.objs.size < (s₁.heap.push _).objs.size
      rw [Heap.size_push]; exact Nat.lt_succ_self _
    · intro D C h tk m' ys news' F' N' o1 hn hC₀ hD₀ hCL hDL hCD offC fin
      refine ⟨m', hn, fun h'' hs'' => fin D h'' tk (F'.change hs'' hCL hC₀) (fun p hp => ?_) o1⟩
      refine ⟨hs''.extBut _ _ ?_ (N' p hp).1, (N' p hp).2⟩
      rcases List.mem_cons.mp hp with rfl | hp
      · exact Ne.symm hCD
      · exact offC p hp
  · refine wpAny_pyIter_ascii ha ?_
    refine LCt.block_T (Walks.strAscii hh s₁.heap.objs.size X t) hsz (fun i h st => by obtain ⟨o, e, _⟩ := st; exact ⟨o, e⟩) str_st hcell hkind hx ⟨_, Heap.get?_push_size _ rfl, rfl, rfl⟩ (fun b hb => ?_)
      (F.keeps fun _ _ e => Heap.get?_push_of_some _ e) (N.grown fun _ _ e => Heap.get?_push_of_some _ e) (Nat.ne_of_lt F.ns.lt) (next_is_new F) (fun p hp => Nat.ne_of_lt (Heap.lt_size (N p hp).1)) trivial (R _ ⟨_, rfl⟩) ?_
    · rw [List.mem_singleton.mp hb]
      show s₁.heap.objs.size < (s₁.heap.push _).objs.size
      rw [Heap.size_push]; exact Nat.lt_succ_self _
    · intro D C h tk m' ys news' F' N' o1 hn hC₀ hD₀ hCL hDL hCD offC fin
      refine ⟨m', hn, fun h'' hs'' => fin D h'' tk (F'.change hs'' hCL hC₀) (fun p hp => ?_) o1⟩
      refine ⟨hs''.extBut _ _ ?_ (N' p hp).1, (N' p hp).2⟩
      rcases List.mem_cons.mp hp with rfl | hp
      · exact Ne.symm hCD
      · exact offC p hp
theorem str_rest {prog : Program} {w : World} {A : Around} {h₀ : Heap} {L : Addr} {m : Str → Option Value} {env : Env} {ct elt : Expr} {x : Str} {scope : Scope} {cl : List (Str × Addr)} {s : Shared} {Fin : List Value → List (Addr × Obj) → Prop} {news : List (Addr × Obj)} {X : Str}
    (turn : ∀ c t I oI C oC D m₂ ys h tk (E' : Value → Shared → Prop), LCg.NsObj oC m₂ → m₂ x = some (.str ⟨#[c]⟩ t) → Fr h₀ L h m → News h₀ L h ((I, oI) :: (C, oC) :: (D, LCg.lst ys) :: news) → LCg.Off3 I C D news → ((@Ne Nat I C) ∧ (@Ne Nat I D) ∧ (@Ne Nat C D)) →
      wpAny (model prog w) A (isTrue ct (compEnvC scope cl C env) (eval ct (compEnvC scope cl C env))) (fun ok s' => if ok = true then
        wpAny (model prog w) A (eval elt (compEnvC scope cl C env)) (LCg.CompEnd h₀ L m { s with heap := h, toks := tk } I oI C oC D (LCg.lst ys) (fun _ => True) (fun _ news' => news' = news ∧ c = 34)) E' s'
        else LCg.CompEnd h₀ L m { s with heap := h, toks := tk } I oI C oC D (LCg.lst ys) (fun _ => True) (fun _ news' => news' = news ∧ ¬ c = 34) Value.none s') E' { s with heap := h, toks := tk })
    (fin : ∀ ys, ys.length = X.cps.toList.count 34 → Fin ys news) : LCt.CompRestT prog w A h₀ L m env ct elt x scope cl s (fun _ => True) (SignAt X) Fin X.cps.size 0 [] news := by
  have key : ∀ (j i : Nat) (ys : List Value), i + j = X.cps.size → ys.length = (X.cps.toList.take i).count 34 → LCt.CompRestT prog w A h₀ L m env ct elt x scope cl s (fun _ => True) (SignAt X) Fin j i ys news := by
    intro j
    induction j with
    | zero =>
      intro i ys hi hy
      rw [List.take_of_length_le (by simp; (first | lia | omega))] at hy
      exact LCt.CompRestT.zero (fin ys hy)
    | succ j ih =>
      intro i ys hi hy
      refine LCt.CompRestT.succ ?_
      intro v I oI C oC D m₂ h tk E' hv hC hx F N off ne
      obtain ⟨c, u, hc, rfl⟩ := hv
      have hc' : X.cps.toList[i]? = some c := by simpa using hc
      have htake : X.cps.toList.take (i + 1) = X.cps.toList.take i ++ [c] := by rw [List.take_add_one, hc']; rfl
      refine wpAny_mono (turn c u I oI C oC D m₂ ys h tk E' hC hx F N off ne) (fun ok s₂ hq => ?_) fun _ _ e => e
      cases ok with
      | true =>
        simp only [if_true] at hq ⊢
        refine wpAny_mono hq (fun y s₃ hq => ?_) fun _ _ e => e
        obtain ⟨h', tk', nw, e, F', N', off', hS, hn, h34⟩ := hq
        subst hn
        exact ⟨h', tk', nw, e, F', N', off', hS, ih (i + 1) _ (by (first | lia | omega)) (by rw [htake, List.length_append, List.count_append, hy, h34]; rfl)⟩
      | false =>
        simp only [Bool.false_eq_true, if_false] at hq ⊢
        obtain ⟨h', tk', nw, e, F', N', off', hS, hn, h34⟩ := hq
        subst hn
        refine ⟨h', tk', nw, e, F', N', off', hS, ih (i + 1) _ (by (first | lia | omega)) ?_⟩
        rw [htake, List.count_append, hy]
        simp [List.count_cons, h34]
  exact key X.cps.size 0 [] (by (first | lia | omega)) rfl
theorem kw9 : True := by
  k_with "eval ListComp" => (k_here; k_dflt (refine ListComp_TS (F₀ := by k_asm) (by with_unfolding_all rfl) (by decide) (by rfl) (by decide) (by rfl) ?_))
  k_with "SrcST" => refine Mine.hold ?_
  exact trivial
def untoldF (ns fs : List Int) (letter tail : Str) : Int :=
  if dirL ((textS letter fs).cps.toList ++ tail.cps.toList) = (rootT ns letter (fs.length / 2)).cps.toList then 0
  else max 1 (((fs.length / 2 : Nat) : Int) - (((dirL ((textS letter fs).cps.toList ++ tail.cps.toList)).count 34 : Nat) : Int))
theorem untoldC {prog : Program} {w : World} {dp un : Nat} {gd : Option (List Code)} {outer : List Env} {s : Shared}
    {l1 l2 : Addr} {vs us : List Value} {ns fs : List Int} {letter tail : Str} {t1 t2 : Tok} {Q E : Value → Shared → Prop}
    (G : Gd w (Ar dp un gd outer) outer s.heap) (hdp : dp + 16 < recursionLimit) (hun : un + 128 < cLine)
    (hl : s.heap.IsList l1 vs.toArray) (hi : IntsAre vs ns) (hn : ns.length = 16) (hl2 : s.heap.IsList l2 us.toArray) (hi2 : IntsAre us fs) (hn2 : fs.length ≤ 16) (hlet : letter.length = 1) (htail : tail.length ≤ 20)
    (ret : ∀ t h' tk', Kp s.heap h' → Q (.int (untoldF ns fs letter tail) t) {s with heap := h', toks := tk'}) :
    wpAny (model prog w) (Ar dp un gd outer) (call (.ref 130) [.ref l1, .ref l2, .str letter t1, .str tail t2]) Q E s := by
  obtain ⟨base, p, loose, mean, mg, mb, B, X, T⟩ := G
  have hfd : (fs.length : Int).fdiv 2 = ((fs.length / 2 : Nat) : Int) := by rw [Int.fdiv_eq_ediv_of_nonneg _ (by (first | lia | omega))]; (first | lia | omega)
  have hfd0 : 0 ≤ (fs.length : Int).fdiv 2 := by (first | lia | omega)
  have hfd8 : (fs.length : Int).fdiv 2 ≤ 8 := by (first | lia | omega)
  refine wpAny_call ?_
  tb_start
  k_steps
  all_goals (try refine unhold ?_)
  · rename (_ = dirL _) => hd
    rename ((_ == rootT _ _ _) = true) => hc
    have hz : untoldF ns fs letter tail = 0 := by
      unfold untoldF
      rw [if_pos]
      rw [← hd, eq_of_beq hc, hfd, Int.toNat_natCast]
    have hr := ret
    rw [hz] at hr
    exact hr _ _ _ (Fr.keep (by k_asm))
  · rename (_ = dirL _) => hd
    rename ((_ == rootT _ _ _) = false) => hc
    rename (Str.length _ ≤ 200) => hdl
    refine ⟨_, _, _, rfl, by rfl, by k_asm, by k_asm, ?_, fun s₂ hs₂ => ?_⟩
    · rw [PySem.sizeLine_eq]; exact Nat.le_trans hdl (by decide)
    obtain ⟨g', rfl⟩ := hs₂
    refine str_rest (fun c t I oI C oC D m₂ ys h tk E' hC hx F' N' off' ne' => ?_) (fun ys hys => ?_)
    · (try simp only [LCg.Off3, and_true] at off')
      k_steps
      · rename ((_ == Str.ofString "\"") = true) => hq
        rw [tx_beq] at hq
        exact of_decide_eq_true hq
      · rename ((_ == Str.ofString "\"") = false) => hq
        rw [tx_beq] at hq
        exact of_decide_eq_false hq
    · have hcl : ys.length ≤ 200 := by
        rw [hys]
        refine Nat.le_trans List.count_le_length ?_
        rw [← tx_length]; exact hdl
      k_steps
      have hz : untoldF ns fs letter tail = if (fs.length : Int).fdiv 2 - (ys.length : Int) > 1 then (fs.length : Int).fdiv 2 - (ys.length : Int) else 1 := by
        unfold untoldF
        rw [← hd, if_neg, hys, hfd]
        · split <;> (first | lia | omega)
        · intro he
          rw [hfd, Int.toNat_natCast] at hc
          rw [str_ext he] at hc
          simp at hc
      have hr := ret
      rw [hz] at hr
      exact hr _ _ _ (Fr.keep (by k_asm))
def KeyOk (prog : Program) (w : World) (j : Value) (h : Heap) (J : Int → Int) : Prop :=
  ∀ (dp un : Nat) (gd : Option (List Code)) (outer : List Env) (s : Shared) (v : Int) (t : Tok) (Q E : Value → Shared → Prop), Kp h s.heap → Gd w (Ar dp un gd outer) outer s.heap → dp + 32 < recursionLimit → un + 256 < cLine → 1 ≤ v → v ≤ 8 →
    (∀ t h' tk', Kp s.heap h' → Q (.int (J v) t) {s with heap := h', toks := tk'}) → wpAny (model prog w) (Ar dp un gd outer) (call j [.int v t]) Q E s
theorem key_use {prog : Program} {w : World} {j : Addr} {h : Heap} {J : Int → Int} {dp un : Nat} {gd : Option (List Code)} {outer : List Env} {s : Shared} {v : Int} {t : Tok} {Q E : Value → Shared → Prop}
    (hk : KeyOk prog w (.ref j) h J) (kp : Kp h s.heap) (G : Gd w (Ar dp un gd outer) outer s.heap) (hdp : dp + 32 < recursionLimit) (hun : un + 256 < cLine) (h1 : 1 ≤ v) (h8 : v ≤ 8)
    (ret : ∀ t h' tk', Kp s.heap h' → Q (.int (J v) t) {s with heap := h', toks := tk'}) : wpAny (model prog w) (Ar dp un gd outer) (call (.ref j) [.int v t]) Q E s :=
  hk dp un gd outer s v t Q E kp G hdp hun h1 h8 ret
theorem pl_item {m : Int} (h0 : 0 ≤ m) (h8 : m < 8) : ([1, 2, 3, 4, 5, 6, 7, 8] : List Int).getD m.toNat 0 = m + 1 := by
  have : m = 0 ∨ m = 1 ∨ m = 2 ∨ m = 3 ∨ m = 4 ∨ m = 5 ∨ m = 6 ∨ m = 7 := by (first | lia | omega)
  rcases this with rfl | rfl | rfl | rfl | rfl | rfl | rfl | rfl <;> rfl
theorem pl_lo {m : Int} (h0 : 0 ≤ m) (h8 : m < 8) : 1 ≤ ([1, 2, 3, 4, 5, 6, 7, 8] : List Int).getD m.toNat 0 := by rw [pl_item h0 h8]; (first | lia | omega)
theorem pl_hi {m : Int} (h0 : 0 ≤ m) (h8 : m < 8) : ([1, 2, 3, 4, 5, 6, 7, 8] : List Int).getD m.toNat 0 ≤ 8 := by rw [pl_item h0 h8]; (first | lia | omega)
theorem mid_bnd {a b : Int} (h : a < b) : a ≤ (a + b).fdiv 2 ∧ (a + b).fdiv 2 < b := by rw [Int.fdiv_eq_ediv_of_nonneg _ (by (first | lia | omega))]; (first | lia | omega)
theorem pl_loM {a b : Int} (h0 : 0 ≤ a) (h : a < b) (h8 : b ≤ 8) : 1 ≤ ([1, 2, 3, 4, 5, 6, 7, 8] : List Int).getD ((a + b).fdiv 2).toNat 0 := by
  have := mid_bnd h; exact pl_lo (by (first | lia | omega)) (by (first | lia | omega))
theorem pl_hiM {a b : Int} (h0 : 0 ≤ a) (h : a < b) (h8 : b ≤ 8) : ([1, 2, 3, 4, 5, 6, 7, 8] : List Int).getD ((a + b).fdiv 2).toNat 0 ≤ 8 := by
  have := mid_bnd h; exact pl_hi (by (first | lia | omega)) (by (first | lia | omega))
theorem pl_itemM {a b : Int} (h0 : 0 ≤ a) (h : a < b) (h8 : b ≤ 8) : ([1, 2, 3, 4, 5, 6, 7, 8] : List Int).getD ((a + b).fdiv 2).toNat 0 = (a + b).fdiv 2 + 1 := by
  have := mid_bnd h; exact pl_item (by (first | lia | omega)) (by (first | lia | omega))
theorem kw10 : True := by
  k_with "call ref" => (k_here; (with_reducible show wpAny _ _ (call (Value.ref _) [Value.int _ _]) _ _ _); k_dflt (refine' key_use (by assumption) (by (exact Fr.keep (by k_asm))) (by (kwd_inv)) (by (ktr_room)) (by (ktr_units)) (by (exact pl_loM (by omega) (by omega) (by omega))) (by (exact pl_hiM (by omega) (by omega) (by omega))) ?_; k_whole); intro t'; kwd_rel)
  exact trivial
theorem fn_keep {j : Addr} {h h' : Heap} (f : FnAt j h) (k : ∀ b o, h.get? b = some o → h'.get? b = some o) : FnAt j h' := let ⟨a, b, c, d, e⟩ := f; ⟨a, b, c, d, k _ _ e⟩
theorem kw11 : True := by
  k_with "FnAt" => (k_dflt (exact fn_keep (by assumption) (Fr.keep (by k_asm))))
  k_with "callWith ref" => (k_here; k_dflt (refine' callWith_F (by (exact fn_keep (by assumption) (Fr.keep (by k_asm)))) ?_; k_whole))
  exact trivial
theorem bis_lowm {lo hi lo0 hi0 f m : Int} (h1 : lo ≤ m) (h2 : m < hi) (hl0 : lo0 ≤ lo) (hinv : max lo (min f hi) = max lo0 (min f hi0)) (hc : m + 1 ≤ f) (hh : hi ≤ hi0) :
    (lo0 ≤ m + 1 ∧ m + 1 ≤ hi ∧ hi ≤ hi0 ∧ max (m + 1) (min f hi) = max lo0 (min f hi0)) ∧ (hi - (m + 1)).toNat < (hi - lo).toNat := by
  have e1 : m + 1 ≤ min f hi := Int.le_min.mpr ⟨hc, h2⟩
  have e0 : lo ≤ m + 1 := Int.le_trans h1 (Int.le_add_one (Int.le_refl m))
  refine ⟨⟨Int.le_trans hl0 e0, h2, hh, ?_⟩, ?_⟩
  · rw [Int.max_eq_right e1, ← hinv, Int.max_eq_right (Int.le_trans e0 e1)]
  · exact (Int.toNat_lt_toNat (Int.sub_pos_of_lt (Int.lt_of_le_of_lt h1 h2))).mpr (Int.sub_lt_sub_left (Int.lt_add_one_of_le h1) hi)
theorem bis_highm {lo hi lo0 hi0 f m : Int} (h1 : lo ≤ m) (h2 : m < hi) (hl0 : lo0 ≤ lo) (hinv : max lo (min f hi) = max lo0 (min f hi0)) (hc : ¬ m + 1 ≤ f) (hh : hi ≤ hi0) :
    (lo0 ≤ lo ∧ lo ≤ m ∧ m ≤ hi0 ∧ max lo (min f m) = max lo0 (min f hi0)) ∧ (m - lo).toNat < (hi - lo).toNat := by
  have e1 : f ≤ m := Int.lt_add_one_iff.mp (Int.not_le.mp hc)
  refine ⟨⟨hl0, h1, Int.le_trans (Int.le_of_lt h2) hh, ?_⟩, ?_⟩
  · rw [Int.min_eq_left e1, ← hinv, Int.min_eq_left (Int.le_trans e1 (Int.le_of_lt h2))]
  · exact (Int.toNat_lt_toNat (Int.sub_pos_of_lt (Int.lt_of_le_of_lt h1 h2))).mpr (Int.sub_lt_sub_right h2 lo)
theorem bis_low {lo hi lo0 hi0 f : Int} (hlt : lo < hi) (h0 : 0 ≤ lo) (h8 : hi ≤ 8) (hl0 : lo0 ≤ lo) (hinv : max lo (min f hi) = max lo0 (min f hi0)) (hc : ([1, 2, 3, 4, 5, 6, 7, 8] : List Int).getD ((lo + hi).fdiv 2).toNat 0 ≤ f) (hh : hi ≤ hi0) :
    (lo0 ≤ (lo + hi).fdiv 2 + 1 ∧ (lo + hi).fdiv 2 + 1 ≤ hi ∧ hi ≤ hi0 ∧ max ((lo + hi).fdiv 2 + 1) (min f hi) = max lo0 (min f hi0)) ∧ (hi - ((lo + hi).fdiv 2 + 1)).toNat < (hi - lo).toNat := by
  rw [pl_itemM h0 hlt h8] at hc
  exact bis_lowm (mid_bnd hlt).1 (mid_bnd hlt).2 hl0 hinv hc hh
theorem bis_high {lo hi lo0 hi0 f : Int} (hlt : lo < hi) (h0 : 0 ≤ lo) (h8 : hi ≤ 8) (hl0 : lo0 ≤ lo) (hinv : max lo (min f hi) = max lo0 (min f hi0)) (hc : ¬ ([1, 2, 3, 4, 5, 6, 7, 8] : List Int).getD ((lo + hi).fdiv 2).toNat 0 ≤ f) (hh : hi ≤ hi0) :
    (lo0 ≤ lo ∧ lo ≤ (lo + hi).fdiv 2 ∧ (lo + hi).fdiv 2 ≤ hi0 ∧ max lo (min f ((lo + hi).fdiv 2)) = max lo0 (min f hi0)) ∧ ((lo + hi).fdiv 2 - lo).toNat < (hi - lo).toNat := by
  rw [pl_itemM h0 hlt h8] at hc
  exact bis_highm (mid_bnd hlt).1 (mid_bnd hlt).2 hl0 hinv hc hh
theorem bis_end {lo hi f : Int} (h : lo = hi) : max lo (min f hi) = lo := by (first | lia | omega)
theorem bislC {prog : Program} {w : World} {dp un : Nat} {gd : Option (List Code)} {outer : List Env} {s : Shared}
    {l j : Addr} {vs : List Value} {x lo0 hi0 f : Int} {J : Int → Int} {t1 t2 t3 : Tok} {Q E : Value → Shared → Prop}
    (G : Gd w (Ar dp un gd outer) outer s.heap) (hdp : dp + 48 < recursionLimit) (hun : un + 512 < cLine)
    (hl : s.heap.IsList l vs.toArray) (hi : IntsAre vs [1, 2, 3, 4, 5, 6, 7, 8]) (hk : KeyOk prog w (.ref j) s.heap J) (hfn : FnAt j s.heap) (hlo : 0 ≤ lo0) (hlh : lo0 ≤ hi0) (hh8 : hi0 ≤ 8)
    (hJ : ∀ v, 1 ≤ v → v ≤ 8 → (J v < x ↔ v ≤ f))
    (ret : ∀ t h' tk', Kp s.heap h' → Q (.int (max lo0 (min f hi0)) t) {s with heap := h', toks := tk'}) :
    wpAny (model prog w) (Ar dp un gd outer) (call (.ref 53) [.ref l, .int x t1, .int lo0 t2, .int hi0 t3] [(Str.ofString "key", .ref j)]) Q E s := by
  obtain ⟨base, p, loose, mean, mg, mb, B, X, T⟩ := G
  refine wpAny_call ?_
  tb_start
  k_steps
  refine unhold ?_
  k_with "state" => exact ⟨Int.le_refl _, by assumption, Int.le_refl _, rfl⟩
  k_while (fun _ lo hi => lo0 ≤ lo ∧ lo ≤ hi ∧ hi ≤ hi0 ∧ max lo (min f hi) = max lo0 (min f hi0)) (fun _ lo hi => (hi - lo).toNat) "lo" "hi"
  k_steps
  all_goals (try refine unhold ?_)
  · rename (J _ < x) => hc
    rename (max _ (min f _) = _) => hinv
    have hb := bis_low (f := f) (lo0 := lo0) (hi0 := hi0) (by assumption) (by (first | lia | omega)) (by (first | lia | omega)) (by (first | lia | omega)) hinv ((hJ _ (pl_loM (by (first | lia | omega)) (by assumption) (by (first | lia | omega))) (pl_hiM (by (first | lia | omega)) (by assumption) (by (first | lia | omega)))).mp hc) (by (first | lia | omega))
    kwd_less
    · exact hb.1
    · exact hb.2
  · rename (¬ J _ < x) => hc
    rename (max _ (min f _) = _) => hinv
    have hb := bis_high (f := f) (lo0 := lo0) (hi0 := hi0) (by assumption) (by (first | lia | omega)) (by (first | lia | omega)) (by (first | lia | omega)) hinv (fun hn => hc ((hJ _ (pl_loM (by (first | lia | omega)) (by assumption) (by (first | lia | omega))) (pl_hiM (by (first | lia | omega)) (by assumption) (by (first | lia | omega)))).mpr hn)) (by (first | lia | omega))
    kwd_less
    · exact hb.1
    · exact hb.2
  · rename (max _ (min f _) = _) => hinv
    (try dsimp only)
    (try k_unfold)
    (try dsimp only)
    have hr := ret
    rw [← hinv, bis_end (by (first | lia | omega))] at hr
    exact hr _ _ _ (Fr.keep (by k_asm))
theorem bislC0 {prog : Program} {w : World} {dp un : Nat} {gd : Option (List Code)} {outer : List Env} {s : Shared}
    {l j : Addr} {vs : List Value} {x f : Int} {J : Int → Int} {t1 : Tok} {Q E : Value → Shared → Prop}
    (G : Gd w (Ar dp un gd outer) outer s.heap) (hdp : dp + 48 < recursionLimit) (hun : un + 512 < cLine)
    (hl : s.heap.IsList l vs.toArray) (hi : IntsAre vs [1, 2, 3, 4, 5, 6, 7, 8]) (hk : KeyOk prog w (.ref j) s.heap J) (hfn : FnAt j s.heap) 
    (hJ : ∀ v, 1 ≤ v → v ≤ 8 → (J v < x ↔ v ≤ f))
    (ret : ∀ t h' tk', Kp s.heap h' → Q (.int (max 0 (min f 8)) t) {s with heap := h', toks := tk'}) :
    wpAny (model prog w) (Ar dp un gd outer) (call (.ref 53) [.ref l, .int x t1] [(Str.ofString "key", .ref j)]) Q E s := by
  obtain ⟨base, p, loose, mean, mg, mb, B, X, T⟩ := G
  refine wpAny_call ?_
  tb_start
  k_steps
  refine unhold ?_
  k_with "state" => exact ⟨by decide, by decide, by decide, rfl⟩
  k_while (fun _ lo hi => 0 ≤ lo ∧ lo ≤ hi ∧ hi ≤ 8 ∧ max lo (min f hi) = max 0 (min f 8)) (fun _ lo hi => (hi - lo).toNat) "lo" "hi"
  k_steps
  all_goals (try refine unhold ?_)
  · rename (J _ < x) => hc
    rename (max _ (min f _) = _) => hinv
    have hb := bis_low (f := f) (lo0 := 0) (hi0 := 8) (by assumption) (by (first | lia | omega)) (by (first | lia | omega)) (by (first | lia | omega)) hinv ((hJ _ (pl_loM (by (first | lia | omega)) (by assumption) (by (first | lia | omega))) (pl_hiM (by (first | lia | omega)) (by assumption) (by (first | lia | omega)))).mp hc) (by (first | lia | omega))
    kwd_less
    · exact hb.1
    · exact hb.2
  · rename (¬ J _ < x) => hc
    rename (max _ (min f _) = _) => hinv
    have hb := bis_high (f := f) (lo0 := 0) (hi0 := 8) (by assumption) (by (first | lia | omega)) (by (first | lia | omega)) (by (first | lia | omega)) hinv (fun hn => hc ((hJ _ (pl_loM (by (first | lia | omega)) (by assumption) (by (first | lia | omega))) (pl_hiM (by (first | lia | omega)) (by assumption) (by (first | lia | omega)))).mpr hn)) (by (first | lia | omega))
    kwd_less
    · exact hb.1
    · exact hb.2
  · rename (max _ (min f _) = _) => hinv
    (try dsimp only)
    (try k_unfold)
    (try dsimp only)
    have hr := ret
    rw [← hinv, bis_end (by (first | lia | omega))] at hr
    exact hr _ _ _ (Fr.keep (by k_asm))
theorem bisrC {prog : Program} {w : World} {dp un : Nat} {gd : Option (List Code)} {outer : List Env} {s : Shared}
    {l j : Addr} {vs : List Value} {x lo0 hi0 f : Int} {J : Int → Int} {t1 t2 t3 : Tok} {Q E : Value → Shared → Prop}
    (G : Gd w (Ar dp un gd outer) outer s.heap) (hdp : dp + 48 < recursionLimit) (hun : un + 512 < cLine)
    (hl : s.heap.IsList l vs.toArray) (hi : IntsAre vs [1, 2, 3, 4, 5, 6, 7, 8]) (hk : KeyOk prog w (.ref j) s.heap J) (hfn : FnAt j s.heap) (hlo : 0 ≤ lo0) (hlh : lo0 ≤ hi0) (hh8 : hi0 ≤ 8)
    (hJ : ∀ v, 1 ≤ v → v ≤ 8 → (¬ x < J v ↔ v ≤ f))
    (ret : ∀ t h' tk', Kp s.heap h' → Q (.int (max lo0 (min f hi0)) t) {s with heap := h', toks := tk'}) :
    wpAny (model prog w) (Ar dp un gd outer) (call (.ref 44) [.ref l, .int x t1, .int lo0 t2, .int hi0 t3] [(Str.ofString "key", .ref j)]) Q E s := by
  obtain ⟨base, p, loose, mean, mg, mb, B, X, T⟩ := G
  refine wpAny_call ?_
  tb_start
  k_steps
  refine unhold ?_
  k_with "state" => exact ⟨Int.le_refl _, by assumption, Int.le_refl _, rfl⟩
  k_while (fun _ lo hi => lo0 ≤ lo ∧ lo ≤ hi ∧ hi ≤ hi0 ∧ max lo (min f hi) = max lo0 (min f hi0)) (fun _ lo hi => (hi - lo).toNat) "lo" "hi"
  k_steps
  all_goals (try refine unhold ?_)
  · rename (x < J _) => hc
    rename (max _ (min f _) = _) => hinv
    have hb := bis_high (f := f) (lo0 := lo0) (hi0 := hi0) (by assumption) (by (first | lia | omega)) (by (first | lia | omega)) (by (first | lia | omega)) hinv (fun hn => absurd hc ((hJ _ (pl_loM (by (first | lia | omega)) (by assumption) (by (first | lia | omega))) (pl_hiM (by (first | lia | omega)) (by assumption) (by (first | lia | omega)))).mpr hn)) (by (first | lia | omega))
    kwd_less
    · exact hb.1
    · exact hb.2
  · rename (¬ x < J _) => hc
    rename (max _ (min f _) = _) => hinv
    have hb := bis_low (f := f) (lo0 := lo0) (hi0 := hi0) (by assumption) (by (first | lia | omega)) (by (first | lia | omega)) (by (first | lia | omega)) hinv ((hJ _ (pl_loM (by (first | lia | omega)) (by assumption) (by (first | lia | omega))) (pl_hiM (by (first | lia | omega)) (by assumption) (by (first | lia | omega)))).mp hc) (by (first | lia | omega))
    kwd_less
    · exact hb.1
    · exact hb.2
  · rename (max _ (min f _) = _) => hinv
    (try dsimp only)
    (try k_unfold)
    (try dsimp only)
    have hr := ret
    rw [← hinv, bis_end (by (first | lia | omega))] at hr
    exact hr _ _ _ (Fr.keep (by k_asm))
theorem bisrC0 {prog : Program} {w : World} {dp un : Nat} {gd : Option (List Code)} {outer : List Env} {s : Shared}
    {l j : Addr} {vs : List Value} {x f : Int} {J : Int → Int} {t1 : Tok} {Q E : Value → Shared → Prop}
    (G : Gd w (Ar dp un gd outer) outer s.heap) (hdp : dp + 48 < recursionLimit) (hun : un + 512 < cLine)
    (hl : s.heap.IsList l vs.toArray) (hi : IntsAre vs [1, 2, 3, 4, 5, 6, 7, 8]) (hk : KeyOk prog w (.ref j) s.heap J) (hfn : FnAt j s.heap) 
    (hJ : ∀ v, 1 ≤ v → v ≤ 8 → (¬ x < J v ↔ v ≤ f))
    (ret : ∀ t h' tk', Kp s.heap h' → Q (.int (max 0 (min f 8)) t) {s with heap := h', toks := tk'}) :
    wpAny (model prog w) (Ar dp un gd outer) (call (.ref 44) [.ref l, .int x t1] [(Str.ofString "key", .ref j)]) Q E s := by
  obtain ⟨base, p, loose, mean, mg, mb, B, X, T⟩ := G
  refine wpAny_call ?_
  tb_start
  k_steps
  refine unhold ?_
  k_with "state" => exact ⟨by decide, by decide, by decide, rfl⟩
  k_while (fun _ lo hi => 0 ≤ lo ∧ lo ≤ hi ∧ hi ≤ 8 ∧ max lo (min f hi) = max 0 (min f 8)) (fun _ lo hi => (hi - lo).toNat) "lo" "hi"
  k_steps
  all_goals (try refine unhold ?_)
  · rename (x < J _) => hc
    rename (max _ (min f _) = _) => hinv
    have hb := bis_high (f := f) (lo0 := 0) (hi0 := 8) (by assumption) (by (first | lia | omega)) (by (first | lia | omega)) (by (first | lia | omega)) hinv (fun hn => absurd hc ((hJ _ (pl_loM (by (first | lia | omega)) (by assumption) (by (first | lia | omega))) (pl_hiM (by (first | lia | omega)) (by assumption) (by (first | lia | omega)))).mpr hn)) (by (first | lia | omega))
    kwd_less
    · exact hb.1
    · exact hb.2
  · rename (¬ x < J _) => hc
    rename (max _ (min f _) = _) => hinv
    have hb := bis_low (f := f) (lo0 := 0) (hi0 := 8) (by assumption) (by (first | lia | omega)) (by (first | lia | omega)) (by (first | lia | omega)) hinv ((hJ _ (pl_loM (by (first | lia | omega)) (by assumption) (by (first | lia | omega))) (pl_hiM (by (first | lia | omega)) (by assumption) (by (first | lia | omega)))).mp hc) (by (first | lia | omega))
    kwd_less
    · exact hb.1
    · exact hb.2
  · rename (max _ (min f _) = _) => hinv
    (try dsimp only)
    (try k_unfold)
    (try dsimp only)
    have hr := ret
    rw [← hinv, bis_end (by (first | lia | omega))] at hr
    exact hr _ _ _ (Fr.keep (by k_asm))

end

section
theorem topOffPX : True := by
  w_top off
  k_with_none
  exact trivial

theorem kw12 : True := by
  k_with "pyIter ref" => ((with_reducible show wpAny _ _ (pyIter (Value.ref _)) (fun it s₂ => LoopAtV _ _ _ _ _ _ _ _ _ it s₂) _ _); refine Mine.hold ?_)
  k_with "newList" => (k_here; k_dflt (refine' newList_L (by (k_asm)) (by (k_asm)) ?_; k_whole); intro l' h' F' N' l1 l2; (try k_lt l1); (try k_lt2 l2); (try k_sweep))
  k_with "tb_start" => (refine' enter0 (by (assumption)) (by (assumption)) (by (assumption)) (by (k_is)) (by (k_is)) (by (ktr_room)) (by (first | exact BindsTo.of_eq rfl | (refine' kp_binds (by (assumption)) (by (exact fun _ => rfl))))) (by (exact locs rfl)) ?_ (by (exact rfl)) (by (exact rfl)) (by (exact rfl)) (by (decide)); k_whole; intro L' h' hL' F' N' B' X' T'; (try dsimp only); (try k_fold))
  k_with "InvEndN" => refine Mine.hold ?_
  k_with "tb_rel" => (rename News _ _ _ _ => nE'; (try simp only [List.push_toArray] at nE'); (first | refine' kst_end ⟨_, _, _, _, _, _, _, _, _⟩ (by k_asm) nE' (by first | kst_in | kst_inAny) (by first | (intro p hp; kst_mem) | kst_anyIn) (by rfl) (by kst_facts) (by kst_all) (by kst_same) ?_ | refine' kst_end ⟨_, _, _, _, _, _, _, _⟩ (by k_asm) nE' (by first | kst_in | kst_inAny) (by first | (intro p hp; kst_mem) | kst_anyIn) (by rfl) (by kst_facts) (by kst_all) (by kst_same) ?_ | refine' kst_end ⟨_, _, _, _, _, _, _⟩ (by k_asm) nE' (by first | kst_in | kst_inAny) (by first | (intro p hp; kst_mem) | kst_anyIn) (by rfl) (by kst_facts) (by kst_all) (by kst_same) ?_ | refine' kst_end ⟨_, _, _, _, _, _⟩ (by k_asm) nE' (by first | kst_in | kst_inAny) (by first | (intro p hp; kst_mem) | kst_anyIn) (by rfl) (by kst_facts) (by kst_all) (by kst_same) ?_ | refine' kst_end ⟨_, _, _, _, _⟩ (by k_asm) nE' (by first | kst_in | kst_inAny) (by first | (intro p hp; kst_mem) | kst_anyIn) (by rfl) (by kst_facts) (by kst_all) (by kst_same) ?_ | refine' kst_end ⟨_, _, _, _⟩ (by k_asm) nE' (by first | kst_in | kst_inAny) (by first | (intro p hp; kst_mem) | kst_anyIn) (by rfl) (by kst_facts) (by kst_all) (by kst_same) ?_ | refine' kst_end ⟨_, _, _⟩ (by k_asm) nE' (by first | kst_in | kst_inAny) (by first | (intro p hp; kst_mem) | kst_anyIn) (by rfl) (by kst_facts) (by kst_all) (by kst_same) ?_ | refine' kst_end ⟨_, _⟩ (by k_asm) nE' (by first | kst_in | kst_inAny) (by first | (intro p hp; kst_mem) | kst_anyIn) (by rfl) (by kst_facts) (by kst_all) (by kst_same) ?_); (try dsimp only))
  k_with "exec For Name Call cons nil" => (k_here; (rename Fr _ _ _ _ => lF'); (with_unfolding_all refine' For_invVF lF' (by (exact rfl)) (by (exact rfl)) ?_; k_whole))
  k_with "kst_facts1" => with_reducible exact IntsAre.cons _ _ IntsAre.nil
  k_with "exec While Compare cons nil" => (k_here; refine Mine.hold ?_)
  k_with "KswEnd" => refine Mine.hold ?_
  k_with "kwd_less" => (rename News _ _ _ _ => nE'; (try simp only [List.push_toArray] at nE'); (first | refine' ksw_end ⟨_, _, _, _, _, _, _⟩ (by k_asm) nE' (by kst_in) (by kst_facts) (by kst_all) (by ksw_same) ?_ ?_ | refine' ksw_end ⟨_, _, _, _, _, _⟩ (by k_asm) nE' (by kst_in) (by kst_facts) (by kst_all) (by ksw_same) ?_ ?_ | refine' ksw_end ⟨_, _, _, _, _⟩ (by k_asm) nE' (by kst_in) (by kst_facts) (by kst_all) (by ksw_same) ?_ ?_ | refine' ksw_end ⟨_, _, _, _⟩ (by k_asm) nE' (by kst_in) (by kst_facts) (by kst_all) (by ksw_same) ?_ ?_ | refine' ksw_end ⟨_, _, _⟩ (by k_asm) nE' (by kst_in) (by kst_facts) (by kst_all) (by ksw_same) ?_ ?_ | refine' ksw_end ⟨_, _⟩ (by k_asm) nE' (by kst_in) (by kst_facts) (by kst_all) (by ksw_same) ?_ ?_); (all_goals (try dsimp only)))
  k_with "tbn_conj" => (refine' enter0C (by (assumption)) (by (assumption)) (by (assumption)) (by (k_is)) (by (k_is)) (by (ktr_room)) (by (exact BindsTo.of_eq rfl)) (by (exact rfl)) (by (decide +kernel)) ?_ (by (exact rfl)) (by (exact rfl)) (by (exact rfl)); k_whole; intro L' h' tk' cells' hL' F' N' Y' B' X' T'; k_cells Y'; (try simp only [List.cons_append, List.nil_append] at N'); (try dsimp only); (try k_fold))
  k_with "exec While BoolOp cons nil" => (k_here; refine Mine.hold ?_)
  k_with "compareOp NotEq ref ref" => (k_here; (with_reducible show wpAny _ _ (compareOp CmpOp.NotEq (Value.ref _) (Value.ref _)) _ _ _); (with_unfolding_all refine' ne_intsK (by (is_list)) (by (first | exact IntsAre.nil | l_intsC)) (by (is_list)) (by (first | exact IntsAre.nil | l_intsC)) (by (ktr_units)) ?_; k_whole))
  exact trivial
def pivB (s : Nat → Bool) : Nat → Nat → Nat → Bool
  | 0, i, j => s (i + j + 1)
  | t + 1, i, j => xor (pivB s t (i + 1) (j + 1)) (pivB s t (i + 1) 0 && pivB s t 0 (j + 1))
def pivN (X : Nat → Nat) : Nat → Nat → Nat → Nat
  | 0, i, j => X (i + j + 1)
  | t + 1, i, j => pivN X t (i + 1) (j + 1) ^^^ (pivN X t (i + 1) 0 &&& pivN X t 0 (j + 1))
def tabV (v : Nat) : Nat → Nat
  | 0 => 0
  | k + 1 => 2 ^ (2 ^ k) * (if k = v then 2 ^ (2 ^ k) - 1 else tabV v k) + tabV v k
theorem tabV_lt (v : Nat) : ∀ k, tabV v k < 2 ^ (2 ^ k)
  | 0 => by show 0 < 2 ^ 2 ^ 0; decide
  | k + 1 => by
    have h := tabV_lt v k
    have e : 2 ^ 2 ^ (k + 1) = 2 ^ 2 ^ k * 2 ^ 2 ^ k := by rw [← Nat.pow_add]; congr 1; rw [Nat.pow_succ]; (first | lia | omega)
    rw [tabV, e]
    have hb : (if k = v then 2 ^ (2 ^ k) - 1 else tabV v k) ≤ 2 ^ (2 ^ k) - 1 := by
      split
      · exact Nat.le_refl _
      · (first | lia | omega)
    have hp : 0 < 2 ^ 2 ^ k := Nat.two_pow_pos _
    calc 2 ^ 2 ^ k * (if k = v then 2 ^ (2 ^ k) - 1 else tabV v k) + tabV v k < 2 ^ 2 ^ k * (if k = v then 2 ^ (2 ^ k) - 1 else tabV v k) + 2 ^ 2 ^ k := by (first | lia | omega)
      _ ≤ 2 ^ 2 ^ k * (2 ^ (2 ^ k) - 1) + 2 ^ 2 ^ k := Nat.add_le_add_right (Nat.mul_le_mul_left _ hb) _
      _ = 2 ^ 2 ^ k * 2 ^ 2 ^ k := by rw [Nat.mul_sub, Nat.mul_one]; have : 2 ^ 2 ^ k ≤ 2 ^ 2 ^ k * 2 ^ 2 ^ k := Nat.le_mul_of_pos_right _ hp; (first | lia | omega)
theorem tabV_bit (v : Nat) : ∀ k n, n < 2 ^ k → (tabV v k).testBit n = (decide (v < k) && n.testBit v)
  | 0, n, h => by simp [tabV]
  | k + 1, n, h => by
    rw [tabV, Nat.testBit_two_pow_mul_add _ (tabV_lt v k)]
    by_cases hn : n < 2 ^ k
    · rw [if_pos hn, tabV_bit v k n hn]
      by_cases hv : v < k
      · rw [decide_eq_true hv, decide_eq_true (by (first | lia | omega))]
      · rw [decide_eq_false hv]
        have hp : 2 ^ k ≤ 2 ^ v := Nat.pow_le_pow_right (by decide) (by (first | lia | omega))
        rw [Nat.testBit_lt_two_pow (by (first | lia | omega) : n < 2 ^ v)]
        simp
    · rw [if_neg hn]
      have hs : 2 ^ (k + 1) = 2 ^ k + 2 ^ k := by rw [Nat.pow_succ]; (first | lia | omega)
      have hm : n - 2 ^ k < 2 ^ k := by (first | lia | omega)
      have en : n = 2 ^ k + (n - 2 ^ k) := by (first | lia | omega)
      by_cases hv : k = v
      · subst hv
        rw [if_pos rfl, Nat.testBit_two_pow_sub_one, decide_eq_true hm, decide_eq_true (by (first | lia | omega))]
        rw [en, Nat.testBit_two_pow_add_eq, Nat.testBit_lt_two_pow hm]
        rfl
      · rw [if_neg hv, tabV_bit v k _ hm]
        by_cases hk : v < k
        · rw [decide_eq_true hk, decide_eq_true (by (first | lia | omega) : v < k + 1)]
          rw [Bool.true_and, Bool.true_and]
          conv => rhs; rw [en]
          rw [Nat.testBit_two_pow_add_gt hk]
        · have hp : 2 ^ (k + 1) ≤ 2 ^ v := Nat.pow_le_pow_right (by decide) (by (first | lia | omega))
          rw [decide_eq_false hk, Nat.testBit_lt_two_pow (by (first | lia | omega) : n < 2 ^ v)]
          simp
theorem bits_of (s : Nat → Bool) : ∀ k, ∃ n, n < 2 ^ k ∧ ∀ j, j < k → n.testBit j = s j
  | 0 => ⟨0, by decide, fun j hj => absurd hj (Nat.not_lt_zero _)⟩
  | k + 1 => by
    obtain ⟨n, hn, hb⟩ := bits_of s k
    have hs : 2 ^ (k + 1) = 2 ^ k + 2 ^ k := by rw [Nat.pow_succ]; (first | lia | omega)
    cases hk : s k with
    | false =>
      refine ⟨n, by (first | lia | omega), fun j hj => ?_⟩
      by_cases e : j = k
      · rw [e, Nat.testBit_lt_two_pow hn, hk]
      · exact hb j (by (first | lia | omega))
    | true =>
      refine ⟨2 ^ k + n, by (first | lia | omega), fun j hj => ?_⟩
      by_cases e : j = k
      · rw [e, Nat.testBit_two_pow_add_eq, Nat.testBit_lt_two_pow hn, hk]; rfl
      · rw [Nat.testBit_two_pow_add_gt (by (first | lia | omega)), hb j (by (first | lia | omega))]
def tabX (j : Nat) : Nat := tabV (j - 1) 15
theorem piv_bit {X : Nat → Nat} {s : Nat → Bool} {n : Nat} (hX : ∀ j, 1 ≤ j → j ≤ 15 → (X j).testBit n = s j) : ∀ t i j, i + j + 2 * t + 1 ≤ 15 → (pivN X t i j).testBit n = pivB s t i j
  | 0, i, j, h => hX _ (by (first | lia | omega)) (by (first | lia | omega))
  | t + 1, i, j, h => by
    rw [pivN, pivB, Nat.testBit_xor, Nat.testBit_and, piv_bit hX t _ _ (by (first | lia | omega)), piv_bit hX t _ _ (by (first | lia | omega)), piv_bit hX t _ _ (by (first | lia | omega))]
def aliveN (X : Nat → Nat) : Nat → Nat
  | 0 => 2 ^ (2 ^ 15) - 1
  | t + 1 => aliveN X t &&& pivN X t 0 0
def figN (X : Nat → Nat) (t : Nat) : Nat := pivN X t 0 0 ^^^ (if t = 0 then X 1 else X (2 * t + 1) ^^^ (X (2 * t) ^^^ X t))
def wantN (X : Nat → Nat) (t : Nat) : Nat := if t = 0 then 0 else aliveN X t
theorem tabs_ok : ((List.range 8).all fun t => aliveN tabX t &&& figN tabX t == wantN tabX t) = true := by decide +kernel
theorem alive_bit {X : Nat → Nat} {s : Nat → Bool} {n : Nat} (hn : n < 2 ^ 15) (hX : ∀ j, 1 ≤ j → j ≤ 15 → (X j).testBit n = s j) : ∀ t, t ≤ 7 → (∀ u, u < t → pivB s u 0 0 = true) → (aliveN X t).testBit n = true
  | 0, _, _ => by rw [aliveN, Nat.testBit_two_pow_sub_one, decide_eq_true hn]
  | t + 1, ht, h => by
    rw [aliveN, Nat.testBit_and, alive_bit hn hX t (by (first | lia | omega)) (fun u hu => h u (by (first | lia | omega))), piv_bit hX t 0 0 (by (first | lia | omega)), h t (by (first | lia | omega))]
    rfl
theorem piv_fig (s : Nat → Bool) (t : Nat) (ht : t ≤ 7) (h : ∀ u, u < t → pivB s u 0 0 = true) :
    pivB s t 0 0 = (if t = 0 then s 1 else !(xor (s (2 * t + 1)) (xor (s (2 * t)) (s t)))) := by
  obtain ⟨n, hn, hb⟩ := bits_of (fun j => s (j + 1)) 15
  have hX : ∀ j, 1 ≤ j → j ≤ 15 → (tabX j).testBit n = s j := fun j h1 h15 => by
    rw [tabX, tabV_bit _ 15 n hn, decide_eq_true (by (first | lia | omega)), Bool.true_and, hb _ (by (first | lia | omega))]
    congr 1
    (first | lia | omega)
  have hk := List.all_eq_true.mp tabs_ok t (List.mem_range.mpr (by (first | lia | omega)))
  have hk := congrArg (fun x => x.testBit n) (eq_of_beq hk)
  simp only [Nat.testBit_and] at hk
  rw [alive_bit hn hX t ht h, Bool.true_and, figN, Nat.testBit_xor, piv_bit hX t 0 0 (by (first | lia | omega)), wantN] at hk
  by_cases h0 : t = 0
  · subst h0
    simp only [if_true] at hk ⊢
    rw [hX 1 (by (first | lia | omega)) (by (first | lia | omega)), Nat.zero_testBit] at hk
    simpa using hk
  · simp only [if_neg h0] at hk ⊢
    rw [alive_bit hn hX t ht h, Nat.testBit_xor, Nat.testBit_xor, hX _ (by (first | lia | omega)) (by (first | lia | omega)), hX _ (by (first | lia | omega)) (by (first | lia | omega)), hX _ (by (first | lia | omega)) (by (first | lia | omega))] at hk
    cases h1 : pivB s t 0 0 <;> cases h2 : s (2 * t + 1) <;> cases h3 : s (2 * t) <;> cases h4 : s t <;> simp_all
theorem bitXor_bit {x y : Int} (hx : 0 ≤ x) (hy : 0 ≤ y) (i : Nat) : (Builtin.bitXor x y).toNat.testBit i = xor (x.toNat.testBit i) (y.toNat.testBit i) := by
  rw [bitXor_int hx hy, Int.toNat_natCast, Nat.testBit_xor]
theorem dbl_bit {x : Int} (hx : 0 ≤ x) (i : Nat) : (2 * x).toNat.testBit (i + 1) = x.toNat.testBit i := by
  have e : (2 * x).toNat = 2 * x.toNat := by (first | lia | omega)
  rw [e, Nat.testBit_succ]
  congr 1
  (first | lia | omega)
theorem top_bit {x : Int} (hx : 0 ≤ x) (h : x < 256) : x.toNat.testBit 7 = decide (128 ≤ x) := by
  by_cases h1 : 128 ≤ x
  · rw [decide_eq_true h1]
    have e : x.toNat = 2 ^ 7 + (x.toNat - 128) := by (first | lia | omega)
    rw [e, Nat.testBit_two_pow_add_eq, Nat.testBit_lt_two_pow (by (first | lia | omega))]
    rfl
  · rw [decide_eq_false h1, Nat.testBit_lt_two_pow (by (first | lia | omega))]
def RepK (s : Nat → Bool) (K t : Nat) (l : List Int) : Prop := l.length = K - t ∧ ∀ i, i < K - t → 0 ≤ l.getD i 0 ∧ l.getD i 0 < 256 ∧ ∀ j, j < 8 - t → (l.getD i 0).toNat.testBit (7 - j) = pivB s t i j
theorem getD_map {f : Int → Int} {l : List Int} {i : Nat} (h : i < l.length) : (l.map f).getD i 0 = f (l.getD i 0) := by
  simp [List.getD_eq_getElem?_getD, h]
theorem sub7 {j : Nat} (h : j < 7) : 7 - j = 7 - (j + 1) + 1 := (Nat.succ_sub_succ 7 j).symm.trans (Nat.succ_sub h)
theorem lt8a {t j : Nat} (h : j < 8 - (t + 1)) : j + 1 < 8 - t ∧ j < 7 := ⟨Nat.add_lt_of_lt_sub (Nat.sub_add_eq 8 t 1 ▸ h), Nat.lt_of_lt_of_le h (Nat.sub_le_sub_left (Nat.le_add_left 1 t) 8)⟩
theorem dbl256 {x : Int} : 2 * x ≥ 256 ↔ 128 ≤ x := by (first | lia | omega)
theorem rep_step {s : Nat → Bool} {K t : Nat} {a : Int} {r : List Int} (h : RepK s K t (a :: r)) (ht : t < 8) (hp : pivB s t 0 0 = true) : RepK s K (t + 1) (r.map (overS a)) := by
  obtain ⟨hl, hr⟩ := h
  have hl1 : r.length + 1 = K - t := hl
  have h0 : 0 < 8 - t := Nat.sub_pos_of_lt ht
  obtain ⟨a0, a1, ab⟩ := hr 0 (hl1 ▸ Nat.succ_pos _)
  have ea : (a :: r).getD 0 0 = a := rfl
  rw [ea] at a0 a1 ab
  have a7 := ab 0 h0
  rw [top_bit a0 a1, hp] at a7
  have a8 := of_decide_eq_true a7
  have hl2 : r.length = K - (t + 1) := by rw [Nat.sub_add_eq, ← hl1]; rfl
  refine ⟨by rw [List.length_map]; exact hl2, fun i hi => ?_⟩
  have hi' : i < r.length := hl2 ▸ hi
  obtain ⟨o0, o1, ob⟩ := hr (i + 1) (hl1 ▸ Nat.succ_lt_succ hi')
  have eo : (a :: r).getD (i + 1) 0 = r.getD i 0 := by simp [List.getD_eq_getElem?_getD]
  rw [eo] at o0 o1 ob
  rw [getD_map hi']
  have hb := overS_bnd a8 a1 o0 o1
  refine ⟨hb.1, hb.2, fun j hj => ?_⟩
  have hj2 := (lt8a hj).1
  have e7 := sub7 (lt8a hj).2
  have o7 := ob 0 h0
  rw [top_bit o0 o1] at o7
  rw [pivB, ← ob (j + 1) hj2, ← o7, ← ab (j + 1) hj2]
  unfold overS
  by_cases h1 : 2 * r.getD i 0 ≥ 256
  · rw [if_pos h1, decide_eq_true (dbl256.mp h1), Bool.true_and, bitXor_bit (Int.mul_nonneg (by decide) o0) (Int.mul_nonneg (by decide) a0), e7, dbl_bit o0, dbl_bit a0]
  · rw [if_neg h1, decide_eq_false (fun h => h1 (dbl256.mpr h)), Bool.false_and, Bool.xor_false, e7, dbl_bit o0]
theorem over_rep {s : Nat → Bool} {K F : Nat} (hK : K ≤ 8) (hF : F ≤ 8) (hp : ∀ u, u < F → pivB s u 0 0 = true) (hF8 : F < 8 → pivB s F 0 0 = false) :
    ∀ n t l, n = K - t → t ≤ F → RepK s K t l → overL l = K - F
  | 0, t, l, hn, ht, h => by
    obtain ⟨hl, _⟩ := h
    have : l = [] := List.length_eq_zero_iff.mp (by (first | lia | omega))
    subst this
    rw [overL]
    (first | lia | omega)
  | n + 1, t, l, hn, ht, h => by
    have hh := h
    obtain ⟨hl, hr⟩ := h
    match l with
    | [] => simp at hl; (first | lia | omega)
    | a :: r =>
      obtain ⟨a0, a1, ab⟩ := hr 0 (by (first | lia | omega))
      have ea : (a :: r).getD 0 0 = a := rfl
      rw [ea] at a0 a1 ab
      have a7 := ab 0 (by (first | lia | omega))
      rw [top_bit a0 a1] at a7
      simp only [List.length_cons] at hl
      rw [overL_cons]
      by_cases htF : t < F
      · rw [hp t htF] at a7
        have a8 := of_decide_eq_true a7
        rw [if_neg (by (first | lia | omega))]
        exact over_rep hK hF hp hF8 n (t + 1) _ (by (first | lia | omega)) htF (rep_step hh (by (first | lia | omega)) (hp t htF))
      · have e : t = F := by (first | lia | omega)
        subst e
        rw [hF8 (by (first | lia | omega))] at a7
        have a8 := of_decide_eq_false a7
        rw [if_pos (by (first | lia | omega))]
        (first | lia | omega)
theorem gd_app {l r : List Int} {i : Nat} (h : i < l.length) : (l ++ r).getD i 0 = l.getD i 0 := by
  rw [List.getD_eq_getElem?_getD, List.getD_eq_getElem?_getD, List.getElem?_append_left h]
theorem gd_appr {l r : List Int} {i : Nat} (h : l.length ≤ i) : (l ++ r).getD i 0 = r.getD (i - l.length) 0 := by
  rw [List.getD_eq_getElem?_getD, List.getD_eq_getElem?_getD, List.getElem?_append_right h]
theorem gd_out {l : List Int} {i : Nat} (h : l.length ≤ i) : l.getD i 0 = 0 := by
  rw [List.getD_eq_getElem?_getD, List.getElem?_eq_none h]; rfl
theorem bit_nat {b : Int} (b0 : 0 ≤ b) (b1 : b ≤ 1) : b.toNat < 2 ∧ (b.toNat = 1 ↔ b = 1) := by
  obtain ⟨c, rfl⟩ := Int.eq_ofNat_of_zero_le b0
  exact ⟨Nat.lt_succ_of_le (Int.ofNat_le.mp b1), ⟨fun h => congrArg Int.ofNat h, fun h => Int.ofNat_inj.mp h⟩⟩
theorem reg_bits {ns : List Int} (h01 : ∀ i : Nat, 0 ≤ ns.getD i 0 ∧ ns.getD i 0 ≤ 1) : ∀ m, 0 ≤ regL ns m ∧ regL ns m < 256 ∧ ∀ i, i < 8 → (regL ns m).toNat.testBit i = (decide (m ≤ i) || decide (ns.getD (m - i) 0 = 1))
  | 0 => ⟨by show (0 : Int) ≤ 255; decide, by show (255 : Int) < 256; decide, fun i hi => by
    rw [decide_eq_true (Nat.zero_le i), Bool.true_or]
    show (2 ^ 8 - 1).testBit i = true
    rw [Nat.testBit_two_pow_sub_one, decide_eq_true hi]⟩
  | m + 1 => by
    obtain ⟨r0, r1, rb⟩ := reg_bits h01 m
    have hb := h01 (m + 1)
    have ha := reg_arith r0 (Int.le_of_lt_add_one r1) hb.1 hb.2 (x := regL ns (m + 1)) rfl
    have e : (regL ns (m + 1)).toNat = (2 * (regL ns m).toNat + (ns.getD (m + 1) 0).toNat) % 2 ^ 8 := ha.2.2
    have hb1 := (bit_nat hb.1 hb.2).1
    have hb2 := (bit_nat hb.1 hb.2).2
    refine ⟨ha.1, Int.lt_add_one_of_le ha.2.1, fun i hi => ?_⟩
    rw [e, Nat.testBit_mod_two_pow, decide_eq_true hi, Bool.true_and]
    cases i with
    | zero =>
      rw [decide_eq_false (Nat.not_succ_le_zero m), Bool.false_or, Nat.testBit_zero, Nat.sub_zero, Nat.mul_add_mod, Nat.mod_eq_of_lt hb1]
      exact decide_eq_decide.mpr hb2
    | succ i =>
      rw [Nat.testBit_succ, Nat.mul_add_div (by decide), Nat.div_eq_of_lt hb1, Nat.add_zero, rb i (Nat.lt_of_succ_lt hi), Nat.add_sub_add_right]
      congr 1
      exact decide_eq_decide.mpr Nat.succ_le_succ_iff.symm
theorem oct_len (ns : List Int) : ∀ m, (octL ns m).length = m - 7
  | 0 => rfl
  | m + 1 => by
    rw [octL, List.length_append, oct_len ns m]
    by_cases h : m + 1 > 7
    · rw [if_pos h, List.length_singleton]; (first | lia | omega)
    · rw [if_neg h, List.length_nil]; (first | lia | omega)
theorem oct_get (ns : List Int) : ∀ m i, i < m - 7 → (octL ns m).getD i 0 = regL ns (8 + i)
  | 0, i, h => by (first | lia | omega)
  | m + 1, i, h => by
    have hl := oct_len ns m
    rw [octL, if_pos (by (first | lia | omega))]
    by_cases hi : i < m - 7
    · rw [gd_app (by (first | lia | omega)), oct_get ns m i hi]
    · have e : i = (octL ns m).length := by (first | lia | omega)
      rw [gd_appr (by (first | lia | omega))]
      have e2 : i - (octL ns m).length = 0 := by (first | lia | omega)
      rw [e2]
      have e3 : 8 + i = m + 1 := by (first | lia | omega)
      rw [e3]; rfl
def sgn (ns : List Int) (j : Nat) : Bool := decide (ns.getD j 0 = 1)
theorem oct_rep {ns : List Int} (h01 : ∀ i : Nat, 0 ≤ ns.getD i 0 ∧ ns.getD i 0 ≤ 1) {k : Nat} (hk : k ≤ 8) : RepK (sgn ns) k 0 ((octL ns 15).take k) := by
  have hl := oct_len ns 15
  refine ⟨by rw [List.length_take]; (first | lia | omega), fun i hi => ?_⟩
  have e : ((octL ns 15).take k).getD i 0 = regL ns (8 + i) := by
    rw [List.getD_eq_getElem?_getD, List.getElem?_take_of_lt (by (first | lia | omega)), ← List.getD_eq_getElem?_getD, oct_get ns 15 i (by (first | lia | omega))]
  rw [e]
  obtain ⟨r0, r1, rb⟩ := reg_bits h01 (8 + i)
  refine ⟨r0, r1, fun j hj => ?_⟩
  rw [rb (7 - j) (by (first | lia | omega)), decide_eq_false (by (first | lia | omega)), Bool.false_or, pivB, sgn]
  congr 3
  (first | lia | omega)
theorem row_len (free turned first : Int) : ∀ k, (rowL free turned first k).length = max 1 (2 * k)
  | 0 => rfl
  | k + 1 => by
    rw [rowL]
    by_cases hk : 0 < k
    · simp only [if_pos hk, List.length_append, List.length_singleton, row_len free turned first k]; (first | lia | omega)
    · simp only [if_neg hk, List.length_append, List.length_singleton, row_len free turned first k]; (first | lia | omega)
theorem row_pre (free turned first : Int) (k j : Nat) (hj : j < max 1 (2 * k)) : (rowL free turned first (k + 1)).getD j 0 = (rowL free turned first k).getD j 0 := by
  have hl := row_len free turned first k
  rw [rowL]
  by_cases hk : 0 < k
  · simp only [if_pos hk]
    rw [List.append_assoc, gd_app (by (first | lia | omega))]
  · simp only [if_neg hk]
    rw [gd_app (by (first | lia | omega))]
theorem row_ext (free turned first : Int) (k j : Nat) (hj : j < max 1 (2 * k)) : ∀ d, (rowL free turned first (k + d)).getD j 0 = (rowL free turned first k).getD j 0
  | 0 => rfl
  | d + 1 => by rw [← Nat.add_assoc, row_pre _ _ _ _ _ (by (first | lia | omega)), row_ext free turned first k j hj d]
theorem row_even (free turned first : Int) {k : Nat} (h0 : 0 < k) (hk : k < 8) : (rowL free turned first 8).getD (2 * k) 0 = (free.fdiv (2 ^ k)).fmod 2 := by
  have hl := row_len free turned first k
  have e8 : 8 = (k + 1) + (7 - k) := by (first | lia | omega)
  conv => lhs; rw [e8]
  rw [row_ext _ _ _ _ _ (by (first | lia | omega)), rowL]
  simp only [if_pos h0]
  rw [gd_app (by rw [List.length_append, List.length_singleton]; (first | lia | omega)), gd_appr (by (first | lia | omega))]
  have e : 2 * k - (rowL free turned first k).length = 0 := by (first | lia | omega)
  rw [e]; rfl
theorem row_odd (free turned first : Int) {k : Nat} (hk : k < 8) : (rowL free turned first 8).getD (2 * k + 1) 0 = dueF turned first k (if 0 < k then Builtin.bitXor ((rowL free turned first 8).getD (2 * k) 0) ((rowL free turned first 8).getD k 0) else 1) := by
  have hl := row_len free turned first k
  have e8 : 8 = (k + 1) + (7 - k) := by (first | lia | omega)
  have hx : ∀ j, j < 2 * (k + 1) → (rowL free turned first 8).getD j 0 = (rowL free turned first (k + 1)).getD j 0 := fun j hj => by
    conv => lhs; rw [e8]
    exact row_ext _ _ _ _ _ (by (first | lia | omega)) _
  by_cases h0 : 0 < k
  · have hg : ∀ j, j < 2 * k + 1 → (rowL free turned first 8).getD j 0 = (rowL free turned first k ++ [(free.fdiv (2 ^ k)).fmod 2]).getD j 0 := fun j hj => by
      rw [hx j (by (first | lia | omega)), rowL]
      simp only [if_pos h0]
      rw [gd_app (by rw [List.length_append, List.length_singleton]; (first | lia | omega))]
    rw [if_pos h0, hg (2 * k) (by (first | lia | omega)), hg k (by (first | lia | omega)), hx _ (by (first | lia | omega)), rowL]
    simp only [if_pos h0]
    rw [gd_appr (by rw [List.length_append, List.length_singleton]; (first | lia | omega))]
    have e : 2 * k + 1 - (rowL free turned first k ++ [(free.fdiv (2 ^ k)).fmod 2]).length = 0 := by rw [List.length_append, List.length_singleton]; (first | lia | omega)
    rw [e]; rfl
  · rw [if_neg h0, hx _ (by (first | lia | omega)), rowL]
    simp only [if_neg h0]
    rw [gd_appr (by (first | lia | omega))]
    have e : 2 * k + 1 - (rowL free turned first k).length = 0 := by (first | lia | omega)
    rw [e]; rfl
theorem row_zero (free turned first : Int) : (rowL free turned first 8).getD 0 0 = 1 := by
  have := row_ext free turned first 0 0 (by decide) 8
  rw [Nat.zero_add] at this
  rw [this]; rfl
theorem xor01 {x y : Int} (hx : 0 ≤ x ∧ x ≤ 1) (hy : 0 ≤ y ∧ y ≤ 1) : (x = 0 ∧ y = 0 ∧ Builtin.bitXor x y = 0) ∨ (x = 0 ∧ y = 1 ∧ Builtin.bitXor x y = 1) ∨ (x = 1 ∧ y = 0 ∧ Builtin.bitXor x y = 1) ∨ (x = 1 ∧ y = 1 ∧ Builtin.bitXor x y = 0) := by
  have h1 : x = 0 ∨ x = 1 := by (first | lia | omega)
  have h2 : y = 0 ∨ y = 1 := by (first | lia | omega)
  rcases h1 with rfl | rfl <;> rcases h2 with rfl | rfl
  · exact .inl ⟨rfl, rfl, by decide +kernel⟩
  · exact .inr (.inl ⟨rfl, rfl, by decide +kernel⟩)
  · exact .inr (.inr (.inl ⟨rfl, rfl, by decide +kernel⟩))
  · exact .inr (.inr (.inr ⟨rfl, rfl, by decide +kernel⟩))
theorem due01 {turned first x : Int} {k : Nat} (hx : 0 ≤ x ∧ x ≤ 1) : 0 ≤ dueF turned first k x ∧ dueF turned first k x ≤ 1 := by
  unfold dueF; split <;> (first | lia | omega)
theorem row01 (free turned first : Int) : ∀ j : Nat, 0 ≤ (rowL free turned first 8).getD j 0 ∧ (rowL free turned first 8).getD j 0 ≤ 1 := by
  intro j
  induction j using Nat.strongRecOn with
  | ind j ih =>
    by_cases h16 : j < 16
    · by_cases h0 : j = 0
      · subst h0; rw [row_zero]; decide
      · have hm := Nat.div_add_mod j 2
        by_cases he : j % 2 = 0
        · have ej : j = 2 * (j / 2) := by (first | lia | omega)
          rw [ej, row_even _ _ _ (by (first | lia | omega)) (by (first | lia | omega)), Int.fmod_eq_emod_of_nonneg _ (by (first | lia | omega))]
          (first | lia | omega)
        · have ej : j = 2 * (j / 2) + 1 := by (first | lia | omega)
          rw [ej, row_odd _ _ _ (by (first | lia | omega))]
          apply due01
          by_cases hk : 0 < j / 2
          · rw [if_pos hk]
            rcases xor01 (ih (2 * (j / 2)) (by (first | lia | omega))) (ih (j / 2) (by (first | lia | omega))) with h | h | h | h <;> (first | lia | omega)
          · rw [if_neg hk]; decide
    · have hl := row_len free turned first 8
      rw [gd_out (by (first | lia | omega))]; decide
theorem row_len16 (free turned first : Int) : (rowL free turned first 8).length = 16 := row_len free turned first 8
theorem due_low {turned first x : Int} {k : Nat} (h : (k : Int) < first) : dueF turned first k x = x := by
  unfold dueF; rw [if_neg (by (first | lia | omega))]
theorem due_at {turned first x : Int} {k : Nat} (h : (k : Int) = first) : dueF turned first k x = 1 - x := by
  unfold dueF; rw [if_pos (.inl h)]
theorem sgn_xor {a x y : Int} (hx : 0 ≤ x ∧ x ≤ 1) (hy : 0 ≤ y ∧ y ≤ 1) : (!(xor (decide (Builtin.bitXor x y = 1)) (xor (decide (x = 1)) (decide (y = 1))))) = true ∧ (!(xor (decide (1 - Builtin.bitXor x y = 1)) (xor (decide (x = 1)) (decide (y = 1))))) = false := by
  rcases xor01 hx hy with ⟨rfl, rfl, h⟩ | ⟨rfl, rfl, h⟩ | ⟨rfl, rfl, h⟩ | ⟨rfl, rfl, h⟩ <;> rw [h] <;> decide
theorem piv_low {free turned first : Int} (h8 : first ≤ 8) : ∀ u : Nat, (u : Int) < first → pivB (sgn (rowL free turned first 8)) u 0 0 = true := by
  intro u
  induction u using Nat.strongRecOn with
  | ind u ih =>
    intro hu
    rw [piv_fig _ u (by (first | lia | omega)) fun v hv => ih v hv (by (first | lia | omega))]
    by_cases h0 : u = 0
    · subst h0
      rw [if_pos rfl, sgn, row_odd (k := 0) _ _ _ (by (first | lia | omega)), due_low hu]
      rfl
    · rw [if_neg h0, sgn, sgn, sgn, row_odd _ _ _ (by (first | lia | omega)), due_low hu, if_pos (by (first | lia | omega))]
      exact (sgn_xor (a := 0) (row01 free turned first (2 * u)) (row01 free turned first u)).1
theorem piv_at {free turned first : Int} {F : Nat} (hF : (F : Int) = first) (h8 : F < 8) : pivB (sgn (rowL free turned first 8)) F 0 0 = false := by
  rw [piv_fig _ F (by (first | lia | omega)) fun v hv => piv_low (by (first | lia | omega)) v (by (first | lia | omega))]
  by_cases h0 : F = 0
  · subst h0
    rw [if_pos rfl, sgn, row_odd (k := 0) _ _ _ (by (first | lia | omega)), due_at hF]
    rfl
  · rw [if_neg h0, sgn, sgn, sgn, row_odd _ _ _ (by (first | lia | omega)), due_at hF, if_pos (by (first | lia | omega))]
    exact (sgn_xor (a := 0) (row01 free turned first (2 * F)) (row01 free turned first F)).2
theorem judge1 {free turned first : Int} (h0 : 0 ≤ first) (h8 : first ≤ 8) {k : Nat} (hk : k ≤ 8) : overL ((octL (rowL free turned first 8) 15).take k) = k - first.toNat :=
  over_rep (s := sgn (rowL free turned first 8)) hk (F := first.toNat) (by (first | lia | omega)) (fun u hu => piv_low h8 u (by (first | lia | omega))) (fun hF => piv_at (by (first | lia | omega)) hF) k 0 _ (by (first | lia | omega)) (Nat.zero_le _) (oct_rep (row01 free turned first) hk)
theorem quot_len (ns : List Int) : ∀ k, (quotL ns k).length = k + 1
  | 0 => rfl
  | k + 1 => by rw [quotL, List.length_append, List.length_singleton, quot_len ns k]
theorem quot_ext (ns : List Int) (k j : Nat) (hj : j ≤ k) : ∀ d, (quotL ns (k + d)).getD j 0 = (quotL ns k).getD j 0
  | 0 => rfl
  | d + 1 => by
    have hl := quot_len ns (k + d)
    rw [← Nat.add_assoc, quotL, gd_app (by (first | lia | omega)), quot_ext ns k j hj d]
theorem quot_next (ns : List Int) {k : Nat} (hk : k < 15) : (quotL ns 15).getD (k + 1) 0 = if k % 2 = 0 then Builtin.bitXor (Builtin.bitXor ((quotL ns 15).getD k 0) (ns.getD (k+1) 0)) (ns.getD (k/2) 0) else Builtin.bitXor ((quotL ns 15).getD k 0) (ns.getD (k+1) 0) := by
  have hl := quot_len ns k
  have e1 : (quotL ns 15).getD (k + 1) 0 = (quotL ns (k + 1)).getD (k + 1) 0 := by
    have e : 15 = (k + 1) + (14 - k) := by (first | lia | omega)
    conv => lhs; rw [e]
    exact quot_ext ns (k + 1) (k + 1) (Nat.le_refl _) _
  have e2 : (quotL ns 15).getD k 0 = (quotL ns k).getD k 0 := by
    have e : 15 = k + (15 - k) := by (first | lia | omega)
    conv => lhs; rw [e]
    exact quot_ext ns k k (Nat.le_refl _) _
  rw [e1, e2, quotL, gd_appr (by (first | lia | omega))]
  have e : k + 1 - (quotL ns k).length = 0 := by (first | lia | omega)
  rw [e]; rfl
theorem quot01 {ns : List Int} (h01 : ∀ i : Nat, 0 ≤ ns.getD i 0 ∧ ns.getD i 0 ≤ 1) : ∀ k, k ≤ 15 → 0 ≤ (quotL ns 15).getD k 0 ∧ (quotL ns 15).getD k 0 ≤ 1
  | 0, _ => by
    have := quot_ext ns 0 0 (Nat.le_refl _) 15
    rw [Nat.zero_add] at this
    rw [this]; show (0 : Int) ≤ 0 ∧ (0 : Int) ≤ 1; decide
  | k + 1, hk => by
    have ih := quot01 h01 k (by (first | lia | omega))
    rw [quot_next ns (by (first | lia | omega))]
    have hx : 0 ≤ Builtin.bitXor ((quotL ns 15).getD k 0) (ns.getD (k+1) 0) ∧ Builtin.bitXor ((quotL ns 15).getD k 0) (ns.getD (k+1) 0) ≤ 1 := by
      rcases xor01 ih (h01 (k + 1)) with h | h | h | h <;> (first | lia | omega)
    split
    · rcases xor01 hx (h01 (k / 2)) with h | h | h | h <;> (first | lia | omega)
    · exact hx
theorem made_odd {free turned first : Int} (h8 : first ≤ 8) : ∀ u : Nat, (u : Int) ≤ first → (0 < u → (quotL (rowL free turned first 8) 15).getD (2 * u) 0 = (if u < 8 then (rowL free turned first 8).getD (2 * u) 0 else (quotL (rowL free turned first 8) 15).getD (2 * u) 0)) ∧
    (u < 8 → (quotL (rowL free turned first 8) 15).getD (2 * u + 1) 0 = if (u : Int) < first then 0 else 1) := by
  intro u
  have h01 := row01 free turned first
  induction u with
  | zero =>
    intro h
    refine ⟨fun h => absurd h (Nat.lt_irrefl _), fun _ => ?_⟩
    have e0 : (quotL (rowL free turned first 8) 15).getD 0 0 = 0 := by
      have := quot_ext (rowL free turned first 8) 0 0 (Nat.le_refl _) 15
      rw [Nat.zero_add] at this
      rw [this]; rfl
    have h1 := quot_next (rowL free turned first 8) (k := 0) (by (first | lia | omega))
    have hr := row_odd free turned first (k := 0) (by (first | lia | omega))
    rw [if_neg (Nat.lt_irrefl 0)] at hr
    rw [if_pos rfl, e0, Nat.zero_div, row_zero] at h1
    simp only [Nat.mul_zero, Nat.zero_add] at hr h1 ⊢
    rw [h1, hr]
    by_cases hf : ((0 : Nat) : Int) < first
    · rw [due_low hf, if_pos hf]; decide +kernel
    · rw [due_at (by (first | lia | omega)), if_neg hf]; decide +kernel
  | succ u ih =>
    intro h
    obtain ⟨_, i2⟩ := ih (by (first | lia | omega))
    have i2 := i2 (by (first | lia | omega))
    rw [if_pos (by (first | lia | omega))] at i2
    have hev : u + 1 < 8 → (quotL (rowL free turned first 8) 15).getD (2 * (u + 1)) 0 = (rowL free turned first 8).getD (2 * (u + 1)) 0 := fun hu => by
      have h1 := quot_next (rowL free turned first 8) (k := 2 * u + 1) (by (first | lia | omega))
      rw [if_neg (by (first | lia | omega)), i2] at h1
      show (quotL (rowL free turned first 8) 15).getD (2 * u + 1 + 1) 0 = (rowL free turned first 8).getD (2 * u + 1 + 1) 0
      rw [h1]
      rcases xor01 (x := 0) (by decide) (h01 (2 * u + 1 + 1)) with h | h | h | h <;> (first | lia | omega)
    refine ⟨fun _ => ?_, fun hu => ?_⟩
    · by_cases hu : u + 1 < 8
      · rw [if_pos hu]; exact hev hu
      · rw [if_neg hu]
    · have h1 := quot_next (rowL free turned first 8) (k := 2 * (u + 1)) (by (first | lia | omega))
      rw [if_pos (by (first | lia | omega)), hev hu, show 2 * (u + 1) / 2 = u + 1 by (first | lia | omega)] at h1
      rw [h1, row_odd free turned first hu, if_pos (by (first | lia | omega))]
      by_cases hf : ((u + 1 : Nat) : Int) < first
      · rw [due_low hf, if_pos hf]
        rcases xor01 (h01 (2 * (u + 1))) (h01 (u + 1)) with ⟨a, b, h⟩ | ⟨a, b, h⟩ | ⟨a, b, h⟩ | ⟨a, b, h⟩ <;> rw [h, a, b] <;> decide +kernel
      · rw [due_at (by (first | lia | omega)), if_neg hf]
        rcases xor01 (h01 (2 * (u + 1))) (h01 (u + 1)) with ⟨a, b, h⟩ | ⟨a, b, h⟩ | ⟨a, b, h⟩ | ⟨a, b, h⟩ <;> rw [h, a, b] <;> decide +kernel
def tl (c : Nat) : List Int → List Nat
  | [] => []
  | f :: r => (if f = 0 then [] else [c]) ++ 34 :: tl c r
theorem tl_app (c : Nat) : ∀ a b : List Int, tl c (a ++ b) = tl c a ++ tl c b
  | [], _ => rfl
  | f :: r, b => by
    show (if f = 0 then [] else [c]) ++ 34 :: tl c (r ++ b) = ((if f = 0 then [] else [c]) ++ 34 :: tl c r) ++ tl c b
    rw [tl_app c r b, List.append_assoc]; rfl
theorem q_cps : (Str.ofString "\"").cps.toList = [34] := by decide +kernel
theorem e_cps : (Str.ofString "").cps.toList = [] := by decide +kernel
theorem str_app (x y : Str) : (x ++ y).cps.toList = x.cps.toList ++ y.cps.toList := by rw [PySem.Str.cps_append, Array.toList_append]
theorem text_cps {letter : Str} {c : Nat} (hc : letter.cps.toList = [c]) (ns : List Int) : (textS letter ns).cps.toList = tl c ns := by
  have key : ∀ (l : List Int) (acc : Str), (l.foldl (fun t n => (if n = 0 then t else t ++ letter) ++ Str.ofString "\"") acc).cps.toList = acc.cps.toList ++ tl c l := by
    intro l
    induction l with
    | nil => intro acc; simp [tl]
    | cons f r ih =>
      intro acc
      rw [List.foldl_cons, ih, str_app, q_cps]
      by_cases hf : f = 0
      · rw [if_pos hf]; simp [tl, hf]
      · rw [if_neg hf, str_app, hc]; simp [tl, hf]
  rw [textS, key, e_cps, List.nil_append]
def pcs (c : Nat) (ns : List Int) : Nat → Nat → List Nat
  | _, 0 => []
  | u, n + 1 => (if 0 < u ∧ ns.getD (2 * u) 0 = 1 then [c] else []) ++ 34 :: pcs c ns (u + 1) n
theorem pcs_snoc (c : Nat) (ns : List Int) : ∀ n u, pcs c ns u (n + 1) = pcs c ns u n ++ ((if 0 < u + n ∧ ns.getD (2 * (u + n)) 0 = 1 then [c] else []) ++ [34])
  | 0, u => by simp [pcs]
  | n + 1, u => by
    rw [pcs, pcs_snoc c ns n (u + 1)]
    conv => rhs; rw [pcs]
    rw [show u + 1 + n = u + (n + 1) by (first | lia | omega)]
    simp
theorem root_cps {letter : Str} {c : Nat} (hc : letter.cps.toList = [c]) (ns : List Int) : ∀ k, (rootT ns letter k).cps.toList = pcs c ns 0 k
  | 0 => e_cps
  | k + 1 => by
    rw [rootT, str_app, q_cps, pcs_snoc, Nat.zero_add]
    by_cases h : 0 < k ∧ ns.getD (2 * k) 0 = 1
    · rw [if_pos h, if_pos h, str_app, hc, root_cps hc ns k]; simp
    · rw [if_neg h, if_neg h, root_cps hc ns k]; simp
theorem pcs_count {c : Nat} (hc : c ≠ 34) (ns : List Int) : ∀ n u, (pcs c ns u n).count 34 = n
  | 0, _ => rfl
  | n + 1, u => by
    rw [pcs, List.count_append, List.count_cons, pcs_count hc ns n (u + 1)]
    split <;> simp [hc]
def TailOk (tl : List Nat) : Prop := dirL tl = []
theorem tail_ok : TailOk (Str.ofString "\" is \"here\"").cps.toList ∧ TailOk (Str.ofString "").cps.toList ∧ TailOk (Str.ofString "\"").cps.toList := by
  refine ⟨?_, ?_, ?_⟩
  · rw [show (Str.ofString "\" is \"here\"").cps.toList = 34 :: 32 :: [105, 115, 32, 34, 104, 101, 114, 101, 34] from by decide +kernel]
    exact dirL_stop rfl fun d r e => by injection e with e _; rw [← e]; decide
  · rw [e_cps]; exact dirL.eq_1
  · rw [q_cps]; exact dirL_stop rfl fun d r e => by cases e
theorem dir_pre {c : Nat} (hc : c ≠ 34) {p : Prop} [Decidable p] (r : List Nat) : dirL ((if p then [c] else []) ++ r) = (if p then [c] else []) ++ dirL r := by
  split
  · exact dirL_one hc
  · rfl
theorem drop_two {M : List Int} {u : Nat} (h : 2 * u + 1 < M.length) : M.drop (2 * u) = M.getD (2 * u) 0 :: M.getD (2 * u + 1) 0 :: M.drop (2 * (u + 1)) := by
  have e : ∀ i, (h : i < M.length) → M.getD i 0 = M[i] := fun i h => by rw [List.getD_eq_getElem?_getD, List.getElem?_eq_getElem h]; rfl
  rw [e _ (by (first | lia | omega)), e _ h, List.drop_eq_getElem_cons (by (first | lia | omega)), List.drop_eq_getElem_cons h]; rfl
theorem seg_step (c : Nat) {M : List Int} {u n : Nat} (h : 2 * u + 1 < M.length) : tl c ((M.drop (2 * u)).take (2 * (n + 1))) = (if M.getD (2 * u) 0 = 0 then [] else [c]) ++ 34 :: ((if M.getD (2 * u + 1) 0 = 0 then [] else [c]) ++ 34 :: tl c ((M.drop (2 * (u + 1))).take (2 * n))) := by
  rw [drop_two h, show 2 * (n + 1) = 2 * n + 1 + 1 by (first | lia | omega), List.take_succ_cons, List.take_succ_cons, tl, tl]
theorem ite_eqn {c : Nat} {x y : Int} {u : Nat} (hx : 0 ≤ y ∧ y ≤ 1) (h0 : u = 0 → x = 0) (h : 0 < u → x = y) : (if x = 0 then [] else [c]) = (if 0 < u ∧ y = 1 then [c] else []) := by
  by_cases hu : 0 < u
  · rw [h hu]
    by_cases h1 : y = 0
    · rw [if_pos h1, if_neg (by (first | lia | omega))]
    · rw [if_neg h1, if_pos ⟨hu, by (first | lia | omega)⟩]
  · rw [h0 (by (first | lia | omega)), if_pos rfl, if_neg (by (first | lia | omega))]
theorem name_low {c : Nat} (hc : c ≠ 34) {R M : List Int} {F k : Nat} {tl' : List Nat} (ht : TailOk tl') (hM : M.length = 16) (h01 : ∀ i : Nat, 0 ≤ R.getD i 0 ∧ R.getD i 0 ≤ 1) (g0 : M.getD 0 0 = 0)
    (hev : ∀ u, 0 < u → u ≤ F → u < 8 → M.getD (2 * u) 0 = R.getD (2 * u) 0) (hod : ∀ u, u < F → u < 8 → M.getD (2 * u + 1) 0 = 0) (hk8 : k ≤ 8) (hkF : k ≤ F) :
    ∀ n u, u + n = k → dirL (tl c ((M.drop (2 * u)).take (2 * n)) ++ tl') = pcs c R u n
  | 0, u, h => by simp only [Nat.mul_zero, List.take_zero, tl, List.nil_append, pcs]; exact ht
  | n + 1, u, h => by
    rw [seg_step c (by (first | lia | omega)), ite_eqn (u := u) (h01 (2 * u)) (fun e => by subst e; exact g0) (fun hu => hev u hu (by (first | lia | omega)) (by (first | lia | omega))), hod u (by (first | lia | omega)) (by (first | lia | omega)), if_pos rfl, List.nil_append, List.append_assoc, dir_pre hc, List.cons_append, List.cons_append, dirL_two rfl rfl,
      name_low hc ht hM h01 g0 hev hod hk8 hkF n (u + 1) (by (first | lia | omega)), pcs]
theorem name_high {c : Nat} (hc : c ≠ 34) {R M : List Int} {F k : Nat} {tl' : List Nat} (hM : M.length = 16) (h01 : ∀ i : Nat, 0 ≤ R.getD i 0 ∧ R.getD i 0 ≤ 1) (g0 : M.getD 0 0 = 0)
    (hev : ∀ u, 0 < u → u ≤ F → u < 8 → M.getD (2 * u) 0 = R.getD (2 * u) 0) (hod : ∀ u, u < F → u < 8 → M.getD (2 * u + 1) 0 = 0) (hoF : M.getD (2 * F + 1) 0 ≠ 0) (hk8 : k ≤ 8) (hkF : F < k) :
    ∀ n u, u + n = k → u ≤ F → dirL (tl c ((M.drop (2 * u)).take (2 * n)) ++ tl') = pcs c R u (F - u) ++ (if 0 < F ∧ R.getD (2 * F) 0 = 1 then [c] else [])
  | 0, u, h, hu => by (first | lia | omega)
  | n + 1, u, h, hu => by
    rw [seg_step c (by (first | lia | omega)), ite_eqn (u := u) (h01 (2 * u)) (fun e => by subst e; exact g0) (fun hu' => hev u hu' (by (first | lia | omega)) (by (first | lia | omega)))]
    by_cases e : u = F
    · subst e
      rw [if_neg hoF, Nat.sub_self, pcs, List.append_assoc, dir_pre hc, List.nil_append, List.cons_append, List.cons_append, dirL_stop rfl fun d r e => by injection e with e _; rw [← e]; exact hc]
      exact List.append_nil _
    · rw [hod u (by (first | lia | omega)) (by (first | lia | omega)), if_pos rfl, List.nil_append, List.append_assoc, dir_pre hc, List.cons_append, List.cons_append, dirL_two rfl rfl,
        name_high hc hM h01 g0 hev hod hoF hk8 hkF n (u + 1) (by (first | lia | omega)) (by (first | lia | omega)), show F - u = (F - (u + 1)) + 1 by (first | lia | omega), pcs]
      simp
section
variable {free turned first : Int} {letter tail : Str} {c : Nat}
theorem judge_name (h0 : 0 ≤ first) (h8 : first ≤ 8) (hl : letter.cps.toList = [c]) (hc : c ≠ 34) (ht : TailOk tail.cps.toList) {k : Nat} (hk : k ≤ 8) :
    dirL ((textS letter ((quotL (rowL free turned first 8) 15).take (2 * k))).cps.toList ++ tail.cps.toList) =
      if k ≤ first.toNat then (rootT (rowL free turned first 8) letter k).cps.toList
      else (rootT (rowL free turned first 8) letter first.toNat).cps.toList ++ (if 0 < first.toNat ∧ (rowL free turned first 8).getD (2 * first.toNat) 0 = 1 then [c] else []) := by
  have h01 := row01 free turned first
  have hM : (quotL (rowL free turned first 8) 15).length = 16 := quot_len _ 15
  have g0 : (quotL (rowL free turned first 8) 15).getD 0 0 = 0 := by
    have := quot_ext (rowL free turned first 8) 0 0 (Nat.le_refl _) 15
    rw [Nat.zero_add] at this
    rw [this]; rfl
  have hev : ∀ u, 0 < u → u ≤ first.toNat → u < 8 → (quotL (rowL free turned first 8) 15).getD (2 * u) 0 = (rowL free turned first 8).getD (2 * u) 0 := fun u h hu h8' => by
    have := (made_odd (free := free) (turned := turned) h8 u (by (first | lia | omega))).1 h
    rwa [if_pos h8'] at this
  have hod : ∀ u, u < first.toNat → u < 8 → (quotL (rowL free turned first 8) 15).getD (2 * u + 1) 0 = 0 := fun u hu h8' => by
    have := (made_odd (free := free) (turned := turned) h8 u (by (first | lia | omega))).2 h8'
    rwa [if_pos (by (first | lia | omega))] at this
  rw [text_cps hl, root_cps hl, root_cps hl]
  by_cases hkF : k ≤ first.toNat
  · rw [if_pos hkF]
    have := name_low hc ht hM h01 g0 hev hod hk hkF k 0 (by (first | lia | omega))
    rwa [Nat.mul_zero, List.drop_zero] at this
  · rw [if_neg hkF]
    have hoF : (quotL (rowL free turned first 8) 15).getD (2 * first.toNat + 1) 0 ≠ 0 := by
      have := (made_odd (free := free) (turned := turned) h8 first.toNat (by (first | lia | omega))).2 (by (first | lia | omega))
      rw [if_neg (by (first | lia | omega))] at this
      rw [this]; decide
    have := name_high (tl' := tail.cps.toList) hc hM h01 g0 hev hod hoF hk (by (first | lia | omega)) k 0 (by (first | lia | omega)) (by (first | lia | omega))
    rwa [Nat.mul_zero, List.drop_zero, Nat.sub_zero] at this
theorem judge2 (h0 : 0 ≤ first) (h8 : first ≤ 8) (hl : letter.cps.toList = [c]) (hc : c ≠ 34) (ht : TailOk tail.cps.toList) {k : Nat} (hk : k ≤ 8) :
    untoldF (rowL free turned first 8) ((quotL (rowL free turned first 8) 15).take (2 * k)) letter tail = ((k - first.toNat : Nat) : Int) := by
  have hM : (quotL (rowL free turned first 8) 15).length = 16 := quot_len _ 15
  have hlen : ((quotL (rowL free turned first 8) 15).take (2 * k)).length / 2 = k := by rw [List.length_take]; (first | lia | omega)
  unfold untoldF
  rw [judge_name h0 h8 hl hc ht hk, hlen]
  by_cases hkF : k ≤ first.toNat
  · rw [if_pos hkF, if_pos rfl, Nat.sub_eq_zero_of_le hkF]; rfl
  · rw [if_neg hkF]
    have hcnt : ((rootT (rowL free turned first 8) letter first.toNat).cps.toList ++ (if 0 < first.toNat ∧ (rowL free turned first 8).getD (2 * first.toNat) 0 = 1 then [c] else [])).count 34 = first.toNat := by
      rw [List.count_append, root_cps hl, pcs_count hc]
      split <;> simp [hc]
    rw [if_neg ?_, hcnt]
    · (first | lia | omega)
    · intro e
      have := congrArg (List.count 34) e
      rw [hcnt, root_cps hl, pcs_count hc] at this
      (first | lia | omega)
theorem due_name (h0 : 0 ≤ first) (h8 : first ≤ 8) (hl : letter.cps.toList = [c]) (hc : c ≠ 34) (ht : TailOk tail.cps.toList) :
    dirL ((textS letter (quotL (rowL free turned first 8) 15)).cps.toList ++ tail.cps.toList) =
      (rootT (rowL free turned first 8) letter first.toNat).cps.toList ++ (if (0 < first ∧ first < 8) ∧ (rowL free turned first 8).getD (2 * first).toNat 0 = 1 then [c] else []) := by
  have hM : (quotL (rowL free turned first 8) 15).length = 16 := quot_len _ 15
  have h := judge_name (free := free) (turned := turned) h0 h8 hl hc ht (k := 8) (Nat.le_refl _)
  rw [List.take_of_length_le (by (first | lia | omega))] at h
  rw [h, show (2 * first).toNat = 2 * first.toNat by (first | lia | omega)]
  by_cases h8' : first = 8
  · subst h8'
    rw [if_pos (by decide), if_neg (by (first | lia | omega)), List.append_nil, show (8 : Int).toNat = 8 from rfl]
  · rw [if_neg (by (first | lia | omega))]
    refine congrArg (fun z => (rootT (rowL free turned first 8) letter first.toNat).cps.toList ++ z) ?_
    by_cases hb : (rowL free turned first 8).getD (2 * first.toNat) 0 = 1
    · by_cases hf : 0 < first
      · rw [if_pos ⟨by (first | lia | omega), hb⟩, if_pos ⟨⟨hf, by (first | lia | omega)⟩, hb⟩]
      · rw [if_neg (by (first | lia | omega)), if_neg (by (first | lia | omega))]
    · rw [if_neg (fun x => hb x.2), if_neg (fun x => hb x.2)]
end
def regB (ns : List Int) (n : Nat) : Int := if n < 8 then 1 else ns.getD (n - 7) 0
theorem regB01 {ns : List Int} (h01 : ∀ i : Nat, 0 ≤ ns.getD i 0 ∧ ns.getD i 0 ≤ 1) (n : Nat) : 0 ≤ regB ns n ∧ regB ns n ≤ 1 := by
  unfold regB
  split
  · (first | lia | omega)
  · exact h01 _
theorem reg_val {ns : List Int} (h01 : ∀ i : Nat, 0 ≤ ns.getD i 0 ∧ ns.getD i 0 ≤ 1) : ∀ m, regL ns m = regB ns m * 128 + regB ns (m + 1) * 64 + regB ns (m + 2) * 32 + regB ns (m + 3) * 16 + regB ns (m + 4) * 8 + regB ns (m + 5) * 4 + regB ns (m + 6) * 2 + regB ns (m + 7)
  | 0 => by simp [regL, regB]
  | m + 1 => by
    have ih := reg_val h01 m
    have e : ns.getD (m + 1) 0 = regB ns (m + 8) := by
      unfold regB
      rw [if_neg (by (first | lia | omega))]
      congr 1
    rw [regL, e, ih]
    have b0 := regB01 h01 m
    have b1 := regB01 h01 (m + 1)
    have b2 := regB01 h01 (m + 2)
    have b3 := regB01 h01 (m + 3)
    have b4 := regB01 h01 (m + 4)
    have b5 := regB01 h01 (m + 5)
    have b6 := regB01 h01 (m + 6)
    have b7 := regB01 h01 (m + 7)
    have b8 := regB01 h01 (m + 8)
    rw [show m + 1 + 1 = m + 2 from rfl, show m + 1 + 2 = m + 3 from rfl, show m + 1 + 3 = m + 4 from rfl, show m + 1 + 4 = m + 5 from rfl, show m + 1 + 5 = m + 6 from rfl, show m + 1 + 6 = m + 7 from rfl, show m + 1 + 7 = m + 8 from rfl]
    split <;> (first | lia | omega)
theorem reg_at {ns : List Int} (h01 : ∀ i : Nat, 0 ≤ ns.getD i 0 ∧ ns.getD i 0 ≤ 1) (i : Nat) : regL ns (8 + i) = ns.getD (i + 1) 0 * 128 + ns.getD (i + 2) 0 * 64 + ns.getD (i + 3) 0 * 32 + ns.getD (i + 4) 0 * 16 + ns.getD (i + 5) 0 * 8 + ns.getD (i + 6) 0 * 4 + ns.getD (i + 7) 0 * 2 + ns.getD (i + 8) 0 := by
  have hb : ∀ p, regB ns (8 + i + p) = ns.getD (i + (p + 1)) 0 := fun p => by
    unfold regB
    rw [if_neg (by (first | lia | omega))]
    congr 1
    (first | lia | omega)
  have h0 := hb 0
  rw [Nat.add_zero] at h0
  rw [reg_val h01, h0, hb 1, hb 2, hb 3, hb 4, hb 5, hb 6, hb 7]
def octV (ns : List Int) (i : Nat) : Int := ns.getD (i + 1) 0 * 128 + ns.getD (i + 2) 0 * 64 + ns.getD (i + 3) 0 * 32 + ns.getD (i + 4) 0 * 16 + ns.getD (i + 5) 0 * 8 + ns.getD (i + 6) 0 * 4 + ns.getD (i + 7) 0 * 2 + ns.getD (i + 8) 0
theorem oct_val {ns : List Int} (h01 : ∀ i : Nat, 0 ≤ ns.getD i 0 ∧ ns.getD i 0 ≤ 1) : octL ns 15 = (List.range 8).map (octV ns) := by
  have hl := oct_len ns 15
  apply List.ext_getElem
  · rw [hl, List.length_map, List.length_range]
  · intro i h1 h2
    have h := oct_get ns 15 i (by (first | lia | omega))
    rw [List.getD_eq_getElem?_getD, List.getElem?_eq_getElem h1] at h
    rw [List.getElem_map, List.getElem_range]
    exact h.trans (reg_at h01 i)

end

section
theorem topOffX : True := by
  w_top off
  k_with_none
  exact trivial

theorem kw13 : True := by
  k_with "pyIter ref" => ((with_reducible show wpAny _ _ (pyIter (Value.ref _)) (fun it s₂ => LoopAtV _ _ _ _ _ _ _ _ _ it s₂) _ _); refine Mine.hold ?_)
  k_with "newList" => (k_here; k_dflt (refine' newList_L (by (k_asm)) (by (k_asm)) ?_; k_whole); intro l' h' F' N' l1 l2; (try k_lt l1); (try k_lt2 l2); (try k_sweep))
  k_with "tb_start" => (refine' enter0 (by (assumption)) (by (assumption)) (by (assumption)) (by (k_is)) (by (k_is)) (by (ktr_room)) (by (first | exact BindsTo.of_eq rfl | (refine' kp_binds (by (assumption)) (by (exact fun _ => rfl))))) (by (exact locs rfl)) ?_ (by (exact rfl)) (by (exact rfl)) (by (exact rfl)) (by (decide)); k_whole; intro L' h' hL' F' N' B' X' T'; (try dsimp only); (try k_fold))
  k_with "InvEndN" => refine Mine.hold ?_
  k_with "tb_rel" => (rename News _ _ _ _ => nE'; (try simp only [List.push_toArray] at nE'); (first | refine' kst_end ⟨_, _, _, _, _, _, _, _, _⟩ (by k_asm) nE' (by first | kst_in | kst_inAny) (by first | (intro p hp; kst_mem) | kst_anyIn) (by rfl) (by kst_facts) (by kst_all) (by kst_same) ?_ | refine' kst_end ⟨_, _, _, _, _, _, _, _⟩ (by k_asm) nE' (by first | kst_in | kst_inAny) (by first | (intro p hp; kst_mem) | kst_anyIn) (by rfl) (by kst_facts) (by kst_all) (by kst_same) ?_ | refine' kst_end ⟨_, _, _, _, _, _, _⟩ (by k_asm) nE' (by first | kst_in | kst_inAny) (by first | (intro p hp; kst_mem) | kst_anyIn) (by rfl) (by kst_facts) (by kst_all) (by kst_same) ?_ | refine' kst_end ⟨_, _, _, _, _, _⟩ (by k_asm) nE' (by first | kst_in | kst_inAny) (by first | (intro p hp; kst_mem) | kst_anyIn) (by rfl) (by kst_facts) (by kst_all) (by kst_same) ?_ | refine' kst_end ⟨_, _, _, _, _⟩ (by k_asm) nE' (by first | kst_in | kst_inAny) (by first | (intro p hp; kst_mem) | kst_anyIn) (by rfl) (by kst_facts) (by kst_all) (by kst_same) ?_ | refine' kst_end ⟨_, _, _, _⟩ (by k_asm) nE' (by first | kst_in | kst_inAny) (by first | (intro p hp; kst_mem) | kst_anyIn) (by rfl) (by kst_facts) (by kst_all) (by kst_same) ?_ | refine' kst_end ⟨_, _, _⟩ (by k_asm) nE' (by first | kst_in | kst_inAny) (by first | (intro p hp; kst_mem) | kst_anyIn) (by rfl) (by kst_facts) (by kst_all) (by kst_same) ?_ | refine' kst_end ⟨_, _⟩ (by k_asm) nE' (by first | kst_in | kst_inAny) (by first | (intro p hp; kst_mem) | kst_anyIn) (by rfl) (by kst_facts) (by kst_all) (by kst_same) ?_); (try dsimp only))
  k_with "exec For Name Call cons nil" => (k_here; (rename Fr _ _ _ _ => lF'); (with_unfolding_all refine' For_invVF lF' (by (exact rfl)) (by (exact rfl)) ?_; k_whole))
  k_with "kst_facts1" => with_reducible exact IntsAre.cons _ _ IntsAre.nil
  k_with "exec While Compare cons nil" => (k_here; refine Mine.hold ?_)
  k_with "KswEnd" => refine Mine.hold ?_
  k_with "kwd_less" => (rename News _ _ _ _ => nE'; (try simp only [List.push_toArray] at nE'); (first | refine' ksw_end ⟨_, _, _, _, _, _, _⟩ (by k_asm) nE' (by kst_in) (by kst_facts) (by kst_all) (by ksw_same) ?_ ?_ | refine' ksw_end ⟨_, _, _, _, _, _⟩ (by k_asm) nE' (by kst_in) (by kst_facts) (by kst_all) (by ksw_same) ?_ ?_ | refine' ksw_end ⟨_, _, _, _, _⟩ (by k_asm) nE' (by kst_in) (by kst_facts) (by kst_all) (by ksw_same) ?_ ?_ | refine' ksw_end ⟨_, _, _, _⟩ (by k_asm) nE' (by kst_in) (by kst_facts) (by kst_all) (by ksw_same) ?_ ?_ | refine' ksw_end ⟨_, _, _⟩ (by k_asm) nE' (by kst_in) (by kst_facts) (by kst_all) (by ksw_same) ?_ ?_ | refine' ksw_end ⟨_, _⟩ (by k_asm) nE' (by kst_in) (by kst_facts) (by kst_all) (by ksw_same) ?_ ?_); (all_goals (try dsimp only)))
  k_with "tbn_conj" => (refine' enter0C (by (assumption)) (by (assumption)) (by (assumption)) (by (k_is)) (by (k_is)) (by (ktr_room)) (by (exact BindsTo.of_eq rfl)) (by (exact rfl)) (by (decide +kernel)) ?_ (by (exact rfl)) (by (exact rfl)) (by (exact rfl)); k_whole; intro L' h' tk' cells' hL' F' N' Y' B' X' T'; k_cells Y'; (try simp only [List.cons_append, List.nil_append] at N'); (try dsimp only); (try k_fold))
  k_with "exec While BoolOp cons nil" => (k_here; refine Mine.hold ?_)
  k_with "compareOp NotEq ref ref" => (k_here; (with_reducible show wpAny _ _ (compareOp CmpOp.NotEq (Value.ref _) (Value.ref _)) _ _ _); (with_unfolding_all refine' ne_intsK (by (is_list)) (by (first | exact IntsAre.nil | l_intsC)) (by (is_list)) (by (first | exact IntsAre.nil | l_intsC)) (by (ktr_units)) ?_; k_whole))
  exact trivial
def TurnC (prog : Program) (w : World) (A : Around) (h₀ : Heap) (L : Addr) (m : Str → Option Value) (env : Env) (elt : Expr) (x : Str) (scope : Scope) (cl : List (Str × Addr)) (s : Shared) (P : Nat → Value → Prop) (V : Nat → Value → Prop) (n : Nat) (news : List (Addr × Obj)) : Prop :=
  ∀ i v I oI C oC D K oK ys h tk (E' : Value → Shared → Prop), i < n → P i v → oK.data = .cell (some v) → Fr h₀ L h m → News h₀ L h ((I, oI) :: (C, oC) :: (D, LCg.lst ys) :: (K, oK) :: news) → LCg.Off3 I C D ((K, oK) :: news) → (∀ p ∈ news, p.1 ≠ K) → ((@Ne Nat I C) ∧ (@Ne Nat I D) ∧ (@Ne Nat C D)) →
    wpAny (model prog w) A (eval elt (compEnvC scope ((x, K) :: cl) C env)) (fun y s' => ∃ h' tk', s' = { s with heap := h', toks := tk' } ∧ Fr h₀ L h' m ∧ News h₀ L h' ((I, oI) :: (C, oC) :: (D, LCg.lst ys) :: (K, oK) :: news) ∧ V i y) E' { s with heap := h, toks := tk }
theorem block_C {prog : Program} {w : World} {A : Around} {E : Value → Shared → Prop} {h₀ : Heap} {L : Addr} {m : Str → Option Value} {env : Env} {elt iter : Expr} {x : Str} {px : Pos} {scope : Scope} {cl : List (Str × Addr)} {pos : Pos} {s₂ : Shared} {I : Addr} {fp : List Addr} {n : Nat} {P V : Nat → Value → Prop} {St : Nat → Heap → Prop} {news : List (Addr × Obj)}
    {RR : Value → Addr → Result → Shared → Prop}
    (W : Walks prog w A I fp [I] n P St) (hsz : n ≤ sizeLine) (hIo : ∀ i h, St i h → ∃ o, h.get? I = some o)
    (hSt : ∀ i h h' o, St i h → h.get? I = some o → h'.get? I = some o → St i h')
    (hpush : ∀ h, pushCells h scope.names = h.push { cls := .type "cell", data := .cell none }) (hcells : ∀ k, cellsFrom k scope.names cl = (x, k) :: cl) (hkind : scope.kind = .function) (hx : (relabel scope env).names.lookup x = some .cell)
    (hst : St 0 s₂.heap) (hfp : ∀ b ∈ fp, b < s₂.heap.objs.size)
    (F : Fr h₀ L s₂.heap m) (N : News h₀ L s₂.heap news) (hIL : L ≠ I) (hI₀ : h₀.get? I = none) (off : ∀ p ∈ news, p.1 ≠ I)
    (R : TurnC prog w A h₀ L m env elt x scope cl s₂ P V n news)
    (hRR : ∀ D C h tk m' ys, Fr h₀ L h m → News h₀ L h ((D, LCg.lst ys) :: news) → LCg.Off1 D news → h.Ns C m' → h₀.get? C = none → h₀.get? D = none → C ≠ L → D ≠ L → C ≠ D → (∀ p ∈ news, p.1 ≠ C) → ys.length = n → (∀ i y, ys[i]? = some y → V i y) → RR (.ref D) C (.ok .next) { s₂ with heap := h, toks := tk }) :
    wpAny (model prog w) A (newList []) (fun acc s₃ => wpAny (model prog w) A (newFunctionEnv scope env.globals cl [] env.qual none .none (some env)) (fun cenv s₄ =>
      codeAny (model prog w) A (.compStart (.ListComp elt [⟨.Name x px, iter, [], 0⟩] scope pos) 0 (.ref I) acc { cenv with scope := relabel scope env }) (RR acc cenv.locals) s₄) E s₃) E s₂ := by
  refine wpAny_newObj_type ?_
  have envStep : ∀ (H2 : Heap) (Q' : Env → Shared → Prop), Q' (newEnv scope H2.objs.size env.globals ((x, H2.objs.size + 1) :: cl) env.qual none .none (some env) builtinsNs) { s₂ with heap := (H2.push { cls := .type "dict", data := .dict #[] }).push { cls := .type "cell", data := .cell none } } →
      wpAny (model prog w) A (newFunctionEnv scope env.globals cl [] env.qual none .none (some env)) Q' E { s₂ with heap := H2 } := fun H2 Q' hq => by
    simp only [newFunctionEnv, Option.isSome_some, if_true]
    refine wpAny_bind (wpAny_alloc ?_)
    refine wpAny_bind (wpAny_layCells _ (fun name kind cells => by cases hkc : kind == NameKind.cell <;> simp [hkc]) _ _ _ _ ?_)
    rw [hpush, hcells]
    rw [show ({ s₂ with heap := H2.push { cls := .type "dict", data := .dict #[] } } : Shared).heap.objs.size = H2.objs.size + 1 from Heap.size_push ..]
    exact wpAny_bind (wpAny_pure (wpAny_pure hq))
  generalize hH2 : s₂.heap.push { cls := .type "list", dict := none, data := .seq ([] : List Value).toArray } = H2
  refine envStep H2 _ ?_
  have hC : H2.objs.size = s₂.heap.objs.size + 1 := by rw [← hH2, Heap.size_push]
  generalize hH3 : H2.push { cls := .type "dict", data := .dict #[] } = H3
  have hC3 : H3.objs.size = s₂.heap.objs.size + 2 := by rw [← hH3, Heap.size_push, hC]
  generalize hh₁ : H3.push { cls := .type "cell", data := .cell none } = h₁
  have hs1 : h₁.objs.size = s₂.heap.objs.size + 3 := by rw [← hh₁, Heap.size_push, hC3]
  have eD : H2.objs.size = s₂.heap.objs.size + 1 := hC
  have hIf : I ∈ fp := W.sub I (List.mem_singleton.mpr rfl)
  have hIlt : I < s₂.heap.objs.size := hfp I hIf
  have old : ∀ b o, s₂.heap.get? b = some o → h₁.get? b = some o := fun b o e => by
    rw [← hh₁]; refine Heap.get?_push_of_some _ ?_
    rw [← hH3]; refine Heap.get?_push_of_some _ ?_
    rw [← hH2]; exact Heap.get?_push_of_some _ e
  have hacc : h₁.get? s₂.heap.objs.size = some (LCg.lst []) := by
    rw [← hh₁]; refine Heap.get?_push_of_some _ ?_
    rw [← hH3]; refine Heap.get?_push_of_some _ ?_
    rw [← hH2]; exact Heap.get?_push_size _ rfl
  have hns₁ : h₁.Ns H2.objs.size (fun _ => none) := by
    rw [← hh₁, ← hH3]
    exact (Heap.Ns.new H2 (.type "dict")).keeps fun b o e => Heap.get?_push_of_some _ e
  have hcel₁ : h₁.get? (H2.objs.size + 1) = some { cls := .type "cell", data := .cell none } := by
    rw [← hh₁, show H2.objs.size + 1 = H3.objs.size by rw [hC3, hC]]
    exact Heap.get?_push_size _ rfl
  have hst₁ : St 0 h₁ := W.frame _ _ _ hst fun b _ o e => old b o e
  have fresh : ∀ a, s₂.heap.objs.size ≤ a → s₂.heap.get? a = none := fun a ha => by
    cases e : s₂.heap.get? a with
    | none => rfl
    | some o' => exact absurd (Heap.lt_size e) (Nat.not_lt.mpr ha)
  have fresh₀ : ∀ a, s₂.heap.objs.size ≤ a → h₀.get? a = none := fun a ha => by
    cases e : h₀.get? a with
    | none => rfl
    | some o' => have := F.keep a o' e; rw [fresh a ha] at this; cases this
  have hLlt : L < s₂.heap.objs.size := F.ns.lt
  generalize hDe : s₂.heap.objs.size = D at *
  rw [hC] at hns₁ hcel₁ ⊢
  have hD₀ : h₀.get? D = none := fresh₀ _ (Nat.le_refl _)
  have hC₀ : h₀.get? (D + 1) = none := fresh₀ _ (Nat.le_succ _)
  have hK₀ : h₀.get? (D + 1 + 1) = none := fresh₀ _ (Nat.le_succ_of_le (Nat.le_succ _))
  have ne1 : ∀ b : Nat, b < D → b ≠ D ∧ b ≠ D + 1 ∧ b ≠ D + 1 + 1 := fun b hb => by (first | lia | omega)
  have nL := ne1 L hLlt
  have nI := ne1 I hIlt
  have nN : ∀ p ∈ news, p.1 ≠ D ∧ p.1 ≠ D + 1 ∧ p.1 ≠ D + 1 + 1 := fun p hp => ne1 p.1 (hDe ▸ Heap.lt_size (N p hp).1)
  have nf : D ∉ fp ∧ D + 1 ∉ fp ∧ D + 1 + 1 ∉ fp := ⟨fun hm => (ne1 _ (hfp _ hm)).1 rfl, fun hm => (ne1 _ (hfp _ hm)).2.1 rfl, fun hm => (ne1 _ (hfp _ hm)).2.2 rfl⟩
  have loop : ∀ s₃ : Shared, s₃ = { s₂ with heap := h₁ } →
      codeAny (model prog w) A (.compLoop (.ListComp elt [⟨.Name x px, iter, [], 0⟩] scope pos) 0 (.ref I) (.ref D) (compEnvC scope ((x, D + 1 + 1) :: cl) (D + 1) env))
        (RR (.ref D) (D + 1)) s₃ := by
    rintro s₃ rfl
    refine codeAny_compLoop_tests
      (fun k s' => ∃ h' tk i ys m' oK, s' = { s₂ with heap := h', toks := tk } ∧ i ≤ n ∧ k = n + 1 - i ∧ ys.length = i ∧ St i h' ∧ Fr h₀ L h' m ∧ h'.Ns (D + 1) m' ∧ News h₀ L h' ((D, LCg.lst ys) :: (D + 1 + 1, oK) :: news) ∧ (∃ v, oK.data = .cell v) ∧
        (∀ i y, ys[i]? = some y → V i y)) ?_ (n + 1)
      ⟨h₁, _, 0, [], _, { cls := .type "cell", data := .cell none }, rfl, Nat.zero_le _, rfl, rfl, hst₁, F.keeps old, hns₁, fun p hp => ?_, ⟨_, rfl⟩, fun i y h => by simp at h⟩
    · rintro k s' ⟨h', tk, i, ys, m', oK, rfl, hi, rfl, hyl, hst', F', hn', N', ⟨v0, hoK⟩, hV⟩
      have zD := N' _ (.head _)
      have zK := N' _ (.tail _ (.head _))
      have zN : News h₀ L h' news := fun p hp => N' p (.tail _ (.tail _ hp))
      by_cases hlt : i < n
      · refine W.item i _ _ _ hlt hst' fun v h₂ tk₂ hPv hst₂ hk₂ => ?_
        have k2 : ∀ b o, b ≠ I → h'.get? b = some o → h₂.get? b = some o := fun b o hb e => hk₂ b o (by simpa using hb) e
        have hcK : h₂.IsCell (D + 1 + 1) v0 := ⟨oK, k2 _ _ (Ne.symm nI.2.2) zK.1, hoK⟩
        refine wpAny_assign_Name (wpAny_storeName_cell (by simp [compEnvC, relabel, hkind]) hx (by simp [compEnvC]) hcK (fun h₃ hv₃ hs₃ => ?_))
        refine wpAny_tests_nil ?_
        simp only [if_true]
        have k3 : ∀ b o, b ≠ D + 1 + 1 → h₂.get? b = some o → h₃.get? b = some o := fun b o hb e => hs₃.extBut b o hb e
        have hst₃ : St (i + 1) h₃ := W.frame _ _ _ hst₂ fun b hb o e => k3 b o (fun q => nf.2.2 (q ▸ hb)) e
        obtain ⟨oI, heI⟩ := hIo _ _ hst₃
        obtain ⟨oK', heK, hoK'⟩ := hv₃
        obtain ⟨oC, heC, hoC⟩ := LCg.ns_obj ((hn'.at' fun o e => k2 _ o (Ne.symm nI.2.1) e).at' fun o e => k3 _ o (Nat.ne_of_lt (Nat.lt_succ_self _)) e)
        have hKh : h₀.get? (D + 1 + 1) = none := hK₀
        have F₃ : Fr h₀ L h₃ m := (LCg.fr_but F' hk₂ hIL hI₀).change hs₃ (Ne.symm nL.2.2) hK₀
        have N₃ : News h₀ L h₃ ((I, oI) :: (D + 1, oC) :: (D, LCg.lst ys) :: (D + 1 + 1, oK') :: news) := fun p hp => by
          rcases List.mem_cons.mp hp with rfl | hp
          · exact ⟨heI, Ne.symm hIL, hI₀⟩
          · rcases List.mem_cons.mp hp with rfl | hp
            · exact ⟨heC, Ne.symm nL.2.1, hC₀⟩
            · rcases List.mem_cons.mp hp with rfl | hp
              · exact ⟨k3 _ _ (Nat.ne_of_lt (Nat.lt_succ_of_lt (Nat.lt_succ_self _))) (k2 _ _ (Ne.symm nI.1) zD.1), zD.2⟩
              · rcases List.mem_cons.mp hp with rfl | hp
                · exact ⟨heK, Ne.symm nL.2.2, hK₀⟩
                · exact ⟨k3 _ _ (nN p hp).2.2 (k2 _ _ (off p hp) (zN p hp).1), (zN p hp).2⟩
        refine wpAny_mono (R i v I oI (D + 1) oC D (D + 1 + 1) oK' ys h₃ _ _ hlt hPv hoK' F₃ N₃ (LCg.Off3.of fun p hp => ?_) (fun p hp => (nN p hp).2.2) ⟨nI.2.1, nI.1, Nat.succ_ne_self D⟩) (fun y s₄ h₄ => ?_) fun _ _ e => e
        · rcases List.mem_cons.mp hp with rfl | hp
          · exact ⟨Ne.symm nI.2.2, Nat.succ_ne_self _, Nat.ne_of_gt (Nat.lt_succ_of_lt (Nat.lt_succ_self _))⟩
          · exact ⟨off p hp, (nN p hp).2.1, (nN p hp).1⟩
        obtain ⟨h₄, tk₄, rfl, F₄, N₄, hVi⟩ := h₄
        have yI := (N₄ _ (.head _)).1
        have yC := (N₄ _ (.tail _ (.head _))).1
        have yD := (N₄ _ (.tail _ (.tail _ (.head _)))).1
        have hst₄ : St (i + 1) h₄ := hSt _ _ _ _ hst₃ heI yI
        refine append_at (hsz := by show ys.toArray.size ≤ sizeLine; rw [List.size_toArray, hyl]; exact Nat.le_trans hi hsz) yD fun h₅ hs₅ hD₅ => ?_
        refine ⟨n + 1 - (i + 1), by (first | lia | omega), h₅, tk₄, i + 1, ys ++ [y], _, oK', rfl, hlt, rfl, by rw [List.length_append, List.length_singleton, hyl], W.frame _ _ _ hst₄ fun b hb o e => hs₅.extBut b o (fun q => nf.1 (q ▸ hb)) e, F₄.change hs₅ (Ne.symm nL.1) hD₀,
          (hoC.ns yC).sameBut hs₅ (Nat.succ_ne_self D), fun p hp => ?_, ⟨_, hoK'⟩, fun j z hz => ?_⟩
        · rcases List.mem_cons.mp hp with rfl | hp
          · exact ⟨hD₅.trans (congrArg some (LCg.lst_snoc ys y)), Ne.symm nL.1, hD₀⟩
          · have q := N₄ p (.tail _ (.tail _ (.tail _ hp)))
            refine ⟨hs₅.extBut _ _ ?_ q.1, q.2⟩
            rcases List.mem_cons.mp hp with rfl | hp
            · exact Nat.ne_of_gt (Nat.lt_succ_of_lt (Nat.lt_succ_self _))
            · exact (nN p hp).1
        · by_cases hj : j < ys.length
          · rw [List.getElem?_append_left hj] at hz; exact hV j z hz
          · rw [List.getElem?_append_right (Nat.not_lt.mp hj)] at hz
            obtain ⟨e1, e2⟩ := List.getElem?_eq_some_iff.mp hz
            simp only [List.length_singleton] at e1
            have e3 : j = i := by (first | lia | omega)
            subst e3
            have e4 : j - ys.length = 0 := by (first | lia | omega)
            simp only [e4, List.getElem_cons_zero] at e2
            rw [← e2]; exact hVi
      · obtain rfl : i = n := Nat.le_antisymm hi (Nat.not_lt.mp hlt)
        refine W.done _ _ _ hst' fun h₂ tk₂ hk₂ => ?_
        have k2 : ∀ b o, b ≠ I → h'.get? b = some o → h₂.get? b = some o := fun b o hb e => hk₂ b o (by simpa using hb) e
        refine hRR D (D + 1) h₂ tk₂ _ ys (LCg.fr_but F' hk₂ hIL hI₀) (fun p hp => ?_) (LCg.Off3.one (I := I) (C := D + 1) (LCg.Off3.of fun p hp => ⟨off p hp, (nN p hp).2.1, (nN p hp).1⟩)) (hn'.at' fun o e => k2 _ o (Ne.symm nI.2.1) e) hC₀ hD₀ (Ne.symm nL.2.1) (Ne.symm nL.1) (Nat.succ_ne_self D) (fun p hp => (nN p hp).2.1) hyl hV
        rcases List.mem_cons.mp hp with rfl | hp
        · exact ⟨k2 _ _ (Ne.symm nI.1) zD.1, zD.2⟩
        · exact ⟨k2 _ _ (off p hp) (zN p hp).1, (zN p hp).2⟩
    · rcases List.mem_cons.mp hp with rfl | hp
      · exact ⟨hacc, Ne.symm nL.1, hD₀⟩
      · rcases List.mem_cons.mp hp with rfl | hp
        · exact ⟨hcel₁, Ne.symm nL.2.2, hK₀⟩
        · exact ⟨old _ _ (N p hp).1, (N p hp).2⟩
  exact codeAny_compStart_list (loop _ rfl) (W.self 0 _ _ _ hst₁ (loop _ rfl))
def SrcC (prog : Program) (w : World) (A : Around) (h₀ : Heap) (L : Addr) (m : Str → Option Value) (env : Env) (elt : Expr) (x : Str) (scope : Scope) (cl : List (Str × Addr)) (V : Nat → Value → Prop) (Q : Value → Shared → Prop) (xv : Value) (s₁ : Shared) : Prop :=
  ∃ r a b t u v n news, xv = .ref r ∧ A.handled = none ∧ Fr h₀ L s₁.heap m ∧ News h₀ L s₁.heap news ∧ IsRange s₁.heap r a b 1 t u v ∧ Builtin.Range.small a b 1 = true ∧ Builtin.Range.rangeSize a b 1 = ((n : Nat) : Int) ∧ n ≤ sizeLine ∧
    (∀ s₂ : Shared, (∃ h, s₂ = { s₁ with heap := h }) → TurnC prog w A h₀ L m env elt x scope cl s₂ (fun i v => ∃ t, v = .int (a + (i : Int)) t) V n news) ∧
    ∀ D h tk ys, Fr h₀ L h m → News h₀ L h ((D, LCg.lst ys) :: news) → LCg.Off1 D news → ys.length = n → (∀ i y, ys[i]? = some y → V i y) → Q (.ref D) { s₁ with heap := h, toks := tk }
theorem ListComp_C {prog : Program} {w : World} {A : Around} {E : Value → Shared → Prop} {s : Shared} {h₀ : Heap} {L : Addr} {m : Str → Option Value} {env : Env} {elt iter : Expr} {x : Str} {px : Pos} {scope : Scope} {cl : List (Str × Addr)} {pos : Pos} {V : Nat → Value → Prop} {Q : Value → Shared → Prop} (F₀ : Fr h₀ L s.heap m)
    (hclos : closureFor scope env = pure cl) (hpush : ∀ h, pushCells h scope.names = h.push { cls := .type "cell", data := .cell none }) (hcells : ∀ k, cellsFrom k scope.names cl = (x, k) :: cl) (hkind : scope.kind = .function)
    (hnames : ∀ y ∈ scope.names, y.2 = .local → scope.names.lookup y.1 = some .local) (hx : (relabel scope env).names.lookup x = some .cell)
    (h : wpAny (model prog w) A (eval iter env) (SrcC prog w A h₀ L m env elt x scope cl V Q) E s)
    (hs : ∀ x, foldedSetIterable iter env x = pure x := by intro _; rfl) :
    wpAny (model prog w) A (eval (.ListComp elt [⟨.Name x px, iter, [], 0⟩] scope pos) env) Q E s := by
  rw [eval_ListComp]
  refine wpAny_comprehension_free (use := none) rfl hs hclos hkind hnames (wpAny_mono h (fun xv s₁ h₁ => ?_) fun _ _ e => e)
  obtain ⟨r, a, b, t, u, v, n, news, rfl, hh, F, N, hr, hsm, hn, hsz, R, fin⟩ := h₁
  refine wpAny_pyIter_range hr hsm ?_
  refine block_C (LCg.range_walks hh a n) hsz (fun i h st => ⟨_, st⟩) (fun i h h' o st e e' => by
      have q := st; unfold IsRangeIter at q ⊢; rw [e'] ; rw [e] at q; exact q) hpush hcells hkind hx (by show IsRangeIter _ _ _ _ _; rw [hn]; simpa using Heap.get?_push_size _ rfl) (fun b hb => ?_)
    (F.keeps fun _ _ e => Heap.get?_push_of_some _ e) (N.grown fun _ _ e => Heap.get?_push_of_some _ e) (Nat.ne_of_lt F.ns.lt) (next_is_new F) (fun p hp => Nat.ne_of_lt (Heap.lt_size (N p hp).1)) (R _ ⟨_, rfl⟩) ?_
  · rw [List.mem_singleton.mp hb]
    show s₁.heap.objs.size < (s₁.heap.push _).objs.size
    rw [Heap.size_push]; exact Nat.lt_succ_self _
  · intro D C h tk m' ys F' N' o1 hn' hC₀ hD₀ hCL hDL hCD offC hyl hV
    refine ⟨m', hn', fun h'' hs'' => fin D h'' tk ys (F'.change hs'' hCL hC₀) (fun p hp => ?_) o1 hyl hV⟩
    refine ⟨hs''.extBut _ _ ?_ (N' p hp).1, (N' p hp).2⟩
    rcases List.mem_cons.mp hp with rfl | hp
    · exact Ne.symm hCD
    · exact offC p hp
def octOf {ws : List Value} {ns : List Int} (_ : IntsAre ws ns) : Nat → Value → Prop := fun i y => ∃ t, y = .int (octV ns i) t
abbrev listOfI {ws : List Value} {ns : List Int} (_ : IntsAre ws ns) : List Int := ns
theorem len16 {ws : List Value} {ns : List Int} (_ : IntsAre ws ns) (e : ns.length = 16) : ns.length = 16 := e
theorem slice3_I {prog : Program} {w : World} {A : Around} {E : Value → Shared → Prop} {s : Shared} {h₀ : Heap} {L : Addr} {m : Str → Option Value} {news : List (Addr × Obj)} {value slice : Expr} {l : Addr} {vs : List Value} {ns : List Int} {vl vu vk : Value} {lo hi st : Option Int} {ops : List Value} {Q : Value → Shared → Prop}
    (F : Fr h₀ L s.heap m) (N : News h₀ L s.heap news) (hl : s.heap.IsList l vs.toArray) (pl : IsPart vl lo) (pu : IsPart vu hi) (pk : IsPart vk st) (h0 : st ≠ some 0) (hi' : IntsAre vs ns)
    (h : ∀ D ws h' ms, Fr h₀ L h' m → News h₀ L h' ((D, { cls := .type "list", data := .seq ws.toArray }) :: news) → (∀ p ∈ news, p.1 < D) → IntsAre ws ms → Q (.ref D) { s with heap := h' })
    (hs : subscripted slice false (.ref l) (.ref s.heap.objs.size) = operate ops (getItem (.ref l) (.ref s.heap.objs.size)))
    (ht : ∀ r, letTemporaryGo value (.ref l) r = pure ())
    (hsz : vs.toArray.size ≤ sizeLine) :
    wpAny (model prog w) A (subscriptTail value slice (.ref l) (.ref s.heap.objs.size)) Q E { s with heap := s.heap.push { cls := .type "slice", data := .fields #[vl, vu, vk] } } := by
  refine slice_list3 F N hl pl pu pk h0 (fun h' F' N' => h _ (slicePick vs.toArray lo hi st).toList h' _ F' ?_ (fun p hp => Nat.lt_succ_of_lt (Heap.lt_size (N p hp).1)) (IntsAre.pick hi' lo hi st)) hs ht hsz
  rw [Array.toArray_toList]
  exact N'
theorem fm9_lo (a : Int) : 0 ≤ Int.fmod a 9 := by rw [Int.fmod_eq_emod_of_nonneg _ (by (first | lia | omega))]; (first | lia | omega)
theorem fm9_hi (a : Int) : Int.fmod a 9 ≤ 8 := by rw [Int.fmod_eq_emod_of_nonneg _ (by (first | lia | omega))]; (first | lia | omega)
theorem bits01 {r : Int} (h : 0 ≤ r ∧ r ≤ 1) : Builtin.Int.intBits r ≤ 1 := by
  have : r = 0 ∨ r = 1 := by (first | lia | omega)
  rcases this with rfl | rfl <;> decide
theorem oct_sum (ns : List Int) (i : Nat) : (List.map (fun j : Int => ns.getD (1 + (i : Int) + j).toNat 0 * 2 ^ (7 - j).toNat) (rangeKs 0 8)).sum = octV ns i := by
  have e : rangeKs 0 8 = [0, 1, 2, 3, 4, 5, 6, 7] := by decide
  rw [e]
  unfold octV
  simp only [List.map_cons, List.map_nil, List.sum_cons, List.sum_nil]
  rw [show (1 + (i : Int) + 0).toNat = i + 1 by (first | lia | omega), show (1 + (i : Int) + 1).toNat = i + 2 by (first | lia | omega), show (1 + (i : Int) + 2).toNat = i + 3 by (first | lia | omega), show (1 + (i : Int) + 3).toNat = i + 4 by (first | lia | omega), show (1 + (i : Int) + 4).toNat = i + 5 by (first | lia | omega), show (1 + (i : Int) + 5).toNat = i + 6 by (first | lia | omega), show (1 + (i : Int) + 6).toNat = i + 7 by (first | lia | omega), show (1 + (i : Int) + 7).toNat = i + 8 by (first | lia | omega)]
  rw [show ((7 : Int) - 0).toNat = 7 from rfl, show ((7 : Int) - 1).toNat = 6 from rfl, show ((7 : Int) - 2).toNat = 5 from rfl, show ((7 : Int) - 3).toNat = 4 from rfl, show ((7 : Int) - 4).toNat = 3 from rfl, show ((7 : Int) - 5).toNat = 2 from rfl, show ((7 : Int) - 6).toNat = 1 from rfl, show ((7 : Int) - 7).toNat = 0 from rfl]
  (first | lia | omega)
theorem ints_of {n : Nat} : ∀ {ys : List Value} {f : Nat → Int}, ys.length = n → (∀ i y, ys[i]? = some y → ∃ t, y = Value.int (f i) t) → IntsAre ys ((List.range n).map f) := by
  induction n with
  | zero =>
    intro ys f hl _
    rw [List.eq_nil_of_length_eq_zero hl]
    exact .nil
  | succ n ih =>
    intro ys f hl hV
    match ys, hl with
    | y :: r, hl =>
      obtain ⟨t, rfl⟩ := hV 0 y rfl
      rw [List.range_succ_eq_map, List.map_cons, List.map_map]
      exact .cons _ _ (ih (f := fun i => f (i + 1)) (by simpa using hl) (fun i y h => hV (i + 1) y (by simpa using h)))
theorem ints_oct {ws ys : List Value} {ns : List Int} (hI : IntsAre ws ns) (h01 : ∀ i : Nat, 0 ≤ ns.getD i 0 ∧ ns.getD i 0 ≤ 1) (hl : ys.length = 8) (hV : ∀ i y, ys[i]? = some y → octOf hI i y) : IntsAre ys (octL ns 15) := by
  rw [oct_val h01]
  exact ints_of hl hV
theorem chr_letter {prog : Program} {w : World} {A : Around} {a : Int} {t : Tok} {s : Shared} {Q E : Value → Shared → Prop}
    (h : ∀ (x : Str) (c : Nat), x.cps.toList = [c] → c ≠ 34 → x.length = 1 → Q (.str x s.toks) { s with toks := s.toks + 1 }) :
    wpAny (model prog w) A (call (.builtin "chr") [.int (35 + Int.fmod a 1000) t]) Q E s := by
  have e := Int.fmod_eq_emod_of_nonneg a (b := 1000) (by (first | lia | omega))
  exact chr_of_range (by (first | lia | omega)) (by (first | lia | omega)) (h _ _ rfl (by (first | lia | omega)) rfl)
theorem tail_item {prog : Program} {w : World} {A : Around} {s : Shared} {value slice : PySem.Expr} {l : Addr} {a b c : Str} {t1 t2 t3 : Tok} {i : Int} {u : Tok} {P : Str → Prop} {Q E : Value → Shared → Prop}
    (hl : s.heap.IsList l [Value.str a t1, Value.str b t2, Value.str c t3].toArray) (h0 : 0 ≤ i) (h3 : i < 3) (hP : P a ∧ P b ∧ P c)
    (h : ∀ x t, P x → Q (.str x t) s)
    (hs : subscripted slice false (.ref l) (.int i u) = operate [.ref l, .int i u] (getItem (.ref l) (.int i u))) :
    wpAny (model prog w) A (subscriptTail value slice (.ref l) (.int i u)) Q E s := by
  have : i = 0 ∨ i = 1 ∨ i = 2 := by (first | lia | omega)
  rcases this with rfl | rfl | rfl
  · exact item_litK hl (by decide) (by decide) rfl (h _ _ hP.1) hs
  · exact item_litK hl (by decide) (by decide) rfl (h _ _ hP.2.1) hs
  · exact item_litK hl (by decide) (by decide) rfl (h _ _ hP.2.2) hs
abbrev TailP (x : Str) : Prop := TailOk x.cps.toList ∧ x.length ≤ 20
theorem tail_p : TailP (Str.ofString "\" is \"here\"") ∧ TailP (Str.ofString "") ∧ TailP (Str.ofString "\"") :=
  ⟨⟨tail_ok.1, by decide +kernel⟩, ⟨tail_ok.2.1, by decide +kernel⟩, ⟨tail_ok.2.2, by decide +kernel⟩⟩
theorem refusedL {prog : Program} {w : World} {dp un : Nat} {gd : Option (List Code)} {envL : Env} {s : Shared} {h₀ : Heap} {L : Addr} {m : Str → Option Value} {news : List (Addr × Obj)}
    {p : Program} {loose : List Str} {mean : ExcName → Option Value} {mg mb : Str → Option Value} {reply : Str} {t1 : Tok} {Q E : Value → Shared → Prop}
    (F : Fr h₀ L s.heap m) (N : News h₀ L s.heap news) (X : (hd.heap_39 w.params).In h₀) (T : Top p loose mean mg mb h₀)
    (hfL : envL.frame = some L) (hkL : envL.scope.kind = .function) (hdp : dp + 48 < recursionLimit) (hun : un + 512 < cLine) (hlen : reply.length ≤ 100)
    (ret : ∀ h' tk', Fr h₀ L h' m → News h₀ L h' news → Q (.bool true) {s with heap := h', toks := tk'}) :
    wpAny (model prog w) (Ar dp un gd [envL]) (call (.ref 135) [.str reply t1]) Q E s := by
  obtain ⟨o, es, ep, ho, hd, hr⟩ := F.ns
  have hL0 : h₀.get? L = none := Heap.get?_none_of_le F.above
  refine refusedC (gb := h₀) (Lo := L) (oL := o) X T F.keep hL0 hfL hkL ho ⟨es, ep, hd⟩ hdp hun hlen fun h' tk' sl e k => ret h' tk' ⟨⟨_, es, ep, e, hd, hr⟩, fun b o' q => k b o' (F.keep _ _ q) (fun x => ?_), F.above⟩ fun p hp => ⟨k _ _ (N p hp).1 (N p hp).2.1, (N p hp).2⟩
  rw [x, hL0] at q; cases q
def DueEnd (h₀ : Heap) (L : Addr) (m : Str → Option Value) (news : List (Addr × Obj)) (x : Str) (spec : Str → Prop) (s : Shared) (fl : Flow) (s' : Shared) : Prop :=
  fl = .next ∧ ∃ h' tk' d t, s' = {s with heap := h', toks := tk'} ∧ Fr h₀ L h' (fun y => if y = x then some (.str d t) else m y) ∧ News h₀ L h' news ∧ spec d
theorem cutDue {M : Model} {A : Around} {st : Stmt} {env : Env} {Q : Flow → Shared → Prop} {E : Value → Shared → Prop} {s : Shared} {h₀ : Heap} {L : Addr} {m : Str → Option Value} {news : List (Addr × Obj)} {x : Str} (spec : Str → Prop)
    (F : Fr h₀ L s.heap m) (N : News h₀ L s.heap news)
    (h : wpAny M A (exec st env) (fun fl s' => DueEnd h₀ L m news x spec s fl s') E s)
    (k : ∀ h' tk' d t, Fr h₀ L h' (fun y => if y = x then some (.str d t) else m y) → News h₀ L h' news → spec d → Q .next {s with heap := h', toks := tk'}) : wpAny M A (exec st env) Q E s :=
  wpAny_mono h (fun fl s' hq => by obtain ⟨rfl, h', tk', d, t, rfl, F', N', sp⟩ := hq; exact k h' tk' d t F' N' sp) fun _ _ e => e
theorem tx_pre3 (x y : Str) : (Str.ofString "257" ++ ((Str.ofString " \"" ++ x) ++ y)).cps.toList = 50 :: 53 :: 55 :: 32 :: 34 :: (x.cps.toList ++ y.cps.toList) := by
  rw [str_app, str_app, str_app, show (Str.ofString "257").cps.toList = [50, 53, 55] from by decide +kernel, show (Str.ofString " \"").cps.toList = [32, 34] from by decide +kernel]
  rfl
theorem parseEq {prog : Program} {w : World} {dp un : Nat} {gd : Option (List Code)} {outer : List Env} {s : Shared} {resp d : Str} {body : List Nat} {t2 : Tok} {Q E : Value → Shared → Prop}
    (hr : resp.cps.toList = 50 :: 53 :: 55 :: 32 :: 34 :: body) (he : dirL body = d.cps.toList)
    (G : Gd w (Ar dp un gd outer) outer s.heap) (hdp : dp + 8 < recursionLimit) (hun : un + 64 < cLine) (hlen : resp.length ≤ 200)
    (ok : ∀ t, ∀ h' tk', Kp s.heap h' → Q (.str d t) {s with heap := h', toks := tk'}) :
    wpAny (model prog w) (Ar dp un gd outer) (call (.ref 85) [.str resp t2]) Q E s :=
  parseOk G hdp hun hlen hr fun d' t hd _ h' tk' kp => by rw [str_ext (hd.trans he)]; exact ok t h' tk' kp
theorem enterL {prog : Program} {w : World} {A : Around} {s : Shared} {base : Heap} {outer : List Env} {K : Frag} {mg mb : Str → Option Value} {p : Program} {loose : List Str} {mean : ExcName → Option Value}
    {R : Result → Shared → Prop} {name qual : Str} {params : Arguments} {body : PySem.Expr} {scope : Scope} {cl : List (Str × Addr)} {pm ctv : Value} {c' f : Addr} {args : Args} {binds : List (Str × Value)}
    (B : Below A base outer s.heap) (X : K.In s.heap) (T : Top p loose mean mg mb s.heap)
    (ho : s.heap.get? f = some (kla_obj name qual params body scope cl pm c' ctv)) (hcd : s.heap.CodeRec (.ref c') qual) (hroom : A.depth < recursionLimit)
    (hbind : bindArgs (kla_fn name qual params body scope cl pm (.ref c') ctv) args = pure binds) (hloc : ∀ y ∈ binds, scope.names.lookup y.1 = some .local)
    (h : ∀ L' h₁, L' = s.heap.objs.size → Fr s.heap L' h₁ (fun y => binds.reverse.lookup y) → News s.heap L' h₁ [] → Below A base outer s.heap → K.In s.heap → Top p loose mean mg mb s.heap →
      wpAny (model prog w) (A.deeper (envX qual scope L' f (.ref c') cl)) (eval body (envX qual scope L' f (.ref c') cl))
        (fun v s' => R (.ok (.ret v)) s')
        (fun e s' => wpAny (model prog w) (A.deeper (envX qual scope L' f (.ref c') cl)) (leaving (envX qual scope L' f (.ref c') cl) e) (fun _ s'' => R (.error e) s'') (fun e' s'' => R (.error e') s'') s')
        { s with heap := h₁, toks := s.toks + binds.length })
    (hco : scope.isCoroutine = false) (hgen : scope.isGenerator = false) (hk : scope.kind = .function)
    (hcell : ∀ x ∈ scope.names, x.2 ≠ .cell) : codeAny (model prog w) A (.call (.ref f) args) R s := by
  refine kla_callFunE hroom ho rfl hco hgen rfl hcd ?_
  rw [hbind]
  refine wpAny_pure (wpAny_newFunctionEnv hcell hloc (fun h₁ hns hsb => ⟨T.nolimit.fresh _ hsb, ?_⟩) hk)
  show codeAny _ _ (.expr body (envX qual scope s.heap.objs.size f (.ref c') cl)) _ _
  have hk₁ : ∀ b o, s.heap.get? b = some o → h₁.get? b = some o := fun b o e => hsb.extBut b o (Nat.ne_of_lt (Heap.lt_size e)) (Heap.get?_push_of_some _ e)
  exact kla_codeExpr (h s.heap.objs.size h₁ rfl ⟨hns, hk₁, Nat.le_refl _⟩ News.nil B X T)
theorem nameX_B {M : Model} {A : Around} {E : Value → Shared → Prop} {s : Shared} {h₀ : Heap} {L a : Addr} {m : Str → Option Value} {cn : Str} {cs : Scope} {ccd : Value} {cl : List (Str × Addr)} {x : Str} {pos : Pos} {v : Value} {Q : Value → Shared → Prop} {c : Addr}
    (F : Fr h₀ L s.heap m) (hc : cl.lookup x = some c) (hv : h₀.IsCell c (some v)) (h : Q v s)
    (hk : cs.kind = .function) (hx : (envX cn cs L a ccd cl).kindOf x = some .free) (hb : (x == ("__debug__" : Str)) = false) (hn : (x == ("__classdict__" : Str)) = false) :
    wpAny M A (eval (.Name x pos) (envX cn cs L a ccd cl)) Q E s :=
  wpAny_Name (wpAny_loadName_free hk hx hc (let ⟨o, ho, hd⟩ := hv; ⟨o, F.keep _ _ ho, hd⟩) h hn) hb
theorem cell_kp {h h' : Heap} {c : Addr} {v : Option Value} (k : Kp h h') (x : h.IsCell c v) : h'.IsCell c v := let ⟨o, ho, hd⟩ := x; ⟨o, k _ _ ho, hd⟩
theorem code_kp {h h' : Heap} {c : Value} {q : Str} (k : Kp h h') (x : h.CodeRec c q) : h'.CodeRec c q := x.keeps k
abbrev DueP {ws : List Value} {free turned first : Int} (_ : IntsAre ws (rowL free turned first 8)) {letter : Str} {c : Nat} (_ : letter.cps.toList = [c]) (d : Str) : Prop :=
  d.cps.toList = (rootT (rowL free turned first 8) letter first.toNat).cps.toList ++ (if (0 < first ∧ first < 8) ∧ (rowL free turned first 8).getD (2 * first).toNat 0 = 1 then [c] else []) ∧ d.length ≤ 17
theorem due_then {ws : List Value} {free turned first : Int} (hI : IntsAre ws (rowL free turned first 8)) {letter : Str} {c : Nat} (hc : letter.cps.toList = [c]) (h1 : 0 < first) (h2 : first < 8) (h3 : (rowL free turned first 8).getD (2 * first).toNat 0 = 1)
    (hl : (rootT (rowL free turned first 8) letter first.toNat).length ≤ 2 * first.toNat) (hln : letter.length = 1) : DueP hI hc (rootT (rowL free turned first 8) letter first.toNat ++ letter) := by
  refine ⟨?_, ?_⟩
  · rw [str_app, hc, if_pos ⟨⟨h1, h2⟩, h3⟩]
  · rw [PySem.Str.length_append]; (first | lia | omega)
theorem due_else {ws : List Value} {free turned first : Int} (hI : IntsAre ws (rowL free turned first 8)) {letter : Str} {c : Nat} (hc : letter.cps.toList = [c]) (h : ¬ ((0 < first ∧ first < 8) ∧ (rowL free turned first 8).getD (2 * first).toNat 0 = 1)) (h8 : first ≤ 8)
    (hl : (rootT (rowL free turned first 8) letter first.toNat).length ≤ 2 * first.toNat) : DueP hI hc (rootT (rowL free turned first 8) letter first.toNat) := by
  refine ⟨?_, ?_⟩
  · rw [if_neg h, List.append_nil]
  · (first | lia | omega)

end

section
theorem topOffKY : True := by
  w_top off
  k_with_none
  exact trivial

theorem kw14 : True := by
  k_with "pyIter ref" => ((with_reducible show wpAny _ _ (pyIter (Value.ref _)) (fun it s₂ => LoopAtV _ _ _ _ _ _ _ _ _ it s₂) _ _); refine Mine.hold ?_)
  k_with "newList" => (k_here; k_dflt (refine' newList_L (by (k_asm)) (by (k_asm)) ?_; k_whole); intro l' h' F' N' l1 l2; (try k_lt l1); (try k_lt2 l2); (try k_sweep))
  k_with "tb_start" => (refine' enter0 (by (assumption)) (by (assumption)) (by (assumption)) (by (k_is)) (by (k_is)) (by (ktr_room)) (by (first | exact BindsTo.of_eq rfl | (refine' kp_binds (by (assumption)) (by (exact fun _ => rfl))))) (by (exact locs rfl)) ?_ (by (exact rfl)) (by (exact rfl)) (by (exact rfl)) (by (decide)); k_whole; intro L' h' hL' F' N' B' X' T'; (try dsimp only); (try k_fold))
  k_with "InvEndN" => refine Mine.hold ?_
  k_with "tb_rel" => (rename News _ _ _ _ => nE'; (try simp only [List.push_toArray] at nE'); (first | refine' kst_end ⟨_, _, _, _, _, _, _, _, _⟩ (by k_asm) nE' (by first | kst_in | kst_inAny) (by first | (intro p hp; kst_mem) | kst_anyIn) (by rfl) (by kst_facts) (by kst_all) (by kst_same) ?_ | refine' kst_end ⟨_, _, _, _, _, _, _, _⟩ (by k_asm) nE' (by first | kst_in | kst_inAny) (by first | (intro p hp; kst_mem) | kst_anyIn) (by rfl) (by kst_facts) (by kst_all) (by kst_same) ?_ | refine' kst_end ⟨_, _, _, _, _, _, _⟩ (by k_asm) nE' (by first | kst_in | kst_inAny) (by first | (intro p hp; kst_mem) | kst_anyIn) (by rfl) (by kst_facts) (by kst_all) (by kst_same) ?_ | refine' kst_end ⟨_, _, _, _, _, _⟩ (by k_asm) nE' (by first | kst_in | kst_inAny) (by first | (intro p hp; kst_mem) | kst_anyIn) (by rfl) (by kst_facts) (by kst_all) (by kst_same) ?_ | refine' kst_end ⟨_, _, _, _, _⟩ (by k_asm) nE' (by first | kst_in | kst_inAny) (by first | (intro p hp; kst_mem) | kst_anyIn) (by rfl) (by kst_facts) (by kst_all) (by kst_same) ?_ | refine' kst_end ⟨_, _, _, _⟩ (by k_asm) nE' (by first | kst_in | kst_inAny) (by first | (intro p hp; kst_mem) | kst_anyIn) (by rfl) (by kst_facts) (by kst_all) (by kst_same) ?_ | refine' kst_end ⟨_, _, _⟩ (by k_asm) nE' (by first | kst_in | kst_inAny) (by first | (intro p hp; kst_mem) | kst_anyIn) (by rfl) (by kst_facts) (by kst_all) (by kst_same) ?_ | refine' kst_end ⟨_, _⟩ (by k_asm) nE' (by first | kst_in | kst_inAny) (by first | (intro p hp; kst_mem) | kst_anyIn) (by rfl) (by kst_facts) (by kst_all) (by kst_same) ?_); (try dsimp only))
  k_with "exec For Name Call cons nil" => (k_here; (rename Fr _ _ _ _ => lF'); (with_unfolding_all refine' For_invVF lF' (by (exact rfl)) (by (exact rfl)) ?_; k_whole))
  k_with "kst_facts1" => with_reducible exact IntsAre.cons _ _ IntsAre.nil
  k_with "exec While Compare cons nil" => (k_here; refine Mine.hold ?_)
  k_with "KswEnd" => refine Mine.hold ?_
  k_with "kwd_less" => (rename News _ _ _ _ => nE'; (try simp only [List.push_toArray] at nE'); (first | refine' ksw_end ⟨_, _, _, _, _, _, _⟩ (by k_asm) nE' (by kst_in) (by kst_facts) (by kst_all) (by ksw_same) ?_ ?_ | refine' ksw_end ⟨_, _, _, _, _, _⟩ (by k_asm) nE' (by kst_in) (by kst_facts) (by kst_all) (by ksw_same) ?_ ?_ | refine' ksw_end ⟨_, _, _, _, _⟩ (by k_asm) nE' (by kst_in) (by kst_facts) (by kst_all) (by ksw_same) ?_ ?_ | refine' ksw_end ⟨_, _, _, _⟩ (by k_asm) nE' (by kst_in) (by kst_facts) (by kst_all) (by ksw_same) ?_ ?_ | refine' ksw_end ⟨_, _, _⟩ (by k_asm) nE' (by kst_in) (by kst_facts) (by kst_all) (by ksw_same) ?_ ?_ | refine' ksw_end ⟨_, _⟩ (by k_asm) nE' (by kst_in) (by kst_facts) (by kst_all) (by ksw_same) ?_ ?_); (all_goals (try dsimp only)))
  k_with "tbn_conj" => (refine' enter0C (by (assumption)) (by (assumption)) (by (assumption)) (by (k_is)) (by (k_is)) (by (ktr_room)) (by (exact BindsTo.of_eq rfl)) (by (exact rfl)) (by (decide +kernel)) ?_ (by (exact rfl)) (by (exact rfl)) (by (exact rfl)); k_whole; intro L' h' tk' cells' hL' F' N' Y' B' X' T'; k_cells Y'; (try simp only [List.cons_append, List.nil_append] at N'); (try dsimp only); (try k_fold))
  k_with "exec While BoolOp cons nil" => (k_here; refine Mine.hold ?_)
  k_with "compareOp NotEq ref ref" => (k_here; (with_reducible show wpAny _ _ (compareOp CmpOp.NotEq (Value.ref _) (Value.ref _)) _ _ _); (with_unfolding_all refine' ne_intsK (by (is_list)) (by (first | exact IntsAre.nil | l_intsC)) (by (is_list)) (by (first | exact IntsAre.nil | l_intsC)) (by (ktr_units)) ?_; k_whole))
  k_with "k_ne" => (refine neN ?_; (try dsimp only); (first | lia | omega))
  k_with "kwd_rel" => (intro h' tk' kp'; (try dsimp only at kp'); have F' := back_fr (by assumption) kp'; have N' := back_news (by assumption) kp'; clear kp'; (try k_sweep); (try dsimp only))
  k_with "kwd_inv" => exact gd_of (by assumption) (by k_asm) (by assumption) (by assumption) rfl rfl
  k_with "call ref" => (k_here; (with_reducible show wpAny _ _ (call (Value.ref 21) [Value.int _ _]) _ _ _); k_dflt (first | (refine' istermT (by omega) (by (kwd_inv)) (by (ktr_room)) ?_) | (refine' istermF (by omega) (by (kwd_inv)) (by (ktr_room)) ?_) | (refine' istermC (by (kwd_inv)) (by (ktr_room)) ?_); k_whole); kwd_rel)
  k_with "call ref" => (k_here; (with_reducible show wpAny _ _ (call (Value.ref 28) [Value.int _ _]) _ _ _); k_dflt (first | (refine' isnontermT (by omega) (by (kwd_inv)) (by (ktr_room)) ?_) | (refine' isnontermF (by omega) (by (kwd_inv)) (by (ktr_room)) ?_) | (refine' isnontermC (by (kwd_inv)) (by (ktr_room)) ?_); k_whole); kwd_rel)
  k_with "call ref" => (k_here; (with_reducible show wpAny _ _ (call (Value.ref 35) [Value.int _ _]) _ _ _); k_dflt (first | (refine' iseofT (by omega) (by (kwd_inv)) (by (ktr_room)) ?_) | (refine' iseofF (by omega) (by (kwd_inv)) (by (ktr_room)) ?_) | (refine' iseofC (by (kwd_inv)) (by (ktr_room)) ?_); k_whole); kwd_rel)
  k_with "tb_start" => (refine' enterL (by (assumption)) (by (assumption)) (by (assumption)) (by (assumption)) (by (assumption)) (by (ktr_room)) (by (exact rfl)) (by (exact locs rfl)) ?_ (by (exact rfl)) (by (exact rfl)) (by (exact rfl)) (by (decide)); k_whole; intro L' h' hL' F' N' B' X' T'; (try dsimp only); (try k_fold))
  k_with "eval Name" => (k_here; (with_reducible show wpAny _ _ (eval (Expr.Name _ _) (envX _ _ _ _ _ _)) _ _ _); k_dflt (refine' nameX_B (by (k_asm)) (by (exact rfl)) (by (assumption)) ?_ (by (exact rfl)) (by (exact rfl)) (by (decide)) (by (decide)); k_whole))
  k_with "call ref" => (k_here; (with_reducible show wpAny _ _ (call (Value.ref 104) [Value.ref _, Value.int _ _]) _ _ _); k_dflt (refine' overC (by (kwd_inv)) (by (ktr_room)) (by (ktr_units)) (by (is_list)) (by (assumption)) (by (assumption)) (by (omega)) (by (omega)) (by (assumption)) ?_; k_whole); intro t'; kwd_rel)
  k_with "call ref" => (k_here; (with_reducible show wpAny _ _ (call (Value.ref 130) [Value.ref _, Value.ref _, Value.str _ _, Value.str _ _]) _ _ _); k_dflt (refine' untoldC (by (kwd_inv)) (by (ktr_room)) (by (ktr_units)) (by (is_list)) (by (assumption)) (by (assumption)) (by (is_list)) (by (assumption)) (by (rw [List.length_take]; omega)) (by (assumption)) (by (assumption)) ?_; k_whole); intro t'; kwd_rel)
  exact trivial
theorem keyOver {prog : Program} {w : World} {h : Heap} {f c' cO lO : Addr} {us : List Value} {ns : List Int} {p1 p2 p3 p4 p5 : Pos} {name qual : Str} {pm ctv : Value}
    (hf : h.get? f = some (kla_obj name qual { posonlyargs := [], args := [{ arg := Str.ofString "k", annotation := none, pos := p1 }], vararg := none, kwonlyargs := [], kw_defaults := [], kwarg := none, defaults := [] }
      (.Call (.Name (Str.ofString "_law_over") p2) [.Name (Str.ofString "octets") p3, .Name (Str.ofString "k") p4] [] p5)
      { kind := .function, names := [(Str.ofString "k", .local), (Str.ofString "octets", .free), (Str.ofString "_law_over", .globalImplicit)], isGenerator := false, isCoroutine := false, more := [] } [(Str.ofString "octets", cO)] pm c' ctv))
    (hcd : h.CodeRec (.ref c') qual) (hcell : h.IsCell cO (some (.ref lO))) (hl : h.IsList lO us.toArray) (hi : IntsAre us ns) (hn : ns.length = 8) (hb : ∀ x ∈ ns, 0 ≤ x ∧ x < 256) :
    KeyOk prog w (.ref f) h (fun v => (overL (ns.take v.toNat) : Int)) := by
  intro dp un gd outer s v t Q E kp G hdp hun h1 h8 ret
  obtain ⟨base, p, loose, mean, mg, mb, B, X, T⟩ := G
  have hf' := kp _ _ hf
  have hcd' := code_kp kp hcd
  have hcell' := cell_kp kp hcell
  have hl' := Kp.isList kp hl
  clear hf hcd hcell hl
  refine wpAny_call ?_
  tb_start
  k_steps
  exact ret _ _ _ (Fr.keep (by k_asm))
theorem keyUntold {prog : Program} {w : World} {h : Heap} {f c' cL cM cR cT lM lR : Addr} {us vs : List Value} {ns fs : List Int} {letter tail : Str} {t1 t2 : Tok} {p1 p2 p3 p4 p5 p6 p7 p8 p9 q1 q2 q3 : Pos} {name qual : Str} {pm ctv : Value}
    (hf : h.get? f = some (kla_obj name qual { posonlyargs := [], args := [{ arg := Str.ofString "k", annotation := none, pos := p1 }], vararg := none, kwonlyargs := [], kw_defaults := [], kwarg := none, defaults := [] }
      (.Call (.Name (Str.ofString "_law_untold") p2) [.Name (Str.ofString "row") p3, .Subscript (.Name (Str.ofString "made") p4) (.Slice none (some (.BinOp (.Constant (.int 2) 0 p5) .Mult (.Name (Str.ofString "k") p6) p7)) none p8) p9, .Name (Str.ofString "letter") q1, .Name (Str.ofString "tail") q2] [] q3)
      { kind := .function, names := [(Str.ofString "k", .local), (Str.ofString "letter", .free), (Str.ofString "made", .free), (Str.ofString "row", .free), (Str.ofString "tail", .free), (Str.ofString "_law_untold", .globalImplicit)], isGenerator := false, isCoroutine := false, more := [] }
      [(Str.ofString "tail", cT), (Str.ofString "row", cR), (Str.ofString "made", cM), (Str.ofString "letter", cL)] pm c' ctv))
    (hcd : h.CodeRec (.ref c') qual) (hcL : h.IsCell cL (some (.str letter t1))) (hcM : h.IsCell cM (some (.ref lM))) (hcR : h.IsCell cR (some (.ref lR))) (hcT : h.IsCell cT (some (.str tail t2)))
    (hl : h.IsList lR vs.toArray) (hi : IntsAre vs ns) (hn : ns.length = 16) (hl2 : h.IsList lM us.toArray) (hi2 : IntsAre us fs) (hn2 : fs.length = 16) (hlet : letter.length = 1) (htail : tail.length ≤ 20) :
    KeyOk prog w (.ref f) h (fun v => untoldF ns (fs.take (2 * v).toNat) letter tail) := by
  intro dp un gd outer s v t Q E kp G hdp hun h1 h8 ret
  obtain ⟨base, p, loose, mean, mg, mb, B, X, T⟩ := G
  have hf' := kp _ _ hf
  have hcd' := code_kp kp hcd
  have hcL' := cell_kp kp hcL
  have hcM' := cell_kp kp hcM
  have hcR' := cell_kp kp hcR
  have hcT' := cell_kp kp hcT
  have hl' := Kp.isList kp hl
  have hl2' := Kp.isList kp hl2
  clear hf hcd hcL hcM hcR hcT hl hl2
  refine wpAny_call ?_
  tb_start
  k_steps
  exact ret _ _ _ (Fr.keep (by k_asm))
def JF (first : Int) : Int → Int := fun v => ((v.toNat - first.toNat : Nat) : Int)
theorem jf_l {first v : Int} (h0 : 0 ≤ first) (h1 : 1 ≤ v) : JF first v < 1 ↔ v ≤ first := by unfold JF; (first | lia | omega)
theorem jf_r1 {first v : Int} (h0 : 0 ≤ first) (h1 : 1 ≤ v) : ¬ 1 < JF first v ↔ v ≤ first + 1 := by unfold JF; (first | lia | omega)
theorem jf_r0 {first v : Int} (h0 : 0 ≤ first) (h1 : 1 ≤ v) : ¬ 0 < JF first v ↔ v ≤ first := by unfold JF; (first | lia | omega)
theorem key_conv {prog : Program} {w : World} {j : Value} {h : Heap} {J J' : Int → Int} (k : KeyOk prog w j h J) (e : ∀ v, 1 ≤ v → v ≤ 8 → J v = J' v) : KeyOk prog w j h J' := by
  intro dp un gd outer s v t Q E kp G hdp hun h1 h8 ret
  refine k dp un gd outer s v t Q E kp G hdp hun h1 h8 fun t h' tk' kp' => ?_
  rw [e v h1 h8]
  exact ret t h' tk' kp'
theorem oct_bnd {ns : List Int} (h01 : ∀ i : Nat, 0 ≤ ns.getD i 0 ∧ ns.getD i 0 ≤ 1) : ∀ x ∈ octL ns 15, 0 ≤ x ∧ x < 256 := by
  intro x hx
  obtain ⟨i, hi⟩ := List.mem_iff_getElem?.mp hx
  have hlt : i < 15 - 7 := by
    rw [← oct_len ns 15]
    exact (List.getElem?_eq_some_iff.mp hi).1
  have e := oct_get ns 15 i hlt
  rw [List.getD_eq_getElem?_getD, hi, Option.getD_some] at e
  rw [e]
  exact ⟨(reg_bits h01 _).1, (reg_bits h01 _).2.1⟩
theorem cell_news {h₀ h : Heap} {L c : Addr} {o : Obj} {v : Option Value} {news : List (Addr × Obj)} (N : News h₀ L h news) (hm : (c, o) ∈ news) (hd : o.data = .cell v) : h.IsCell c v := ⟨o, (N _ hm).1, hd⟩
theorem keyON {prog : Program} {w : World} {h₀ h : Heap} {L : Addr} {news : List (Addr × Obj)} {f c' cO lO : Addr} {oO : Obj} {us : List Value} {free turned first : Int} {p1 p2 p3 p4 p5 : Pos} {name qual : Str} {pm ctv : Value}
    (N : News h₀ L h news) (hm : (f, kla_obj name qual { posonlyargs := [], args := [{ arg := Str.ofString "k", annotation := none, pos := p1 }], vararg := none, kwonlyargs := [], kw_defaults := [], kwarg := none, defaults := [] }
      (.Call (.Name (Str.ofString "_law_over") p2) [.Name (Str.ofString "octets") p3, .Name (Str.ofString "k") p4] [] p5)
      { kind := .function, names := [(Str.ofString "k", .local), (Str.ofString "octets", .free), (Str.ofString "_law_over", .globalImplicit)], isGenerator := false, isCoroutine := false, more := [] } [(Str.ofString "octets", cO)] pm c' ctv) ∈ news)
    (hcd : h.CodeRec (.ref c') qual) (hmO : (cO, oO) ∈ news) (hdO : oO.data = .cell (some (.ref lO))) (hl : h.IsList lO us.toArray) (hi : IntsAre us (octL (rowL free turned first 8) 15)) (h0 : 0 ≤ first) (h8 : first ≤ 8) :
    KeyOk prog w (.ref f) h (JF first) :=
  key_conv (keyOver (N _ hm).1 hcd (cell_news N hmO hdO) hl hi (oct_len _ 15) (oct_bnd (row01 _ _ _))) fun v h1 h8' => by
    show ((overL ((octL (rowL free turned first 8) 15).take v.toNat) : Nat) : Int) = JF first v
    rw [judge1 h0 h8 (by (first | lia | omega) : v.toNat ≤ 8)]
    rfl
theorem keyUN {prog : Program} {w : World} {h₀ h : Heap} {L : Addr} {news : List (Addr × Obj)} {f c' cL cM cR cT lM lR : Addr} {oL oM oR oT : Obj} {us vs : List Value} {free turned first : Int} {letter tail : Str} {c : Nat} {t1 t2 : Tok} {p1 p2 p3 p4 p5 p6 p7 p8 p9 q1 q2 q3 : Pos} {name qual : Str} {pm ctv : Value}
    (N : News h₀ L h news) (hm : (f, kla_obj name qual { posonlyargs := [], args := [{ arg := Str.ofString "k", annotation := none, pos := p1 }], vararg := none, kwonlyargs := [], kw_defaults := [], kwarg := none, defaults := [] }
      (.Call (.Name (Str.ofString "_law_untold") p2) [.Name (Str.ofString "row") p3, .Subscript (.Name (Str.ofString "made") p4) (.Slice none (some (.BinOp (.Constant (.int 2) 0 p5) .Mult (.Name (Str.ofString "k") p6) p7)) none p8) p9, .Name (Str.ofString "letter") q1, .Name (Str.ofString "tail") q2] [] q3)
      { kind := .function, names := [(Str.ofString "k", .local), (Str.ofString "letter", .free), (Str.ofString "made", .free), (Str.ofString "row", .free), (Str.ofString "tail", .free), (Str.ofString "_law_untold", .globalImplicit)], isGenerator := false, isCoroutine := false, more := [] }
      [(Str.ofString "tail", cT), (Str.ofString "row", cR), (Str.ofString "made", cM), (Str.ofString "letter", cL)] pm c' ctv) ∈ news)
    (hcd : h.CodeRec (.ref c') qual) (hmL : (cL, oL) ∈ news) (hdL : oL.data = .cell (some (.str letter t1))) (hmM : (cM, oM) ∈ news) (hdM : oM.data = .cell (some (.ref lM))) (hmR : (cR, oR) ∈ news) (hdR : oR.data = .cell (some (.ref lR))) (hmT : (cT, oT) ∈ news) (hdT : oT.data = .cell (some (.str tail t2)))
    (hl : h.IsList lR vs.toArray) (hi : IntsAre vs (rowL free turned first 8)) (hl2 : h.IsList lM us.toArray) (hi2 : IntsAre us (quotL (rowL free turned first 8) 15)) (h0 : 0 ≤ first) (h8 : first ≤ 8)
    (hlc : letter.cps.toList = [c]) (hc : c ≠ 34) (hlet : letter.length = 1) (htk : TailOk tail.cps.toList) (htail : tail.length ≤ 20) :
    KeyOk prog w (.ref f) h (JF first) :=
  key_conv (keyUntold (N _ hm).1 hcd (cell_news N hmL hdL) (cell_news N hmM hdM) (cell_news N hmR hdR) (cell_news N hmT hdT) hl hi (row_len16 _ _ _) hl2 hi2 (quot_len _ 15) hlet htail) fun v h1 h8' => by
    show untoldF _ ((quotL (rowL free turned first 8) 15).take (2 * v).toNat) letter tail = JF first v
    rw [show (2 * v).toNat = 2 * v.toNat by (first | lia | omega), judge2 h0 h8 hlc hc htk (by (first | lia | omega) : v.toNat ≤ 8)]
    rfl
section
variable {prog : Program} {w : World} {dp un : Nat} {gd : Option (List Code)} {outer : List Env} {s : Shared} {l j : Addr} {vs : List Value} {first lo hi : Int} {t1 t2 t3 : Tok} {Q E : Value → Shared → Prop}
theorem lawL (G : Gd w (Ar dp un gd outer) outer s.heap) (hdp : dp + 48 < recursionLimit) (hun : un + 512 < cLine)
    (hl : s.heap.IsList l vs.toArray) (hI : IntsAre vs [1, 2, 3, 4, 5, 6, 7, 8]) (hk : KeyOk prog w (.ref j) s.heap (JF first)) (hfn : FnAt j s.heap) (h0 : 0 ≤ first) (h8 : first ≤ 8)
    (ret : ∀ t h' tk', Kp s.heap h' → Q (.int first t) {s with heap := h', toks := tk'}) :
    wpAny (model prog w) (Ar dp un gd outer) (call (.ref 53) [.ref l, .int 1 t1] [(Str.ofString "key", .ref j)]) Q E s :=
  bislC0 (f := first) G hdp hun hl hI hk hfn (fun v h1 _ => jf_l h0 h1) fun t h' tk' kp => by rw [show max 0 (min first 8) = first by (first | lia | omega)]; exact ret t h' tk' kp
theorem lawR (G : Gd w (Ar dp un gd outer) outer s.heap) (hdp : dp + 48 < recursionLimit) (hun : un + 512 < cLine)
    (hl : s.heap.IsList l vs.toArray) (hI : IntsAre vs [1, 2, 3, 4, 5, 6, 7, 8]) (hk : KeyOk prog w (.ref j) s.heap (JF first)) (hfn : FnAt j s.heap) (h0 : 0 ≤ first) (h8 : first ≤ 8)
    (ret : ∀ t h' tk', Kp s.heap h' → Q (.int (min (first + 1) 8) t) {s with heap := h', toks := tk'}) :
    wpAny (model prog w) (Ar dp un gd outer) (call (.ref 44) [.ref l, .int 1 t1] [(Str.ofString "key", .ref j)]) Q E s :=
  bisrC0 (f := first + 1) G hdp hun hl hI hk hfn (fun v h1 _ => jf_r1 h0 h1) fun t h' tk' kp => by rw [show max 0 (min (first + 1) 8) = min (first + 1) 8 by (first | lia | omega)]; exact ret t h' tk' kp
theorem lawLb (G : Gd w (Ar dp un gd outer) outer s.heap) (hdp : dp + 48 < recursionLimit) (hun : un + 512 < cLine)
    (hl : s.heap.IsList l vs.toArray) (hI : IntsAre vs [1, 2, 3, 4, 5, 6, 7, 8]) (hk : KeyOk prog w (.ref j) s.heap (JF first)) (hfn : FnAt j s.heap) (h0 : 0 ≤ first) (hlo : 0 ≤ lo) (hlh : lo ≤ hi) (hh8 : hi ≤ 8)
    (ret : ∀ t h' tk', Kp s.heap h' → Q (.int (max lo (min first hi)) t) {s with heap := h', toks := tk'}) :
    wpAny (model prog w) (Ar dp un gd outer) (call (.ref 53) [.ref l, .int 1 t1, .int lo t2, .int hi t3] [(Str.ofString "key", .ref j)]) Q E s :=
  bislC (f := first) G hdp hun hl hI hk hfn hlo hlh hh8 (fun v h1 _ => jf_l h0 h1) ret
theorem lawRb (G : Gd w (Ar dp un gd outer) outer s.heap) (hdp : dp + 48 < recursionLimit) (hun : un + 512 < cLine)
    (hl : s.heap.IsList l vs.toArray) (hI : IntsAre vs [1, 2, 3, 4, 5, 6, 7, 8]) (hk : KeyOk prog w (.ref j) s.heap (JF first)) (hfn : FnAt j s.heap) (h0 : 0 ≤ first) (hlo : 0 ≤ lo) (hlh : lo ≤ hi) (hh8 : hi ≤ 8)
    (ret : ∀ t h' tk', Kp s.heap h' → Q (.int (max lo (min first hi)) t) {s with heap := h', toks := tk'}) :
    wpAny (model prog w) (Ar dp un gd outer) (call (.ref 44) [.ref l, .int 0 t1, .int lo t2, .int hi t3] [(Str.ofString "key", .ref j)]) Q E s :=
  bisrC (f := first) G hdp hun hl hI hk hfn hlo hlh hh8 (fun v h1 _ => jf_r0 h0 h1) ret
end
theorem nine_pos (a : Int) : 0 < 9 - Int.fmod a 9 := by have := fm9_hi a; (first | lia | omega)
theorem nine_ne (a : Int) : 9 - Int.fmod a 9 ≠ 0 := by have := fm9_hi a; (first | lia | omega)
theorem high_lo (a d : Int) : Int.fmod a 9 ≤ Int.fmod a 9 + Int.fmod d (9 - Int.fmod a 9) := by
  have := fmod_lo d (nine_pos a); (first | lia | omega)
theorem high_hi (a d : Int) : Int.fmod a 9 + Int.fmod d (9 - Int.fmod a 9) ≤ 8 := by
  have := fmod_hi d (nine_pos a); (first | lia | omega)
theorem min_law {prog : Program} {w : World} {A : Around} {E : Value → Shared → Prop} {s : Shared} {h₀ : Heap} {L : Addr} {m : Str → Option Value} {news : List (Addr × Obj)} {a b : Int} {t u : Tok} {Q : Value → Shared → Prop} (hh : A.handled = none) (F : Fr h₀ L s.heap m) (N : News h₀ L s.heap news)
    (h : ∀ h' tk t', Fr h₀ L h' m → News h₀ L h' news → Q (.int (min a b) t') { s with heap := h', toks := tk }) : wpAny (model prog w) A (call (.builtin "min") [.int a t, .int b u]) Q E s :=
  min_two_N hh F N fun h' tk F' N' => by
    rw [show (if b < a then b else a) = min a b by split <;> (first | lia | omega)]
    exact h h' tk _ F' N'
theorem max_law {prog : Program} {w : World} {A : Around} {E : Value → Shared → Prop} {s : Shared} {h₀ : Heap} {L : Addr} {m : Str → Option Value} {news : List (Addr × Obj)} {a b : Int} {t u : Tok} {Q : Value → Shared → Prop} (hh : A.handled = none) (F : Fr h₀ L s.heap m) (N : News h₀ L s.heap news)
    (h : ∀ h' tk t', Fr h₀ L h' m → News h₀ L h' news → Q (.int (max a b) t') { s with heap := h', toks := tk }) : wpAny (model prog w) A (call (.builtin "max") [.int a t, .int b u]) Q E s :=
  max_two_N hh F N fun h' tk F' N' => by
    rw [show (if b > a then b else a) = max a b by split <;> (first | lia | omega)]
    exact h h' tk _ F' N'
theorem ne_int_same {prog : Program} {w : World} {A : Around} {E : Value → Shared → Prop} {s : Shared} {a : Int} {t u : Tok} {Q : Value → Shared → Prop} (h : Q (.bool false) s) : wpAny (model prog w) A (compareOp .NotEq (.int a t) (.int a u)) Q E s :=
  PyProof.Rows.ne_int (by rw [bne_self_eq_false]; exact h)
theorem ne_ints_same {prog : Program} {w : World} {A : Around} {E : Value → Shared → Prop} {s : Shared} {a b : Addr} {vs us : List Value} {ns : List Int} {Q : Value → Shared → Prop} (hl : s.heap.IsList a vs.toArray) (hi : IntsAre vs ns) (hl' : s.heap.IsList b us.toArray) (hi' : IntsAre us ns) (hu : A.units + 64 < cLine)
    (h : Q (.bool false) s) : wpAny (model prog w) A (compareOp .NotEq (.ref a) (.ref b)) Q E s :=
  ne_intsK hl hi hl' hi' hu (by rw [decide_eq_true rfl]; exact h)

end

section
theorem topOffKZ : True := by
  w_top off
  k_with_none
  exact trivial

theorem kw15 : True := by
  k_with "pyIter ref" => ((with_reducible show wpAny _ _ (pyIter (Value.ref _)) (fun it s₂ => LoopAtV _ _ _ _ _ _ _ _ _ it s₂) _ _); refine Mine.hold ?_)
  k_with "newList" => (k_here; k_dflt (refine' newList_L (by (k_asm)) (by (k_asm)) ?_; k_whole); intro l' h' F' N' l1 l2; (try k_lt l1); (try k_lt2 l2); (try k_sweep))
  k_with "tb_start" => (refine' enter0 (by (assumption)) (by (assumption)) (by (assumption)) (by (k_is)) (by (k_is)) (by (ktr_room)) (by (first | exact BindsTo.of_eq rfl | (refine' kp_binds (by (assumption)) (by (exact fun _ => rfl))))) (by (exact locs rfl)) ?_ (by (exact rfl)) (by (exact rfl)) (by (exact rfl)) (by (decide)); k_whole; intro L' h' hL' F' N' B' X' T'; (try dsimp only); (try k_fold))
  k_with "InvEndN" => refine Mine.hold ?_
  k_with "tb_rel" => (rename News _ _ _ _ => nE'; (try simp only [List.push_toArray] at nE'); (first | refine' kst_end ⟨_, _, _, _, _, _, _, _, _⟩ (by k_asm) nE' (by first | kst_in | kst_inAny) (by first | (intro p hp; kst_mem) | kst_anyIn) (by rfl) (by kst_facts) (by kst_all) (by kst_same) ?_ | refine' kst_end ⟨_, _, _, _, _, _, _, _⟩ (by k_asm) nE' (by first | kst_in | kst_inAny) (by first | (intro p hp; kst_mem) | kst_anyIn) (by rfl) (by kst_facts) (by kst_all) (by kst_same) ?_ | refine' kst_end ⟨_, _, _, _, _, _, _⟩ (by k_asm) nE' (by first | kst_in | kst_inAny) (by first | (intro p hp; kst_mem) | kst_anyIn) (by rfl) (by kst_facts) (by kst_all) (by kst_same) ?_ | refine' kst_end ⟨_, _, _, _, _, _⟩ (by k_asm) nE' (by first | kst_in | kst_inAny) (by first | (intro p hp; kst_mem) | kst_anyIn) (by rfl) (by kst_facts) (by kst_all) (by kst_same) ?_ | refine' kst_end ⟨_, _, _, _, _⟩ (by k_asm) nE' (by first | kst_in | kst_inAny) (by first | (intro p hp; kst_mem) | kst_anyIn) (by rfl) (by kst_facts) (by kst_all) (by kst_same) ?_ | refine' kst_end ⟨_, _, _, _⟩ (by k_asm) nE' (by first | kst_in | kst_inAny) (by first | (intro p hp; kst_mem) | kst_anyIn) (by rfl) (by kst_facts) (by kst_all) (by kst_same) ?_ | refine' kst_end ⟨_, _, _⟩ (by k_asm) nE' (by first | kst_in | kst_inAny) (by first | (intro p hp; kst_mem) | kst_anyIn) (by rfl) (by kst_facts) (by kst_all) (by kst_same) ?_ | refine' kst_end ⟨_, _⟩ (by k_asm) nE' (by first | kst_in | kst_inAny) (by first | (intro p hp; kst_mem) | kst_anyIn) (by rfl) (by kst_facts) (by kst_all) (by kst_same) ?_); (try dsimp only))
  k_with "exec For Name Call cons nil" => (k_here; (rename Fr _ _ _ _ => lF'); (with_unfolding_all refine' For_invVF lF' (by (exact rfl)) (by (exact rfl)) ?_; k_whole))
  k_with "kst_facts1" => with_reducible exact IntsAre.cons _ _ IntsAre.nil
  k_with "exec While Compare cons nil" => (k_here; refine Mine.hold ?_)
  k_with "KswEnd" => refine Mine.hold ?_
  k_with "kwd_less" => (rename News _ _ _ _ => nE'; (try simp only [List.push_toArray] at nE'); (first | refine' ksw_end ⟨_, _, _, _, _, _, _⟩ (by k_asm) nE' (by kst_in) (by kst_facts) (by kst_all) (by ksw_same) ?_ ?_ | refine' ksw_end ⟨_, _, _, _, _, _⟩ (by k_asm) nE' (by kst_in) (by kst_facts) (by kst_all) (by ksw_same) ?_ ?_ | refine' ksw_end ⟨_, _, _, _, _⟩ (by k_asm) nE' (by kst_in) (by kst_facts) (by kst_all) (by ksw_same) ?_ ?_ | refine' ksw_end ⟨_, _, _, _⟩ (by k_asm) nE' (by kst_in) (by kst_facts) (by kst_all) (by ksw_same) ?_ ?_ | refine' ksw_end ⟨_, _, _⟩ (by k_asm) nE' (by kst_in) (by kst_facts) (by kst_all) (by ksw_same) ?_ ?_ | refine' ksw_end ⟨_, _⟩ (by k_asm) nE' (by kst_in) (by kst_facts) (by kst_all) (by ksw_same) ?_ ?_); (all_goals (try dsimp only)))
  k_with "tbn_conj" => (refine' enter0C (by (assumption)) (by (assumption)) (by (assumption)) (by (k_is)) (by (k_is)) (by (ktr_room)) (by (exact BindsTo.of_eq rfl)) (by (exact rfl)) (by (decide +kernel)) ?_ (by (exact rfl)) (by (exact rfl)) (by (exact rfl)); k_whole; intro L' h' tk' cells' hL' F' N' Y' B' X' T'; k_cells Y'; (try simp only [List.cons_append, List.nil_append] at N'); (try dsimp only); (try k_fold))
  k_with "exec While BoolOp cons nil" => (k_here; refine Mine.hold ?_)
  k_with "compareOp NotEq ref ref" => (k_here; (with_reducible show wpAny _ _ (compareOp CmpOp.NotEq (Value.ref _) (Value.ref _)) _ _ _); (with_unfolding_all refine' ne_intsK (by (is_list)) (by (first | exact IntsAre.nil | l_intsC)) (by (is_list)) (by (first | exact IntsAre.nil | l_intsC)) (by (ktr_units)) ?_; k_whole))
  exact trivial
def Ev (prog : Program) (w : World) (h₀ : Heap) (L : Addr) (m : Str → Option Value) (env : Env) (x : Str) (v : Value) : Prop :=
  ∀ (A : Around) (Q E : Value → Shared → Prop) (s : Shared) (p : Pos), Fr h₀ L s.heap m → Q v s → wpAny (model prog w) A (eval (.Name x p) env) Q E s
theorem ev_use {prog : Program} {w : World} {h₀ : Heap} {L : Addr} {m : Str → Option Value} {env : Env} {x : Str} {v : Value} {A : Around} {Q E : Value → Shared → Prop} {s : Shared} {p : Pos}
    (h : Ev prog w h₀ L m env x v) (F : Fr h₀ L s.heap m) (q : Q v s) : wpAny (model prog w) A (eval (.Name x p) env) Q E s := h A Q E s p F q
theorem key_mono {prog : Program} {w : World} {j : Value} {h h' : Heap} {J : Int → Int} (hk : KeyOk prog w j h J) (kp : Kp h h') : KeyOk prog w j h' J :=
  fun dp un gd outer s v t Q E kp' => hk dp un gd outer s v t Q E (kp.trans kp')
theorem kw16 : True := by
  k_with "eval Name" => (k_dflt (refine' ev_use (by (with_reducible assumption)) (by (with_reducible assumption)) ?_; k_whole))
  k_with "ite" => first | with_reducible refine Mine.iteF ?_ | with_reducible refine Mine.iteT ?_
  k_with "compareOp NotEq int int" => (with_reducible refine ne_int_same ?_)
  k_with "kwd_rel" => (intro h' tk' kp'; (try dsimp only at kp'); (have F' := back_fr (by assumption) kp'); (have N' := back_news (by assumption) kp'); (have kj := key_mono (by assumption) kp'); (have fj := fn_keep (by assumption) kp'); (have li := Kp.isList kp' (by assumption)); clear kp'; (try dsimp only))
  k_with "call ref" => ((with_reducible show wpAny _ _ (call (Value.ref 53) [Value.ref _, Value.int _ _] _) _ _ _); k_dflt (refine' lawL (by (exact G _ (by assumption))) (by (assumption)) (by (assumption)) (by (assumption)) (by (assumption)) (by (assumption)) (by (assumption)) (by (assumption)) (by (assumption)) ?_; k_whole); intro t'; kwd_rel)
  k_with "call ref" => ((with_reducible show wpAny _ _ (call (Value.ref 44) [Value.ref _, Value.int _ _] _) _ _ _); k_dflt (refine' lawR (by (exact G _ (by assumption))) (by (assumption)) (by (assumption)) (by (assumption)) (by (assumption)) (by (assumption)) (by (assumption)) (by (assumption)) (by (assumption)) ?_; k_whole); intro t'; kwd_rel)
  k_with "call ref" => ((with_reducible show wpAny _ _ (call (Value.ref 53) [Value.ref _, Value.int _ _, Value.int _ _, Value.int _ _] _) _ _ _); k_dflt (refine' lawLb (by (exact G _ (by assumption))) (by (assumption)) (by (assumption)) (by (assumption)) (by (assumption)) (by (assumption)) (by (assumption)) (by (assumption)) (by (assumption)) (by (assumption)) (by (assumption)) ?_; k_whole); intro t'; kwd_rel)
  k_with "call ref" => ((with_reducible show wpAny _ _ (call (Value.ref 44) [Value.ref _, Value.int _ _, Value.int _ _, Value.int _ _] _) _ _ _); k_dflt (refine' lawRb (by (exact G _ (by assumption))) (by (assumption)) (by (assumption)) (by (assumption)) (by (assumption)) (by (assumption)) (by (assumption)) (by (assumption)) (by (assumption)) (by (assumption)) (by (assumption)) ?_; k_whole); intro t'; kwd_rel)
  k_with "call builtin:min" => ((with_reducible show wpAny _ _ (call (Value.builtin _) [Value.int _ _, Value.int _ _]) _ _ _); k_dflt (refine' min_law (by (exact rfl)) (by (assumption)) (by (assumption)) ?_; k_whole); intro h' tk' t' F' N')
  exact trivial
set_option maxHeartbeats 4000000 in
theorem jIf1 {prog : Program} {w : World} {dp un : Nat} {gd : Option (List Code)} {outer : List Env} {env : Env} {s : Shared} {h₀ : Heap} {L l j : Addr} {m : Str → Option Value} {news : List (Addr × Obj)} {vs : List Value} {first : Int} {t : Tok} {Q : Flow → Shared → Prop} {E : Value → Shared → Prop}
    {p1 p2 p3 p4 p5 p6 p7 p8 p9 q1 q2 q3 q4 q5 q6 q7 q8 q9 r1 r2 r3 r4 r5 r6 r7 : Pos}
    (F : Fr h₀ L s.heap m) (N : News h₀ L s.heap news) (G : ∀ h, Fr h₀ L h m → Gd w (Ar dp un gd outer) outer h) (hdp : dp + 48 < recursionLimit) (hun : un + 512 < cLine) (X : (hd.heap_39 w.params).In h₀)
    (e1 : Ev prog w h₀ L m env (Str.ofString "places") (.ref l)) (e2 : Ev prog w h₀ L m env (Str.ofString "judge") (.ref j)) (e3 : Ev prog w h₀ L m env (Str.ofString "first") (.int first t))
    (e4 : Ev prog w h₀ L m env (Str.ofString "bisect_left") (.ref 53)) (e5 : Ev prog w h₀ L m env (Str.ofString "bisect_right") (.ref 44)) (e6 : Ev prog w h₀ L m env (Str.ofString "min") (.builtin "min"))
    (hl : s.heap.IsList l vs.toArray) (hI : IntsAre vs [1, 2, 3, 4, 5, 6, 7, 8]) (hk : KeyOk prog w (.ref j) s.heap (JF first)) (hf : FnAt j s.heap) (h0 : 0 ≤ first) (h8 : first ≤ 8)
    (ret : ∀ h' tk', Fr h₀ L h' m → News h₀ L h' news → Q .next {s with heap := h', toks := tk'}) :
    wpAny (model prog w) (Ar dp un gd outer) (exec (.If (.BoolOp .Or
      [.Compare (.Call (.Name (Str.ofString "bisect_left") p1) [.Name (Str.ofString "places") p2, .Constant (.int 1) 0 p3] [{ arg := some (Str.ofString "key"), value := .Name (Str.ofString "judge") p4, pos := p5 }] p6) [.NotEq] [.Name (Str.ofString "first") p7] p8,
       .Compare (.Call (.Name (Str.ofString "bisect_right") p9) [.Name (Str.ofString "places") q1, .Constant (.int 1) 0 q2] [{ arg := some (Str.ofString "key"), value := .Name (Str.ofString "judge") q3, pos := q4 }] q5) [.NotEq]
         [.Call (.Name (Str.ofString "min") q6) [.BinOp (.Name (Str.ofString "first") q7) .Add (.Constant (.int 1) 0 q8) q9, .Constant (.int 8) 0 r1] [] r2] r3] r4)
      [.Return (some (.Constant (.bool false) 0 r5)) r6] [] r7) env) Q E s := by
  k_steps
  exact ret _ _ (by assumption) (by assumption)
set_option maxHeartbeats 4000000 in
theorem jIf2 {prog : Program} {w : World} {dp un : Nat} {gd : Option (List Code)} {outer : List Env} {env : Env} {s : Shared} {h₀ : Heap} {L l j : Addr} {m : Str → Option Value} {news : List (Addr × Obj)} {vs : List Value} {first lo hi : Int} {t t2 t3 : Tok} {Q : Flow → Shared → Prop} {E : Value → Shared → Prop}
    {p1 p2 p3 p4 p5 p6 p7 p8 p9 q1 q2 q3 q4 q5 q6 q7 q8 q9 r1 r3 r4 r5 r6 r7 : Pos}
    (F : Fr h₀ L s.heap m) (N : News h₀ L s.heap news) (G : ∀ h, Fr h₀ L h m → Gd w (Ar dp un gd outer) outer h) (hdp : dp + 48 < recursionLimit) (hun : un + 512 < cLine) (X : (hd.heap_39 w.params).In h₀)
    (e1 : Ev prog w h₀ L m env (Str.ofString "places") (.ref l)) (e2 : Ev prog w h₀ L m env (Str.ofString "judge") (.ref j)) (e3 : Ev prog w h₀ L m env (Str.ofString "low") (.int lo t)) (e7 : Ev prog w h₀ L m env (Str.ofString "high") (.int hi t2)) (e8 : Ev prog w h₀ L m env (Str.ofString "bound") (.int (max lo (min first hi)) t3))
    (e4 : Ev prog w h₀ L m env (Str.ofString "bisect_left") (.ref 53)) (e5 : Ev prog w h₀ L m env (Str.ofString "bisect_right") (.ref 44))
    (hl : s.heap.IsList l vs.toArray) (hI : IntsAre vs [1, 2, 3, 4, 5, 6, 7, 8]) (hk : KeyOk prog w (.ref j) s.heap (JF first)) (hf : FnAt j s.heap) (h0 : 0 ≤ first) (hlo : 0 ≤ lo) (hlh : lo ≤ hi) (hh8 : hi ≤ 8)
    (ret : ∀ h' tk', Fr h₀ L h' m → News h₀ L h' news → Q .next {s with heap := h', toks := tk'}) :
    wpAny (model prog w) (Ar dp un gd outer) (exec (.If (.BoolOp .Or
      [.Compare (.Call (.Name (Str.ofString "bisect_left") p1) [.Name (Str.ofString "places") p2, .Constant (.int 1) 0 p3, .Name (Str.ofString "low") q6, .Name (Str.ofString "high") q7] [{ arg := some (Str.ofString "key"), value := .Name (Str.ofString "judge") p4, pos := p5 }] p6) [.NotEq] [.Name (Str.ofString "bound") p7] p8,
       .Compare (.Call (.Name (Str.ofString "bisect_right") p9) [.Name (Str.ofString "places") q1, .Constant (.int 0) 0 q2, .Name (Str.ofString "low") q8, .Name (Str.ofString "high") q9] [{ arg := some (Str.ofString "key"), value := .Name (Str.ofString "judge") q3, pos := q4 }] q5) [.NotEq] [.Name (Str.ofString "bound") r1] r3] r4)
      [.Return (some (.Constant (.bool false) 0 r5)) r6] [] r7) env) Q E s := by
  k_steps
  exact ret _ _ (by assumption) (by assumption)

end

section
theorem topOffLAW : True := by
  w_top off
  k_with_none
  exact trivial

theorem kw17 : True := by
  k_with "pyIter ref" => ((with_reducible show wpAny _ _ (pyIter (Value.ref _)) (fun it s₂ => LoopAtV _ _ _ _ _ _ _ _ _ it s₂) _ _); refine Mine.hold ?_)
  k_with "newList" => (k_here; k_dflt (refine' newList_L (by (k_asm)) (by (k_asm)) ?_; k_whole); intro l' h' F' N' l1 l2; (try k_lt l1); (try k_lt2 l2); (try k_sweep))
  k_with "tb_start" => (refine' enter0 (by (assumption)) (by (assumption)) (by (assumption)) (by (k_is)) (by (k_is)) (by (ktr_room)) (by (first | exact BindsTo.of_eq rfl | (refine' kp_binds (by (assumption)) (by (exact fun _ => rfl))))) (by (exact locs rfl)) ?_ (by (exact rfl)) (by (exact rfl)) (by (exact rfl)) (by (decide)); k_whole; intro L' h' hL' F' N' B' X' T'; (try dsimp only); (try k_fold))
  k_with "InvEndN" => refine Mine.hold ?_
  k_with "tb_rel" => (rename News _ _ _ _ => nE'; (try simp only [List.push_toArray] at nE'); (first | refine' kst_end ⟨_, _, _, _, _, _, _, _, _⟩ (by k_asm) nE' (by first | kst_in | kst_inAny) (by first | (intro p hp; kst_mem) | kst_anyIn) (by rfl) (by kst_facts) (by kst_all) (by kst_same) ?_ | refine' kst_end ⟨_, _, _, _, _, _, _, _⟩ (by k_asm) nE' (by first | kst_in | kst_inAny) (by first | (intro p hp; kst_mem) | kst_anyIn) (by rfl) (by kst_facts) (by kst_all) (by kst_same) ?_ | refine' kst_end ⟨_, _, _, _, _, _, _⟩ (by k_asm) nE' (by first | kst_in | kst_inAny) (by first | (intro p hp; kst_mem) | kst_anyIn) (by rfl) (by kst_facts) (by kst_all) (by kst_same) ?_ | refine' kst_end ⟨_, _, _, _, _, _⟩ (by k_asm) nE' (by first | kst_in | kst_inAny) (by first | (intro p hp; kst_mem) | kst_anyIn) (by rfl) (by kst_facts) (by kst_all) (by kst_same) ?_ | refine' kst_end ⟨_, _, _, _, _⟩ (by k_asm) nE' (by first | kst_in | kst_inAny) (by first | (intro p hp; kst_mem) | kst_anyIn) (by rfl) (by kst_facts) (by kst_all) (by kst_same) ?_ | refine' kst_end ⟨_, _, _, _⟩ (by k_asm) nE' (by first | kst_in | kst_inAny) (by first | (intro p hp; kst_mem) | kst_anyIn) (by rfl) (by kst_facts) (by kst_all) (by kst_same) ?_ | refine' kst_end ⟨_, _, _⟩ (by k_asm) nE' (by first | kst_in | kst_inAny) (by first | (intro p hp; kst_mem) | kst_anyIn) (by rfl) (by kst_facts) (by kst_all) (by kst_same) ?_ | refine' kst_end ⟨_, _⟩ (by k_asm) nE' (by first | kst_in | kst_inAny) (by first | (intro p hp; kst_mem) | kst_anyIn) (by rfl) (by kst_facts) (by kst_all) (by kst_same) ?_); (try dsimp only))
  k_with "exec For Name Call cons nil" => (k_here; (rename Fr _ _ _ _ => lF'); (with_unfolding_all refine' For_invVF lF' (by (exact rfl)) (by (exact rfl)) ?_; k_whole))
  k_with "kst_facts1" => with_reducible exact IntsAre.cons _ _ IntsAre.nil
  k_with "exec While Compare cons nil" => (k_here; refine Mine.hold ?_)
  k_with "KswEnd" => refine Mine.hold ?_
  k_with "kwd_less" => (rename News _ _ _ _ => nE'; (try simp only [List.push_toArray] at nE'); (first | refine' ksw_end ⟨_, _, _, _, _, _, _⟩ (by k_asm) nE' (by kst_in) (by kst_facts) (by kst_all) (by ksw_same) ?_ ?_ | refine' ksw_end ⟨_, _, _, _, _, _⟩ (by k_asm) nE' (by kst_in) (by kst_facts) (by kst_all) (by ksw_same) ?_ ?_ | refine' ksw_end ⟨_, _, _, _, _⟩ (by k_asm) nE' (by kst_in) (by kst_facts) (by kst_all) (by ksw_same) ?_ ?_ | refine' ksw_end ⟨_, _, _, _⟩ (by k_asm) nE' (by kst_in) (by kst_facts) (by kst_all) (by ksw_same) ?_ ?_ | refine' ksw_end ⟨_, _, _⟩ (by k_asm) nE' (by kst_in) (by kst_facts) (by kst_all) (by ksw_same) ?_ ?_ | refine' ksw_end ⟨_, _⟩ (by k_asm) nE' (by kst_in) (by kst_facts) (by kst_all) (by ksw_same) ?_ ?_); (all_goals (try dsimp only)))
  k_with "tbn_conj" => (refine' enter0C (by (assumption)) (by (assumption)) (by (assumption)) (by (k_is)) (by (k_is)) (by (ktr_room)) (by (exact BindsTo.of_eq rfl)) (by (exact rfl)) (by (decide +kernel)) ?_ (by (exact rfl)) (by (exact rfl)) (by (exact rfl)); k_whole; intro L' h' tk' cells' hL' F' N' Y' B' X' T'; k_cells Y'; (try simp only [List.cons_append, List.nil_append] at N'); (try dsimp only); (try k_fold))
  k_with "exec While BoolOp cons nil" => (k_here; refine Mine.hold ?_)
  k_with "compareOp NotEq ref ref" => (k_here; (with_reducible show wpAny _ _ (compareOp CmpOp.NotEq (Value.ref _) (Value.ref _)) _ _ _); (with_unfolding_all refine' ne_intsK (by (is_list)) (by (first | exact IntsAre.nil | l_intsC)) (by (is_list)) (by (first | exact IntsAre.nil | l_intsC)) (by (ktr_units)) ?_; k_whole))
  k_with "k_ne" => (refine neN ?_; (try dsimp only); (first | lia | omega))
  k_with "kwd_rel" => (intro h' tk' kp'; (try dsimp only at kp'); have F' := back_fr (by assumption) kp'; have N' := back_news (by assumption) kp'; clear kp'; (try k_sweep); (try dsimp only))
  k_with "kwd_inv" => exact gd_of (by assumption) (by k_asm) (by assumption) (by assumption) rfl rfl
  k_with "call ref" => (k_here; (with_reducible show wpAny _ _ (call (Value.ref 21) [Value.int _ _]) _ _ _); k_dflt (first | (refine' istermT (by omega) (by (kwd_inv)) (by (ktr_room)) ?_) | (refine' istermF (by omega) (by (kwd_inv)) (by (ktr_room)) ?_) | (refine' istermC (by (kwd_inv)) (by (ktr_room)) ?_); k_whole); kwd_rel)
  k_with "call ref" => (k_here; (with_reducible show wpAny _ _ (call (Value.ref 28) [Value.int _ _]) _ _ _); k_dflt (first | (refine' isnontermT (by omega) (by (kwd_inv)) (by (ktr_room)) ?_) | (refine' isnontermF (by omega) (by (kwd_inv)) (by (ktr_room)) ?_) | (refine' isnontermC (by (kwd_inv)) (by (ktr_room)) ?_); k_whole); kwd_rel)
  k_with "call ref" => (k_here; (with_reducible show wpAny _ _ (call (Value.ref 35) [Value.int _ _]) _ _ _); k_dflt (first | (refine' iseofT (by omega) (by (kwd_inv)) (by (ktr_room)) ?_) | (refine' iseofF (by omega) (by (kwd_inv)) (by (ktr_room)) ?_) | (refine' iseofC (by (kwd_inv)) (by (ktr_room)) ?_); k_whole); kwd_rel)
  exact trivial
theorem offW_lt {I : Addr} {o : Obj} : ∀ {l : List (Addr × Obj)}, AllLt I l → OffW [(I, o)] l
  | [], _ => trivial
  | _ :: _, h => ⟨⟨Or.inl (Nat.ne_of_lt h.1), trivial⟩, offW_lt h.2⟩
theorem kw18 : True := by
  k_with "ktu_offL" => (refine offW_lt ?_; (try simp only [AllLt, and_true]); first | with_reducible assumption | exact allLt_of (by assumption))
  exact trivial
theorem news_tail {h₀ h : Heap} {L : Addr} {x : Addr × Obj} {l : List (Addr × Obj)} (N : News h₀ L h (x :: l)) : News h₀ L h l := fun p hp => N p (.tail _ hp)
theorem news_drop3 {h₀ h : Heap} {L : Addr} {x a b c : Addr × Obj} {l : List (Addr × Obj)} (N : News h₀ L h (x :: a :: b :: c :: l)) : News h₀ L h (x :: l) := fun p hp => (List.mem_cons.mp hp).elim (fun e => N p (e ▸ .head _)) fun hp => N p (.tail _ (.tail _ (.tail _ (.tail _ hp))))
theorem news_drop1 {h₀ h : Heap} {L : Addr} {x a : Addr × Obj} {l : List (Addr × Obj)} (N : News h₀ L h (x :: a :: l)) : News h₀ L h (x :: l) := fun p hp => (List.mem_cons.mp hp).elim (fun e => N p (e ▸ .head _)) fun hp => N p (.tail _ (.tail _ hp))
theorem kw19 : True := by
  k_with "execs cons" => (k_here; (try k_gentoks); (with_reducible refine wpAny_execs_cons ?_); k_fold)
  k_with "subscriptTail Name Slice ref ref" => (k_here; (with_reducible show wpAny _ _ (subscriptTail _ (PySem.Expr.Slice _ _ (some _) _) (Value.ref _) (Value.ref _)) _ _ _); k_dflt (refine' slice3_I (by (k_asm)) (by (k_asm)) (by (kmk_list)) (by (kmk_part)) (by (kmk_part)) (by (kmk_part)) (by (decide)) (by (l_ints)) ?_ (by (with_unfolding_all rfl)) (by (kmk_pure)) (by (kmk_size))); intro D' ws' h' ms' F' N' l1 hI'; (try k_lt l1); (try k_sweep))
  k_with "kst_same" => (intro a' us' n' h' tk' kp' ha' hb' hI'; (try dsimp only at kp' ha'); have N' := back_news1 (by assumption) (by assumption) kp' ha' hb'; have l1 := back_lt (by assumption) ha'; have F' := back_fr (by assumption) kp'; clear kp' ha' hb'; (try k_lt l1); (try k_sweep); (try dsimp only))
  k_with "call ref" => (k_here; (with_reducible show wpAny _ _ (call (Value.ref 92) [Value.int _ _, Value.int _ _, Value.int _ _]) _ _ _); k_dflt (refine' rowC (by (kwd_inv)) (by (ktr_room)) (by (ktr_units)) (by (first | omega | exact fm9_lo _)) ?_; k_whole); kst_same; (replace N' := news_drop3 N'))
  k_with "call ref" => (k_here; (with_reducible show wpAny _ _ (call (Value.ref 99) [Value.ref _]) _ _ _); k_dflt (refine' octC (by (kwd_inv)) (by (ktr_room)) (by (ktr_units)) (by (is_list)) (by (assumption)) (by (exact row_len16 _ _ _)) (by (exact row01 _ _ _)) ?_; k_whole); kst_same)
  k_with "call ref" => (k_here; (with_reducible show wpAny _ _ (call (Value.ref 111) [Value.ref _]) _ _ _); k_dflt (refine' quotC (by (kwd_inv)) (by (ktr_room)) (by (ktr_units)) (by (is_list)) (by (assumption)) (by (exact row_len16 _ _ _)) ?_; k_whole); kst_same; (replace N' := news_drop1 N'))
  k_with "eval ListComp" => (k_here; refine Mine.hold ?_)
  k_with "SrcC" => refine Mine.hold ?_
  k_with "CompSrc" => refine Mine.hold ?_
  k_with "KCfEl" => refine Mine.hold ?_
  k_with "subscriptTail Name BinOp ref int" => (k_here; (with_reducible show wpAny _ _ (subscriptTail _ _ (Value.ref _) (Value.int _ _)) _ _ _); (with_unfolding_all refine' item_list_ints (by (is_list)) (by (k_asm)) (by (omega)) (by (omega)) (by (omega)) ?_; k_whole); intro _)
  k_with "binaryOp Mult int int" => (k_here; (with_reducible show wpAny _ _ (binaryOp Operator.Mult (Value.int (List.getD _ _ _) _) (Value.int _ _)) _ _ _); refine mul_int ?_ (mulOk_of_bits (m := 1) (n := 2000001) (bits01 (row01 _ _ _ _)) (kbm_pow _ (by omega)) (by decide)))
  k_with "call builtin:chr" => (k_here; (with_reducible show wpAny _ _ (call (Value.builtin "chr") [Value.int _ _]) _ _ _); k_dflt (refine' chr_letter ?_; k_whole); intro x' c' hx' hc' hln')
  k_with "subscriptTail" => (k_here; (with_reducible show wpAny _ _ (subscriptTail _ _ (Value.ref _) (Value.int (Int.fmod _ _) _)) _ _ _); k_dflt (refine' tail_item (P := TailP) (by (is_list)) (by (exact fmod_lo _ (by decide))) (by (exact fmod_hi _ (by decide))) (by (exact tail_p)) ?_ (by (with_unfolding_all rfl)); k_whole); intro x' t' htp'; obtain ⟨htk', htl'⟩ := htp')
  k_with "call ref" => (k_here; (with_reducible show wpAny _ _ (call (Value.ref 118) [Value.ref _, Value.str _ _]) _ _ _); k_dflt (refine' textC (by (kwd_inv)) (by (ktr_room)) (by (ktr_units)) (by (is_list)) (by (k_asm)) (by (exact Nat.le_of_eq (quot_len _ 15))) (by (k_asm)) ?_; k_whole); intro t' hln'; (rw [quot_len _ 15] at hln'); kwd_rel)
  k_with "call ref" => (k_here; (with_reducible show wpAny _ _ (call (Value.ref 125) [Value.ref _, Value.int _ _, Value.str _ _]) _ _ _); k_dflt (refine' rootC (by (kwd_inv)) (by (ktr_room)) (by (ktr_units)) (by (is_list)) (by (k_asm)) (by (exact row_len16 _ _ _)) (by (exact fm9_lo _)) (by (exact fm9_hi _)) (by (k_asm)) ?_; k_whole); intro t' hlr'; kwd_rel)
  k_with "exec If" => (k_here; (with_reducible show wpAny _ _ (exec (Stmt.If (PySem.Expr.BoolOp BoolOp.And _ _) _ _ _) _) _ _ _); refine Mine.hold ?_)
  k_with "call ref" => (k_here; (with_reducible show wpAny _ _ (call (Value.ref 135) [Value.str _ _]) _ _ _); k_dflt (refine' refusedL (by (k_asm)) (by (k_asm)) (by (k_asm)) (by (k_asm)) (by (exact rfl)) (by (exact rfl)) (by (ktr_room)) (by (ktr_units)) (by (((have h5 : (Str.ofString " \"").length = 2 := by decide +kernel); (simp only [PySem.Str.length_append]); omega))) ?_; k_whole); intro h' tk' F' N'; (try dsimp only))
  k_with "call ref" => (k_here; (with_reducible show wpAny _ _ (call (Value.ref 85) [Value.str _ _]) _ _ _); k_dflt (refine' parseEq (tx_pre3 _ _) (by (exact (due_name (fm9_lo _) (fm9_hi _) (by k_asm) (by k_asm) (by k_asm)).trans (Eq.symm (by k_asm)))) (by (kwd_inv)) (by (ktr_room)) (by (ktr_units)) (by (((have h5 : (Str.ofString " \"").length = 2 := by decide +kernel); (have h6 : (Str.ofString "257").length = 3 := by decide +kernel); (simp only [PySem.Str.length_append]); omega))) ?_; k_whole); intro t'; kwd_rel)
  k_with "DueEnd" => refine Mine.hold ?_
  k_with "inplaceOp Add str str" => (k_here; k_dflt ((refine' SBL.iadd (hsz := (by ((rw [PySem.sizeLine_eq]; omega)))) ?_); k_whole); intro _ _ _)
  k_with "binaryOp Mod int int" => (k_here; (with_reducible show wpAny _ _ (binaryOp Operator.Mod (Value.int _ _) (Value.int (9 - Int.fmod _ 9) _)) _ _ _); k_dflt (refine' mod_int' (nine_ne _) ?_; k_whole))
  k_with "tb_start" => (refine' keyUN (by (k_asm)) (by (k_mem)) (by (exact codeRec_news (by k_asm) (by k_mem) (by k_asm) (by k_asm))) (by (k_mem)) (by (k_asm)) (by (k_mem)) (by (k_asm)) (by (k_mem)) (by (k_asm)) (by (k_mem)) (by (k_asm)) (by (is_list)) (by (k_asm)) (by (is_list)) (by (k_asm)) (by (exact fm9_lo _)) (by (exact fm9_hi _)) (by (k_asm)) (by (k_asm)) (by (k_asm)) (by (k_asm)) (by (k_asm)))
  k_with "tb_start" => (refine' keyON (by (k_asm)) (by (k_mem)) (by (exact codeRec_news (by k_asm) (by k_mem) (by k_asm) (by k_asm))) (by (k_mem)) (by (k_asm)) (by (is_list)) (by (k_asm)) (by (exact fm9_lo _)) (by (exact fm9_hi _)))
  k_with "call ref" => (k_here; (with_reducible show wpAny _ _ (call (Value.ref 53) [Value.ref _, Value.int _ _] _) _ _ _); k_dflt (refine' lawL (by (kwd_inv)) (by (ktr_room)) (by (ktr_units)) (by (is_list)) (by ((repeat first | exact IntsAre.nil | refine IntsAre.cons _ _ ?_))) (by (tb_start)) (by (exact FnAt.of (by k_asm) (by k_mem))) (by (exact fm9_lo _)) (by (exact fm9_hi _)) ?_; k_whole); intro t'; kwd_rel)
  k_with "call ref" => (k_here; (with_reducible show wpAny _ _ (call (Value.ref 44) [Value.ref _, Value.int _ _] _) _ _ _); k_dflt (refine' lawR (by (kwd_inv)) (by (ktr_room)) (by (ktr_units)) (by (is_list)) (by ((repeat first | exact IntsAre.nil | refine IntsAre.cons _ _ ?_))) (by (tb_start)) (by (exact FnAt.of (by k_asm) (by k_mem))) (by (exact fm9_lo _)) (by (exact fm9_hi _)) ?_; k_whole); intro t'; kwd_rel)
  k_with "call ref" => (k_here; (with_reducible show wpAny _ _ (call (Value.ref 53) [Value.ref _, Value.int _ _, Value.int _ _, Value.int _ _] _) _ _ _); k_dflt (refine' lawLb (by (kwd_inv)) (by (ktr_room)) (by (ktr_units)) (by (is_list)) (by ((repeat first | exact IntsAre.nil | refine IntsAre.cons _ _ ?_))) (by (tb_start)) (by (exact FnAt.of (by k_asm) (by k_mem))) (by (exact fm9_lo _)) (by (exact fm9_lo _)) (by (exact high_lo _ _)) (by (exact high_hi _ _)) ?_; k_whole); intro t'; kwd_rel)
  k_with "call ref" => (k_here; (with_reducible show wpAny _ _ (call (Value.ref 44) [Value.ref _, Value.int _ _, Value.int _ _, Value.int _ _] _) _ _ _); k_dflt (refine' lawRb (by (kwd_inv)) (by (ktr_room)) (by (ktr_units)) (by (is_list)) (by ((repeat first | exact IntsAre.nil | refine IntsAre.cons _ _ ?_))) (by (tb_start)) (by (exact FnAt.of (by k_asm) (by k_mem))) (by (exact fm9_lo _)) (by (exact fm9_lo _)) (by (exact high_lo _ _)) (by (exact high_hi _ _)) ?_; k_whole); intro t'; kwd_rel)
  k_with "call builtin:min" => (k_here; (with_reducible show wpAny _ _ (call (Value.builtin _) [Value.int _ _, Value.int _ _]) _ _ _); k_dflt (refine' min_law (by (exact rfl)) (by (k_asm)) (by (k_asm)) ?_; k_whole); intro h' tk' t' F' N')
  k_with "call builtin:max" => (k_here; (with_reducible show wpAny _ _ (call (Value.builtin _) [Value.int _ _, Value.int _ _]) _ _ _); k_dflt (refine' max_law (by (exact rfl)) (by (k_asm)) (by (k_asm)) ?_; k_whole); intro h' tk' t' F' N')
  k_with "compareOp NotEq int int" => (k_here; (with_reducible refine ne_int_same ?_))
  k_with "compareOp NotEq str str" => (k_here; (with_reducible refine ne_str_same ?_))
  k_with "compareOp NotEq ref ref" => (k_here; (with_reducible show wpAny _ _ (compareOp CmpOp.NotEq (Value.ref _) (Value.ref _)) _ _ _); k_dflt (refine' ne_ints_same (by (is_list)) (by (k_asm)) (by (is_list)) (by (k_asm)) (by (ktr_units)) ?_; k_whole))
  k_with "ite" => (k_here; first | with_reducible refine Mine.iteF ?_ | with_reducible refine Mine.iteT ?_)
  k_with "exec If" => (k_here; (with_reducible show wpAny _ _ (exec (Stmt.If (PySem.Expr.BoolOp BoolOp.Or [PySem.Expr.Compare (PySem.Expr.Call _ [_, _] _ _) _ _ _, _] _) _ _ _) _) _ _ _); k_dflt (refine' jIf1 (by (k_asm)) (by (k_asm)) (by ((intro hG fG; exact gd_of (by assumption) fG (by assumption) (by assumption) rfl rfl))) (by (ktr_room)) (by (ktr_units)) (by (assumption)) (by ((intro A' Q' E' s' p' F' q'; walk1; exact q'))) (by ((intro A' Q' E' s' p' F' q'; walk1; exact q'))) (by ((intro A' Q' E' s' p' F' q'; walk1; exact q'))) (by ((intro A' Q' E' s' p' F' q'; walk1; exact q'))) (by ((intro A' Q' E' s' p' F' q'; walk1; exact q'))) (by ((intro A' Q' E' s' p' F' q'; walk1; exact q'))) (by (is_list)) (by ((repeat first | exact IntsAre.nil | refine IntsAre.cons _ _ ?_))) (by (tb_start)) (by (exact FnAt.of (by k_asm) (by k_mem))) (by (exact fm9_lo _)) (by (exact fm9_hi _)) ?_); k_whole; intro h' tk' F' N'; (try k_sweep); (try dsimp only))
  k_with "exec If" => (k_here; (with_reducible show wpAny _ _ (exec (Stmt.If (PySem.Expr.BoolOp BoolOp.Or [PySem.Expr.Compare (PySem.Expr.Call _ [_, _, _, _] _ _) _ _ _, _] _) _ _ _) _) _ _ _); k_dflt (refine' jIf2 (by (k_asm)) (by (k_asm)) (by ((intro hG fG; exact gd_of (by assumption) fG (by assumption) (by assumption) rfl rfl))) (by (ktr_room)) (by (ktr_units)) (by (assumption)) (by ((intro A' Q' E' s' p' F' q'; walk1; exact q'))) (by ((intro A' Q' E' s' p' F' q'; walk1; exact q'))) (by ((intro A' Q' E' s' p' F' q'; walk1; exact q'))) (by ((intro A' Q' E' s' p' F' q'; walk1; exact q'))) (by ((intro A' Q' E' s' p' F' q'; walk1; exact q'))) (by ((intro A' Q' E' s' p' F' q'; walk1; exact q'))) (by ((intro A' Q' E' s' p' F' q'; walk1; exact q'))) (by (is_list)) (by ((repeat first | exact IntsAre.nil | refine IntsAre.cons _ _ ?_))) (by (tb_start)) (by (exact FnAt.of (by k_asm) (by k_mem))) (by (exact fm9_lo _)) (by (exact fm9_lo _)) (by (exact high_lo _ _)) (by (exact high_hi _ _)) ?_); k_whole; intro h' tk' F' N'; (try k_sweep); (try dsimp only))
  exact trivial
set_option maxHeartbeats 8000000 in
theorem final : PySem.Challenge.rw_ux0004_01.Holds := hd (by
  k_go0
  show wpAny _ _ _ _ _ _
  k_fold
  k_steps
  refine unhold ?_
  rename (IntsAre _ (rowL _ _ _ _)) => hIR
  rename (_ = Data.cell (some (Value.ref _))) => hdc1
  rename (_ = Data.cell (some (Value.ref _))) => hdc2
  have hlR := len16 hIR (row_len16 _ _ _)
  refine ListComp_C (F₀ := by k_asm) (V := octOf hIR) (by with_unfolding_all rfl) (by intro h; rfl) (by intro k; rfl) (by rfl) (by decide) (by rfl) ?_
  k_steps
  refine unhold ?_
  refine ⟨_, _, _, _, _, _, 8, _, rfl, by rfl, by k_asm, by k_asm, by assumption, by decide, by rfl, by decide, fun s₂ hs₂ => ?_, fun D h tk ys F' N' off hlen hV => ?_⟩
  case' refine_2 =>
    (try simp only [LCg.Off1, and_true] at off)
    have hIO := ints_oct hIR (row01 _ _ _) hlen hV
    k_steps
    refine unhold ?_
    rename (_ = [_]) => hlc
    rename Fr _ _ _ _ => nF
    rename News _ _ _ _ => nN
    refine cutDue (x := Str.ofString "due") (DueP hIR hlc) nF nN ?dueA ?dueB
    case' dueA =>
      refine wpAny_If ?_
      k_steps
      · refine unhold ⟨rfl, _, _, _, _, rfl, by k_asm, by k_asm, due_then hIR hlc (by assumption) (by assumption) (by assumption) (by assumption) (by assumption)⟩
      all_goals refine unhold ⟨rfl, _, _, _, _, rfl, fr_name nF (if_pos rfl), nN, due_else hIR hlc (by rintro ⟨⟨x1, x2⟩, x3⟩; first | exact absurd x3 (by assumption) | (first | lia | omega)) (fm9_hi _) (by assumption)⟩
    case' dueB =>
      clear nF nN
      intro h' tk' d' t' F' N' hsp
      obtain ⟨hdue, hdl⟩ := hsp
      k_steps
  obtain ⟨g', rfl⟩ := hs₂
  intro i v I oI C oC D K oK ys h tk E' hi hP hK F' N' off offK ne
  obtain ⟨t, rfl⟩ := hP
  simp only [LCg.Off3, and_true] at off
  k_steps
  refine unhold ?_
  refine LCg.ListComp_U (F₀ := by k_asm) (by with_unfolding_all rfl) (by decide) (by rfl) (by decide) (by rfl) ?_
  k_steps
  refine unhold ?_
  refine LCg.CompSrc.range (n := 8) (by rfl) (by k_asm) (by k_asm) (by assumption) (by decide) (by rfl) (by decide) ?_
  intro g'
  refine kcf_range (fun j => (listOfI hIR).getD (1 + (i : Int) + j).toNat 0 * 2 ^ (7 - j).toNat) (fun k' t' I' oI' C' oC' D' m' ys' h' tk' E' hlo' hhi' hC' hx' F' N' off' ne' hMark' => ?_) ?_
  · (try simp only [LCg.Off3, and_true] at off')
    k_steps
    refine unhold (kcf_el rfl rfl rfl)
  · k_steps
    all_goals first | with_reducible assumption | exact ⟨_, congrArg (fun z => Value.int z _) (oct_sum _ _)⟩ | with_reducible exact news_tail (by assumption) | k_asm)

end

end Mine
theorem PySem.Challenge.cw_ux0004_01_holds : PySem.Challenge.rw_ux0004_01.Holds := by
  exact Mine.final
