import PyProof.Rows.All
import Wide.All
import OpenK.AllK
import Wide.FinOn
import PySem.Sre
import PyProof.SetScanFacts
import PySem.Challenge.RW_wy0014_01
set_option Elab.async false
set_option linter.all false
section
open PySem PySem.W PyProof.Rows
namespace Mine
set_option maxRecDepth 100000 in
set_option maxHeartbeats 8000000 in
open_top hd for PySem.Challenge.rw_wy0014_01
end Mine
end
example : True := by
  w_top off
  trivial
section
open PySem PySem.W PyProof.Rows PySem.Calls PySem.Spec
set_option maxRecDepth 100000
namespace Mine
noncomputable abbrev rprog : Program := PySem.Challenge.rw_wy0014_01.row.prog
noncomputable abbrev lo : List Str := looseW Mine.hd.view_39 [Str.ofString "Flags", Str.ofString "bisect_right", Str.ofString "insort_left", Str.ofString "bisect_left"]
/-- the def of the program that stands at the i-th place of its top -/
noncomputable def topStmt (i : Nat) : Stmt := PySem.Challenge.pw_wy0014_01.main.body.getD i (.Pass default)
noncomputable def bodyOf : Stmt → List Stmt
  | .FunctionDef _ _ b .. => b
  | .For _ _ b .. => b
  | .While _ b .. => b
  | _ => []
noncomputable def scopeOf : Stmt → Scope
  | .FunctionDef _ _ _ _ _ _ s .. => s
  | _ => default
noncomputable def nameOfS : Stmt → Option Str
  | .FunctionDef n .. => some n
  | _ => none
noncomputable def lawBody : List Stmt := bodyOf (topStmt 21)
noncomputable def lawScope : Scope := scopeOf (topStmt 21)
noncomputable def loopS (i : Nat) : Stmt := (bodyOf (lawBody.getD 5 (.Pass default))).getD i (.Pass default)
noncomputable def lawS (i : Nat) : Stmt := lawBody.getD i (.Pass default)
end Mine
end
section
open PySem PySem.W PyProof.Rows PySem.Calls PySem.Spec
set_option maxRecDepth 100000
namespace Mine
section
variable {prog : Program} {w : World} {A₀ A : Around} {s : Shared} {base h₀ : Heap} {outer : List Env} {L : Addr} {m : Str → Option Value} {env : Env} {news : List (Addr × Obj)} {K : Frag} {p : Program} {loose : List Str} {mean : ExcName → Option Value} {mg mb : Str → Option Value}
  {R : Result → Shared → Prop} {name qual : Str} {params : Arguments} {body : List Stmt} {scope : Scope} {dV kV doc pm cdv ct oc : Value} {an od : Option Addr} {osl : Array (Option Value)} {f : Addr} {args : Args} {binds : List (Str × Value)}
/-- what is kept of a heap but for some addresses -/
noncomputable def KeptBut (as : List Addr) (h h' : Heap) : Prop := ∀ b o, b ∉ as → h.get? b = some o → h'.get? b = some o
/-- the same for a def that catches what it called raised: the caller is the lowest frame, whose slots may change -/
theorem code_defS1 (B : Below A₀ base [] h₀) (F : Fr h₀ L s.heap m) (X₀ : K.In h₀) (T : Top p loose mean mg mb h₀) (hA : A.frames = some [env]) (hf : env.frame = some L) (hke : env.scope.kind = .function)
    (ho : K.lookup f = some ⟨oc, od, .func (fnOf name qual params body scope dV kV doc pm an cdv ct), osl⟩) (hcd : codeIn K cdv qual = true) (hroom : A.depth < recursionLimit)
    (hbind : BindsTo s (fnOf name qual params body scope dV kV doc pm an cdv ct) args binds) (hloc : ∀ y ∈ binds, scope.names.lookup y.1 = some .local)
    (h : ∀ L' h₁, Fr s.heap L' h₁ (fun y => binds.reverse.lookup y) → News s.heap L' h₁ [] → Below A base [env] s.heap → K.In s.heap → Top p loose mean mg mb s.heap → KtsDicts ([env].filterMap (·.frame)) s.heap →
      wpAny (model prog w) (A.deeper (envOf qual scope L' f cdv)) (execs body (envOf qual scope L' f cdv))
        (fun fl s' => LeaveS0 ([env].filterMap (·.frame)) h₀ L m s.heap (fun r s' => (∀ b o, b ≠ L → s.heap.get? b = some o → s'.heap.get? b = some o) → R r s') (match fl with | .ret v => v | _ => .none) s')
        (fun e s' => wpAny (model prog w) (A.deeper (envOf qual scope L' f cdv)) (leaving (envOf qual scope L' f cdv) e) (fun _ s'' => R (.error e) s'') (fun e' s'' => R (.error e') s'') s')
        { s with heap := h₁, toks := s.toks + binds.length })
    (hco : scope.isCoroutine = false) (hgen : scope.isGenerator = false) (hk : scope.kind = .function)
    (hcell : ∀ x ∈ scope.names, x.2 ≠ .cell) : codeAny (model prog w) A (.call (.ref f) args) R s := by
  obtain ⟨FG, BG, st, lv⟩ := groundX (R := fun r s' => (∀ b o, s.heap.get? b = some o → s'.heap.get? b = some o) → R r s') B F (News.nil (h := s.heap)) hA hf hke
  refine codeAny_call_def (fd := fnX name qual params body scope [] dV kV doc pm an cdv ct) (body := body) (binds := binds) hroom ((X₀.keeps F.keep) _ _ ho) rfl (T.nolimit.keeps F.keep) (codeRec_of (X₀.keeps F.keep) hcd) rfl hbind hcell hloc (fun h₁ hns hk₁ => ?_) hco hgen hk
  obtain ⟨oL, es, ep, hL, hLd, hLk, hLf⟩ := F.ns
  have hm : ∀ b, b ∈ [env].filterMap (·.frame) → b = L := fun b hb => by
    obtain ⟨e', he, hf'⟩ := List.mem_filterMap.mp hb
    rw [List.mem_singleton.mp he, hf] at hf'
    exact (Option.some.inj hf').symm
  refine wpAny_mono (h s.heap.objs.size h₁ ⟨hns, hk₁, Nat.le_refl _⟩ News.nil BG (X₀.keeps st) (T.keeps st) (fun b hb => by
    rw [hm b hb]; exact ⟨oL, es, ep, hL, hLd⟩)) (fun fl s' hl => ?_) fun _ _ y => y
  obtain ⟨g', L', m', news', T', F', N', k⟩ := hl
  have nL₀ : h₀.get? L = none := kts_self F
  obtain ⟨sl, hs⟩ := T'.up hL
  have kept : ∀ b o, b ≠ L → s.heap.get? b = some o → s'.heap.get? b = some o := fun b o hb e => F'.keep _ _ (T'.other b o e fun q => hb (hm b q))
  refine k ⟨⟨_, es, ep, F'.keep _ _ hs, hLd, hLk, hLf⟩, fun b o e => kept b o (fun q => by rw [q, nL₀] at e; cases e) (F.keep _ _ e), F.above⟩ (fun p hp => ⟨(N' p hp).1, fun q => ?_, ?_⟩) kept
  · have := (N' p hp).2.2; rw [q, hs] at this; cases this
  · cases q : h₀.get? p.1 with
    | none => rfl
    | some o =>
      obtain ⟨sl', hs'⟩ := T'.up (F.keep _ _ q)
      have := (N' p hp).2.2
      rw [hs'] at this
      cases this
/-- the same, everything its base -/
theorem code_def0 (B : Below A₀ base outer h₀) (F : Fr h₀ L s.heap m) (X₀ : K.In h₀) (T : Top p loose mean mg mb h₀) (hA : A.frames = some (env :: outer)) (hf : env.frame = some L) (hke : env.scope.kind = .function)
    (ho : K.lookup f = some ⟨oc, od, .func (fnOf name qual params body scope dV kV doc pm an cdv ct), osl⟩) (hcd : codeIn K cdv qual = true) (hroom : A.depth < recursionLimit)
    (hbind : BindsTo s (fnOf name qual params body scope dV kV doc pm an cdv ct) args binds) (hloc : ∀ y ∈ binds, scope.names.lookup y.1 = some .local)
    (h : ∀ L' h₁, Fr s.heap L' h₁ (fun y => binds.reverse.lookup y) → News s.heap L' h₁ [] → Below A base (env :: outer) s.heap → K.In s.heap → Top p loose mean mg mb s.heap →
      wpAny (model prog w) (A.deeper (envOf qual scope L' f cdv)) (execs body (envOf qual scope L' f cdv))
        (fun fl s' => LeaveK h₀ L m s.heap (fun r s' => (∀ b o, s.heap.get? b = some o → s'.heap.get? b = some o) → R r s') (match fl with | .ret v => v | _ => .none) s')
        (fun e s' => wpAny (model prog w) (A.deeper (envOf qual scope L' f cdv)) (leaving (envOf qual scope L' f cdv) e) (fun _ s'' => R (.error e) s'') (fun e' s'' => R (.error e') s'') s')
        { s with heap := h₁, toks := s.toks + binds.length })
    (hco : scope.isCoroutine = false) (hgen : scope.isGenerator = false) (hk : scope.kind = .function)
    (hcell : ∀ x ∈ scope.names, x.2 ≠ .cell) : codeAny (model prog w) A (.call (.ref f) args) R s := by
  obtain ⟨FG, BG, st, lv⟩ := groundX (R := fun r s' => (∀ b o, s.heap.get? b = some o → s'.heap.get? b = some o) → R r s') B F (News.nil (h := s.heap)) hA hf hke
  refine codeAny_call_def (fd := fnX name qual params body scope [] dV kV doc pm an cdv ct) (body := body) (binds := binds) hroom ((X₀.keeps F.keep) _ _ ho) rfl (T.nolimit.keeps F.keep) (codeRec_of (X₀.keeps F.keep) hcd) rfl hbind hcell hloc (fun h₁ hns hk₁ => ?_) hco hgen hk
  exact wpAny_mono (h s.heap.objs.size h₁ ⟨hns, hk₁, Nat.le_refl _⟩ News.nil BG (X₀.keeps st) (T.keeps st))
    (fun fl s' hl => by
      have hl' := lv _ _ hl
      obtain ⟨L', m', news', F', N', k⟩ := hl
      exact hl' F'.keep) fun _ _ y => y
end
section
variable {prog : Program} {w : World} {A : Around} {E : Value → Shared → Prop} {s : Shared} {h₀ : Heap} {L : Addr} {m : Str → Option Value} {news : List (Addr × Obj)}
theorem list_at {l : Addr} {its : Array Value} {n : Nat} (N : News h₀ L s.heap news) (hl : (l, listOf its n) ∈ news) : s.heap.IsList l its := ⟨_, (N _ hl).1, rfl, _, rfl⟩
theorem list_base {l : Addr} {its : Array Value} {h : Heap} (F : Fr h₀ L h m) (hl : h₀.IsList l its) : h.IsList l its := by
  obtain ⟨o, e, r⟩ := hl
  exact ⟨o, F.keep _ _ e, r⟩
/-- an item of a list at an index that is not written -/
theorem item_any {value slice : PySem.Expr} {l : Addr} {its : Array Value} {k : Int} {u : Tok} {x : Value} {Q : Value → Shared → Prop} (hl : s.heap.IsList l its) (h0 : 0 ≤ k) (hfit : k < 2 ^ 63) (hx : its[k.toNat]? = some x) (h : Q x s)
    (hs : subscripted slice false (.ref l) (.int k u) = operate [.ref l, .int k u] (getItem (.ref l) (.int k u)) := by with_unfolding_all rfl) :
    wpAny (model prog w) A (subscriptTail value slice (.ref l) (.int k u)) Q E s :=
  tail_any hl.typeIs slot_list_getitem.lookup (wpAny_getItem_list hl h0 hfit hx h) hs
theorem ints_get {vs : List Value} {ns : List Int} (hI : IntsAre vs ns) {i : Nat} (hi : i < ns.length) : ∃ t, vs[i]? = some (.int (ns.getD i 0) t) := by
  obtain ⟨t, ht⟩ := hI.get i ns[i] (by simp [hi])
  refine ⟨t, ?_⟩
  rw [ht, List.getD_eq_getElem?_getD, List.getElem?_eq_getElem hi]
  rfl
theorem item_ints {value slice : PySem.Expr} {l : Addr} {vs : List Value} {ns : List Int} {k : Int} {u : Tok} {Q : Value → Shared → Prop} (hl : s.heap.IsList l vs.toArray) (hI : IntsAre vs ns) (h0 : 0 ≤ k) (hk : k < ns.length) (hlen : ns.length ≤ 1000)
    (h : ∀ t, Q (.int (ns.getD k.toNat 0) t) s)
    (hs : subscripted slice false (.ref l) (.int k u) = operate [.ref l, .int k u] (getItem (.ref l) (.int k u)) := by with_unfolding_all rfl) :
    wpAny (model prog w) A (subscriptTail value slice (.ref l) (.int k u)) Q E s := by
  obtain ⟨t, ht⟩ := ints_get hI (i := k.toNat) (by lia)
  exact item_any hl h0 (by lia) (by simpa using ht) (h t) hs
theorem len_ints' {l : Addr} {vs : List Value} {ns : List Int} {Q : Value → Shared → Prop} (hl : s.heap.IsList l vs.toArray) (hI : IntsAre vs ns) (hlen : ns.length ≤ 1000)
    (h : ∀ t k, Q (.int ns.length t) { s with toks := k }) : wpAny (model prog w) A (call (.builtin "len") [.ref l]) Q E s := by
  have e : vs.toArray.size = ns.length := by rw [List.size_toArray, hI.length]
  refine len_list hl (by rw [e]; lia) ?_
  rw [e]
  exact h _ _
end
theorem news_kept {h₀ h h' : Heap} {L : Addr} {news : List (Addr × Obj)} (N : News h₀ L h news) (K : ∀ b o, h.get? b = some o → h'.get? b = some o) : News h₀ L h' news := fun p hp => ⟨K _ _ (N p hp).1, (N p hp).2⟩
theorem list_kept {l : Addr} {its : Array Value} {h h' : Heap} (K : ∀ b o, h.get? b = some o → h'.get? b = some o) (hl : h.IsList l its) : h'.IsList l its := by
  obtain ⟨o, e, r⟩ := hl
  exact ⟨o, K _ _ e, r⟩
end Mine
end
section
open PySem PySem.W PyProof.Rows PySem.Calls PySem.Spec
set_option maxRecDepth 100000
namespace Mine
noncomputable def InvR (x : Int) (ns : List Int) (lo hi : Int) : Prop := 0 ≤ lo ∧ lo ≤ hi ∧ hi ≤ ns.length ∧ (∀ i : Nat, (i : Int) < lo → ns.getD i 0 ≤ x) ∧ (∀ i : Nat, hi ≤ i → i < ns.length → x < ns.getD i 0)
theorem sorted_get {ns : List Int} (hS : ns.Pairwise (· ≤ ·)) {i j : Nat} (hij : i ≤ j) (hj : j < ns.length) : ns.getD i 0 ≤ ns.getD j 0 := by
  rw [List.getD_eq_getElem?_getD, List.getD_eq_getElem?_getD, List.getElem?_eq_getElem (by omega), List.getElem?_eq_getElem hj]
  rcases Nat.lt_or_eq_of_le hij with h | h
  · exact List.pairwise_iff_getElem.mp hS i j _ _ h
  · subst h; exact Int.le_refl _
theorem mid_facts {lo hi : Int} (h : lo < hi) : lo ≤ (lo + hi).fdiv 2 ∧ (lo + hi).fdiv 2 < hi := by
  rw [Int.fdiv_eq_ediv_of_nonneg _ (by decide)]; omega
theorem invR_hi {x : Int} {ns : List Int} {lo hi : Int} (hS : ns.Pairwise (· ≤ ·)) (hv : InvR x ns lo hi) (h : lo < hi) (hx : x < ns.getD ((lo + hi).fdiv 2).toNat 0) : InvR x ns lo ((lo + hi).fdiv 2) := by
  obtain ⟨a, b, c, d, e⟩ := hv
  have q := mid_facts h
  refine ⟨a, q.1, by omega, d, fun i h1 h2 => ?_⟩
  exact Int.lt_of_lt_of_le hx (sorted_get hS (by omega) h2)
theorem invR_lo {x : Int} {ns : List Int} {lo hi : Int} (hS : ns.Pairwise (· ≤ ·)) (hv : InvR x ns lo hi) (h : lo < hi) (hx : ¬ x < ns.getD ((lo + hi).fdiv 2).toNat 0) : InvR x ns ((lo + hi).fdiv 2 + 1) hi := by
  obtain ⟨a, b, c, d, e⟩ := hv
  have q := mid_facts h
  refine ⟨by omega, by omega, c, fun i h1 => ?_, e⟩
  exact Int.le_trans (sorted_get hS (by omega) (by omega)) (Int.not_lt.mp hx)
theorem meas_hi {lo hi : Int} (h : lo < hi) : ((lo + hi).fdiv 2 - lo).toNat < (hi - lo).toNat := by
  have q := mid_facts h
  omega
theorem meas_lo {lo hi : Int} (h : lo < hi) : (hi - ((lo + hi).fdiv 2 + 1)).toNat < (hi - lo).toNat := by
  have q := mid_facts h
  omega
theorem invR_end {x : Int} {ns : List Int} {lo hi : Int} (hv : InvR x ns lo hi) (h : ¬ lo < hi) : InvR x ns lo lo := by
  obtain ⟨a, b, c, d, e⟩ := hv
  obtain rfl : lo = hi := by omega
  exact ⟨a, b, c, d, e⟩
theorem invR_start {x : Int} {ns : List Int} : InvR x ns 0 ns.length := ⟨by omega, by omega, by omega, fun i h => by omega, fun i h1 h2 => by omega⟩

noncomputable def InvL (x : Int) (ns : List Int) (lo hi : Int) : Prop := 0 ≤ lo ∧ lo ≤ hi ∧ hi ≤ ns.length ∧ (∀ i : Nat, (i : Int) < lo → ns.getD i 0 < x) ∧ (∀ i : Nat, hi ≤ i → i < ns.length → x ≤ ns.getD i 0)
theorem invL_hi {x : Int} {ns : List Int} {lo hi : Int} (hS : ns.Pairwise (· ≤ ·)) (hv : InvL x ns lo hi) (h : lo < hi) (hx : ¬ ns.getD ((lo + hi).fdiv 2).toNat 0 < x) : InvL x ns lo ((lo + hi).fdiv 2) := by
  obtain ⟨a, b, c, d, e⟩ := hv
  have q := mid_facts h
  refine ⟨a, q.1, by omega, d, fun i h1 h2 => ?_⟩
  exact Int.le_trans (Int.not_lt.mp hx) (sorted_get hS (by omega) h2)
theorem invL_lo {x : Int} {ns : List Int} {lo hi : Int} (hS : ns.Pairwise (· ≤ ·)) (hv : InvL x ns lo hi) (h : lo < hi) (hx : ns.getD ((lo + hi).fdiv 2).toNat 0 < x) : InvL x ns ((lo + hi).fdiv 2 + 1) hi := by
  obtain ⟨a, b, c, d, e⟩ := hv
  have q := mid_facts h
  refine ⟨by omega, by omega, c, fun i h1 => ?_, e⟩
  exact Int.lt_of_le_of_lt (sorted_get hS (by omega) (by omega)) hx
theorem invL_end {x : Int} {ns : List Int} {lo hi : Int} (hv : InvL x ns lo hi) (h : ¬ lo < hi) : InvL x ns lo lo := by
  obtain ⟨a, b, c, d, e⟩ := hv
  obtain rfl : lo = hi := by omega
  exact ⟨a, b, c, d, e⟩
theorem invL_start {x : Int} {ns : List Int} : InvL x ns 0 ns.length := ⟨by omega, by omega, by omega, fun i h => by omega, fun i h1 h2 => by omega⟩
theorem le_of_lt_sorted {ns : List Int} (h : ns.Pairwise (· < ·)) : ns.Pairwise (· ≤ ·) := h.imp fun x => Int.le_of_lt x
local macro_rules | `(tactic| k_mem) => `(tactic| assumption)
example (w : World) (h : Heap) : (Mine.hd.heap_39 w.params).In h → rprog = PySem.Challenge.rw_wy0014_01.prog → True := by
  k_fill
  intros; trivial

set_option maxHeartbeats 4000000 in
theorem bisect_right_spec {w : World} {mean : ExcName → Option Value} {mg mb : Str → Option Value} {dp un : Nat} {gd : Option (List Code)} {cn : Str} {cs : Scope} {a : Addr} {ccd : Value} {cl : List (Str × Addr)} {outer : List Env} {A₀ : Around} {base h₀ : Heap} {L : Addr} {m : Str → Option Value} {news : List (Addr × Obj)} {s : Shared} {Q E : Value → Shared → Prop}
   (B : Below A₀ base outer h₀) (F : Fr h₀ L s.heap m) (X : (Mine.hd.heap_39 w.params).In h₀) (N : News h₀ L s.heap news) (T : Top Mine.hd.view_39 lo mean mg mb h₀) (hk : cs.kind = .function) (hdp : dp + 8 < recursionLimit) (hun : un + 64 < cLine)
   {l : Addr} {vs : List Value} {ns : List Int} {x : Int} {tx : Tok} (hl : s.heap.IsList l vs.toArray) (hI : IntsAre vs ns) (hlen : ns.length ≤ 100) (hS : ns.Pairwise (· ≤ ·))
   (hQ : ∀ k t h' tk', InvR x ns k k → Fr h₀ L h' m → (∀ b o, s.heap.get? b = some o → h'.get? b = some o) → News h₀ L h' news → Q (.int k t) { s with heap := h', toks := tk' }) :
   wpAny (model rprog w) (ktrTop dp un gd cn cs L a ccd cl outer) (call (.ref 52) [.ref l, .int x tx]) Q E s := by
  refine wpAny_call ?_
  k_dflt (refine' code_def0 ?zzk1 ?zzk2 ?zzk3 ?zzk5 ?zzkA ?zzkF ?zzkK ?zzk6 ?zzk7 ?zzk8 ?zzk9 ?zzkB ?_ ?zzc2 ?zzc3 ?zzc4 ?zzc5; (case zzkA => exact rfl); (case zzkF => exact rfl); (case zzkK => first | assumption | exact rfl); (case zzk1 => k_asm); (case zzk2 => k_asm); (case zzk3 => k_asm); (case zzk5 => k_asm); (case zzk6 => k_is); (case zzk7 => k_is); (case zzk8 => ktr_room); (case zzk9 => first | exact BindsTo.of_eq rfl | exact binds_K (by k_in) rfl (by k_is) rfl rfl rfl | (refine' kp_binds ?zzkx ?zzke; (case zzkx => k_in); (case zzke => exact fun _ => rfl))); (case zzc5 => decide); (case zzkB => exact locs rfl); (case zzc2 => exact rfl); (case zzc3 => exact rfl); (case zzc4 => exact rfl); k_whole; intro _ _ _ _ B' _ _; (try dsimp only); (try k_lift B'); (try k_fold))
  k_with "exec While Compare cons nil" => k_while (fun ns lo hi => InvR x ns lo hi) (fun ns lo hi => (hi - lo).toNat) "lo" "hi"
  k_with "state" => first | exact invR_start | exact invR_hi (by assumption) (by assumption) (by assumption) (by assumption) | exact invR_lo (by assumption) (by assumption) (by assumption) (by assumption)
  k_with "measure" => first | exact meas_hi (by assumption) | exact meas_lo (by assumption)
  w_strict (repeat' (first | (k_unfold; (try dsimp only)) | (k_end; wrow_close) | ((with_reducible show wpAny _ _ (subscriptTail _ _ _ _) _ _ _); (k_here; k_dflt (refine' item_ints ?zzl ?zzi ?zza ?zzb ?zzz ?_; (case zzl => exact list_base (by k_asm) (by assumption)); (case zzi => assumption); (case zza => ((have q9 := mid_facts (by assumption)); simp only [InvR, InvL] at *; omega)); (case zzb => ((have q9 := mid_facts (by assumption)); simp only [InvR, InvL] at *; omega)); (case zzz => omega); k_whole); intro _)) | ((with_reducible show wpAny _ _ (call (Value.builtin "len") _ _) _ _ _); (k_here; k_dflt (refine' len_ints' ?zzl ?zzi ?zzz ?_; (case zzl => exact list_base (by k_asm) (by assumption)); (case zzi => assumption); (case zzz => omega); k_whole); intro _ _)) | walk1 | (dsimp only; first | ((with_reducible show wpAny _ _ (subscriptTail _ _ _ _) _ _ _); (k_here; k_dflt (refine' item_ints ?zzl ?zzi ?zza ?zzb ?zzz ?_; (case zzl => exact list_base (by k_asm) (by assumption)); (case zzi => assumption); (case zza => ((have q9 := mid_facts (by assumption)); simp only [InvR, InvL] at *; omega)); (case zzb => ((have q9 := mid_facts (by assumption)); simp only [InvR, InvL] at *; omega)); (case zzz => omega); k_whole); intro _)) | ((with_reducible show wpAny _ _ (call (Value.builtin "len") _ _) _ _ _); (k_here; k_dflt (refine' len_ints' ?zzl ?zzi ?zzz ?_; (case zzl => exact list_base (by k_asm) (by assumption)); (case zzi => assumption); (case zzz => omega); k_whole); intro _ _)) | walk1) | (leave1; try dsimp only) | fail "no step"))
  exact hQ _ _ _ _ (invR_end (by assumption) (by assumption)) (by assumption) (by assumption) (news_kept N (by assumption))

set_option maxHeartbeats 4000000 in
theorem bisect_right_spec3 {w : World} {mean : ExcName → Option Value} {mg mb : Str → Option Value} {dp un : Nat} {gd : Option (List Code)} {cn : Str} {cs : Scope} {a : Addr} {ccd : Value} {cl : List (Str × Addr)} {outer : List Env} {A₀ : Around} {base h₀ : Heap} {L : Addr} {m : Str → Option Value} {news : List (Addr × Obj)} {s : Shared} {Q E : Value → Shared → Prop}
   (B : Below A₀ base outer h₀) (F : Fr h₀ L s.heap m) (X : (Mine.hd.heap_39 w.params).In h₀) (N : News h₀ L s.heap news) (T : Top Mine.hd.view_39 lo mean mg mb h₀) (hk : cs.kind = .function) (hdp : dp + 8 < recursionLimit) (hun : un + 64 < cLine)
   {l : Addr} {vs : List Value} {ns : List Int} {x : Int} {tx : Tok} (hl : s.heap.IsList l vs.toArray) (hI : IntsAre vs ns) (hlen : ns.length ≤ 100) (hS : ns.Pairwise (· ≤ ·)) {lo0 : Int} {t0 : Tok} (hlo : 0 ≤ lo0) (hv : InvR x ns lo0 ns.length)
   (hQ : ∀ k t h' tk', InvR x ns k k → Fr h₀ L h' m → (∀ b o, s.heap.get? b = some o → h'.get? b = some o) → News h₀ L h' news → Q (.int k t) { s with heap := h', toks := tk' }) :
   wpAny (model rprog w) (ktrTop dp un gd cn cs L a ccd cl outer) (call (.ref 52) [.ref l, .int x tx, .int lo0 t0]) Q E s := by
  refine wpAny_call ?_
  k_dflt (refine' code_def0 ?zzk1 ?zzk2 ?zzk3 ?zzk5 ?zzkA ?zzkF ?zzkK ?zzk6 ?zzk7 ?zzk8 ?zzk9 ?zzkB ?_ ?zzc2 ?zzc3 ?zzc4 ?zzc5; (case zzkA => exact rfl); (case zzkF => exact rfl); (case zzkK => first | assumption | exact rfl); (case zzk1 => k_asm); (case zzk2 => k_asm); (case zzk3 => k_asm); (case zzk5 => k_asm); (case zzk6 => k_is); (case zzk7 => k_is); (case zzk8 => ktr_room); (case zzk9 => first | exact BindsTo.of_eq rfl | exact binds_K (by k_in) rfl (by k_is) rfl rfl rfl | (refine' kp_binds ?zzkx ?zzke; (case zzkx => k_in); (case zzke => exact fun _ => rfl))); (case zzc5 => decide); (case zzkB => exact locs rfl); (case zzc2 => exact rfl); (case zzc3 => exact rfl); (case zzc4 => exact rfl); k_whole; intro _ _ _ _ B' _ _; (try dsimp only); (try k_lift B'); (try k_fold))
  k_with "exec While Compare cons nil" => k_while (fun ns lo hi => InvR x ns lo hi) (fun ns lo hi => (hi - lo).toNat) "lo" "hi"
  k_with "state" => first | exact hv | exact invR_hi (by assumption) (by assumption) (by assumption) (by assumption) | exact invR_lo (by assumption) (by assumption) (by assumption) (by assumption)
  k_with "measure" => first | exact meas_hi (by assumption) | exact meas_lo (by assumption)
  w_strict (repeat' (first | (k_unfold; (try dsimp only)) | (k_end; wrow_close) | ((with_reducible show wpAny _ _ (subscriptTail _ _ _ _) _ _ _); (k_here; k_dflt (refine' item_ints ?zzl ?zzi ?zza ?zzb ?zzz ?_; (case zzl => exact list_base (by k_asm) (by assumption)); (case zzi => assumption); (case zza => ((have q9 := mid_facts (by assumption)); simp only [InvR, InvL] at *; omega)); (case zzb => ((have q9 := mid_facts (by assumption)); simp only [InvR, InvL] at *; omega)); (case zzz => omega); k_whole); intro _)) | ((with_reducible show wpAny _ _ (call (Value.builtin "len") _ _) _ _ _); (k_here; k_dflt (refine' len_ints' ?zzl ?zzi ?zzz ?_; (case zzl => exact list_base (by k_asm) (by assumption)); (case zzi => assumption); (case zzz => omega); k_whole); intro _ _)) | walk1 | (dsimp only; first | ((with_reducible show wpAny _ _ (subscriptTail _ _ _ _) _ _ _); (k_here; k_dflt (refine' item_ints ?zzl ?zzi ?zza ?zzb ?zzz ?_; (case zzl => exact list_base (by k_asm) (by assumption)); (case zzi => assumption); (case zza => ((have q9 := mid_facts (by assumption)); simp only [InvR, InvL] at *; omega)); (case zzb => ((have q9 := mid_facts (by assumption)); simp only [InvR, InvL] at *; omega)); (case zzz => omega); k_whole); intro _)) | ((with_reducible show wpAny _ _ (call (Value.builtin "len") _ _) _ _ _); (k_here; k_dflt (refine' len_ints' ?zzl ?zzi ?zzz ?_; (case zzl => exact list_base (by k_asm) (by assumption)); (case zzi => assumption); (case zzz => omega); k_whole); intro _ _)) | walk1) | (leave1; try dsimp only) | fail "no step"))
  exact hQ _ _ _ _ (invR_end (by assumption) (by assumption)) (by assumption) (by assumption) (news_kept N (by assumption))

set_option maxHeartbeats 4000000 in
theorem bisect_left_spec {w : World} {mean : ExcName → Option Value} {mg mb : Str → Option Value} {dp un : Nat} {gd : Option (List Code)} {cn : Str} {cs : Scope} {a : Addr} {ccd : Value} {cl : List (Str × Addr)} {outer : List Env} {A₀ : Around} {base h₀ : Heap} {L : Addr} {m : Str → Option Value} {news : List (Addr × Obj)} {s : Shared} {Q E : Value → Shared → Prop}
   (B : Below A₀ base outer h₀) (F : Fr h₀ L s.heap m) (X : (Mine.hd.heap_39 w.params).In h₀) (N : News h₀ L s.heap news) (T : Top Mine.hd.view_39 lo mean mg mb h₀) (hk : cs.kind = .function) (hdp : dp + 8 < recursionLimit) (hun : un + 64 < cLine)
   {l : Addr} {vs : List Value} {ns : List Int} {x : Int} {tx : Tok} (hl : s.heap.IsList l vs.toArray) (hI : IntsAre vs ns) (hlen : ns.length ≤ 100) (hS : ns.Pairwise (· ≤ ·))
   (hQ : ∀ k t h' tk', InvL x ns k k → Fr h₀ L h' m → (∀ b o, s.heap.get? b = some o → h'.get? b = some o) → News h₀ L h' news → Q (.int k t) { s with heap := h', toks := tk' }) :
   wpAny (model rprog w) (ktrTop dp un gd cn cs L a ccd cl outer) (call (.ref 70) [.ref l, .int x tx]) Q E s := by
  refine wpAny_call ?_
  k_dflt (refine' code_def0 ?zzk1 ?zzk2 ?zzk3 ?zzk5 ?zzkA ?zzkF ?zzkK ?zzk6 ?zzk7 ?zzk8 ?zzk9 ?zzkB ?_ ?zzc2 ?zzc3 ?zzc4 ?zzc5; (case zzkA => exact rfl); (case zzkF => exact rfl); (case zzkK => first | assumption | exact rfl); (case zzk1 => k_asm); (case zzk2 => k_asm); (case zzk3 => k_asm); (case zzk5 => k_asm); (case zzk6 => k_is); (case zzk7 => k_is); (case zzk8 => ktr_room); (case zzk9 => first | exact BindsTo.of_eq rfl | exact binds_K (by k_in) rfl (by k_is) rfl rfl rfl | (refine' kp_binds ?zzkx ?zzke; (case zzkx => k_in); (case zzke => exact fun _ => rfl))); (case zzc5 => decide); (case zzkB => exact locs rfl); (case zzc2 => exact rfl); (case zzc3 => exact rfl); (case zzc4 => exact rfl); k_whole; intro _ _ _ _ B' _ _; (try dsimp only); (try k_lift B'); (try k_fold))
  k_with "exec While Compare cons nil" => k_while (fun ns lo hi => InvL x ns lo hi) (fun ns lo hi => (hi - lo).toNat) "lo" "hi"
  k_with "state" => first | exact invL_start | exact invL_hi (by assumption) (by assumption) (by assumption) (by assumption) | exact invL_lo (by assumption) (by assumption) (by assumption) (by assumption)
  k_with "measure" => first | exact meas_hi (by assumption) | exact meas_lo (by assumption)
  w_strict (repeat' (first | (k_unfold; (try dsimp only)) | (k_end; wrow_close) | ((with_reducible show wpAny _ _ (subscriptTail _ _ _ _) _ _ _); (k_here; k_dflt (refine' item_ints ?zzl ?zzi ?zza ?zzb ?zzz ?_; (case zzl => exact list_base (by k_asm) (by assumption)); (case zzi => assumption); (case zza => ((have q9 := mid_facts (by assumption)); simp only [InvR, InvL] at *; omega)); (case zzb => ((have q9 := mid_facts (by assumption)); simp only [InvR, InvL] at *; omega)); (case zzz => omega); k_whole); intro _)) | ((with_reducible show wpAny _ _ (call (Value.builtin "len") _ _) _ _ _); (k_here; k_dflt (refine' len_ints' ?zzl ?zzi ?zzz ?_; (case zzl => exact list_base (by k_asm) (by assumption)); (case zzi => assumption); (case zzz => omega); k_whole); intro _ _)) | walk1 | (dsimp only; first | ((with_reducible show wpAny _ _ (subscriptTail _ _ _ _) _ _ _); (k_here; k_dflt (refine' item_ints ?zzl ?zzi ?zza ?zzb ?zzz ?_; (case zzl => exact list_base (by k_asm) (by assumption)); (case zzi => assumption); (case zza => ((have q9 := mid_facts (by assumption)); simp only [InvR, InvL] at *; omega)); (case zzb => ((have q9 := mid_facts (by assumption)); simp only [InvR, InvL] at *; omega)); (case zzz => omega); k_whole); intro _)) | ((with_reducible show wpAny _ _ (call (Value.builtin "len") _ _) _ _ _); (k_here; k_dflt (refine' len_ints' ?zzl ?zzi ?zzz ?_; (case zzl => exact list_base (by k_asm) (by assumption)); (case zzi => assumption); (case zzz => omega); k_whole); intro _ _)) | walk1) | (leave1; try dsimp only) | fail "no step"))
  exact hQ _ _ _ _ (invL_end (by assumption) (by assumption)) (by assumption) (by assumption) (news_kept N (by assumption))

set_option maxHeartbeats 4000000 in
theorem bisect_left_spec4 {w : World} {mean : ExcName → Option Value} {mg mb : Str → Option Value} {dp un : Nat} {gd : Option (List Code)} {cn : Str} {cs : Scope} {a : Addr} {ccd : Value} {cl : List (Str × Addr)} {outer : List Env} {A₀ : Around} {base h₀ : Heap} {L : Addr} {m : Str → Option Value} {news : List (Addr × Obj)} {s : Shared} {Q E : Value → Shared → Prop}
   (B : Below A₀ base outer h₀) (F : Fr h₀ L s.heap m) (X : (Mine.hd.heap_39 w.params).In h₀) (N : News h₀ L s.heap news) (T : Top Mine.hd.view_39 lo mean mg mb h₀) (hk : cs.kind = .function) (hdp : dp + 8 < recursionLimit) (hun : un + 64 < cLine)
   {l : Addr} {vs : List Value} {ns : List Int} {x : Int} {tx : Tok} (hl : s.heap.IsList l vs.toArray) (hI : IntsAre vs ns) (hlen : ns.length ≤ 100) (hS : ns.Pairwise (· ≤ ·)) {t0 : Tok}
   (hQ : ∀ k t h' tk', InvL x ns k k → Fr h₀ L h' m → (∀ b o, s.heap.get? b = some o → h'.get? b = some o) → News h₀ L h' news → Q (.int k t) { s with heap := h', toks := tk' }) :
   wpAny (model rprog w) (ktrTop dp un gd cn cs L a ccd cl outer) (call (.ref 70) [.ref l, .int x tx, .int 0 t0, .none]) Q E s := by
  refine wpAny_call ?_
  k_dflt (refine' code_def0 ?zzk1 ?zzk2 ?zzk3 ?zzk5 ?zzkA ?zzkF ?zzkK ?zzk6 ?zzk7 ?zzk8 ?zzk9 ?zzkB ?_ ?zzc2 ?zzc3 ?zzc4 ?zzc5; (case zzkA => exact rfl); (case zzkF => exact rfl); (case zzkK => first | assumption | exact rfl); (case zzk1 => k_asm); (case zzk2 => k_asm); (case zzk3 => k_asm); (case zzk5 => k_asm); (case zzk6 => k_is); (case zzk7 => k_is); (case zzk8 => ktr_room); (case zzk9 => first | exact BindsTo.of_eq rfl | exact binds_K (by k_in) rfl (by k_is) rfl rfl rfl | (refine' kp_binds ?zzkx ?zzke; (case zzkx => k_in); (case zzke => exact fun _ => rfl))); (case zzc5 => decide); (case zzkB => exact locs rfl); (case zzc2 => exact rfl); (case zzc3 => exact rfl); (case zzc4 => exact rfl); k_whole; intro _ _ _ _ B' _ _; (try dsimp only); (try k_lift B'); (try k_fold))
  k_with "exec While Compare cons nil" => k_while (fun ns lo hi => InvL x ns lo hi) (fun ns lo hi => (hi - lo).toNat) "lo" "hi"
  k_with "state" => first | exact invL_start | exact invL_hi (by assumption) (by assumption) (by assumption) (by assumption) | exact invL_lo (by assumption) (by assumption) (by assumption) (by assumption)
  k_with "measure" => first | exact meas_hi (by assumption) | exact meas_lo (by assumption)
  w_strict (repeat' (first | (k_unfold; (try dsimp only)) | (k_end; wrow_close) | ((with_reducible show wpAny _ _ (subscriptTail _ _ _ _) _ _ _); (k_here; k_dflt (refine' item_ints ?zzl ?zzi ?zza ?zzb ?zzz ?_; (case zzl => exact list_base (by k_asm) (by assumption)); (case zzi => assumption); (case zza => ((have q9 := mid_facts (by assumption)); simp only [InvR, InvL] at *; omega)); (case zzb => ((have q9 := mid_facts (by assumption)); simp only [InvR, InvL] at *; omega)); (case zzz => omega); k_whole); intro _)) | ((with_reducible show wpAny _ _ (call (Value.builtin "len") _ _) _ _ _); (k_here; k_dflt (refine' len_ints' ?zzl ?zzi ?zzz ?_; (case zzl => exact list_base (by k_asm) (by assumption)); (case zzi => assumption); (case zzz => omega); k_whole); intro _ _)) | walk1 | (dsimp only; first | ((with_reducible show wpAny _ _ (subscriptTail _ _ _ _) _ _ _); (k_here; k_dflt (refine' item_ints ?zzl ?zzi ?zza ?zzb ?zzz ?_; (case zzl => exact list_base (by k_asm) (by assumption)); (case zzi => assumption); (case zza => ((have q9 := mid_facts (by assumption)); simp only [InvR, InvL] at *; omega)); (case zzb => ((have q9 := mid_facts (by assumption)); simp only [InvR, InvL] at *; omega)); (case zzz => omega); k_whole); intro _)) | ((with_reducible show wpAny _ _ (call (Value.builtin "len") _ _) _ _ _); (k_here; k_dflt (refine' len_ints' ?zzl ?zzi ?zzz ?_; (case zzl => exact list_base (by k_asm) (by assumption)); (case zzi => assumption); (case zzz => omega); k_whole); intro _ _)) | walk1) | (leave1; try dsimp only) | fail "no step"))
  exact hQ _ _ _ _ (invL_end (by assumption) (by assumption)) (by assumption) (by assumption) (news_kept N (by assumption))
end Mine
end
section
open PySem PySem.W PyProof.Rows PySem.Calls PySem.Spec
set_option maxRecDepth 100000
namespace Mine
local macro_rules | `(tactic| omega) => `(tactic| lia)

noncomputable def insAt (ns : List Int) (k y : Int) : List Int := ns.take k.toNat ++ y :: ns.drop k.toNat
theorem ints_ins {vs : List Value} {ns : List Int} {k y : Int} {t : Tok} (hI : IntsAre vs ns) (h0 : 0 ≤ k) (h1 : k ≤ ns.length) : IntsAre (kl_ins vs k (.int y t)) (insAt ns k y) := by
  have e : (if k < 0 then (k + (vs.length : Int)).toNat else min k.toNat vs.length) = k.toNat := by
    rw [if_neg (by lia), hI.length]; lia
  unfold kl_ins insAt
  rw [e]
  exact (hI.take _).append (.cons _ _ (hI.drop _))
theorem ins_upd {news : List (Addr × Obj)} {l : Addr} {o o' : Obj} (hne : ∀ p ∈ news, p.1 ≠ l) : Upd l o o' ((l, o) :: news) ((l, o') :: news) := .head hne
theorem invL_notin {y : Int} {ns : List Int} {k : Int} (hv : InvL y ns k k) (hn : y ∉ ns) : ∀ i : Nat, k ≤ i → i < ns.length → y < ns.getD i 0 := by
  intro i h1 h2
  have q := hv.2.2.2.2 i h1 h2
  have e : y ≠ ns.getD i 0 := fun e => hn (by
    rw [e, List.getD_eq_getElem?_getD, List.getElem?_eq_getElem h2]
    exact List.getElem_mem h2)
  lia
theorem getD_of_lt {ns : List Int} {i : Nat} (h : i < ns.length) : ns.getD i 0 = ns[i] := by
  rw [List.getD_eq_getElem?_getD, List.getElem?_eq_getElem h]; rfl
theorem ins_sorted {y : Int} {ns : List Int} {k : Int} (hS : ns.Pairwise (· < ·)) (hv : InvL y ns k k) (hn : y ∉ ns) : (insAt ns k y).Pairwise (· < ·) := by
  have hd := invL_notin hv hn
  obtain ⟨a, b, c, d, _⟩ := hv
  unfold insAt
  refine List.pairwise_append.mpr ⟨hS.sublist (List.take_sublist _ _), List.pairwise_cons.mpr ⟨fun z hz => ?_, hS.sublist (List.drop_sublist _ _)⟩, fun z hz u hu => ?_⟩
  · obtain ⟨i, hi, rfl⟩ := List.mem_iff_getElem.mp hz
    rw [List.getElem_drop]
    rw [List.length_drop] at hi
    rw [← getD_of_lt (by lia)]
    exact hd _ (by lia) (by lia)
  · obtain ⟨i, hi, rfl⟩ := List.mem_iff_getElem.mp hz
    rw [List.length_take] at hi
    rw [List.getElem_take]
    have h1 : ns[i] < y := by rw [← getD_of_lt (by lia)]; exact d i (by lia)
    rcases List.mem_cons.mp hu with rfl | hu
    · exact h1
    · obtain ⟨j, hj, rfl⟩ := List.mem_iff_getElem.mp hu
      rw [List.getElem_drop]
      rw [List.length_drop] at hj
      have := hd (k.toNat + j) (by lia) (by lia)
      rw [getD_of_lt (by lia)] at this
      lia
theorem mem_ins {y z : Int} {ns : List Int} {k : Int} : z ∈ insAt ns k y ↔ z ∈ ns ∨ z = y := by
  unfold insAt
  have e := List.take_append_drop k.toNat ns
  constructor
  · intro h
    rcases List.mem_append.mp h with h | h
    · exact .inl (List.mem_of_mem_take h)
    · rcases List.mem_cons.mp h with h | h
      · exact .inr h
      · exact .inl (List.mem_of_mem_drop h)
  · rintro (h | rfl)
    · rw [← e] at h
      rcases List.mem_append.mp h with h | h
      · exact List.mem_append.mpr (.inl h)
      · exact List.mem_append.mpr (.inr (List.mem_cons_of_mem _ h))
    · exact List.mem_append.mpr (.inr List.mem_cons_self)
theorem ins_length {y : Int} {ns : List Int} {k : Int} (h : k.toNat ≤ ns.length) : (insAt ns k y).length = ns.length + 1 := by
  unfold insAt
  rw [List.length_append, List.length_cons, List.length_take, List.length_drop]; lia
theorem put_mem {y kl kr : Int} {ns : List Int} (hS : ns.Pairwise (· < ·)) (hl : InvL y ns kl kl) (hr : InvR y ns kr kr) (h : kl < kr) : y ∈ ns := by
  obtain ⟨a, b, c, d, e⟩ := hl
  obtain ⟨a', b', c', d', e'⟩ := hr
  have h1 := e kl.toNat (by lia) (by lia)
  have h2 := d' kl.toNat (by lia)
  have : ns.getD kl.toNat 0 = y := by lia
  rw [← this, getD_of_lt (by lia)]
  exact List.getElem_mem _
theorem put_notin {y kl kr : Int} {ns : List Int} (hS : ns.Pairwise (· < ·)) (hl : InvL y ns kl kl) (hr : InvR y ns kr kr) (h : ¬ kl < kr) : y ∉ ns := by
  intro hm
  obtain ⟨i, hi, rfl⟩ := List.mem_iff_getElem.mp hm
  obtain ⟨a, b, c, d, e⟩ := hl
  obtain ⟨a', b', c', d', e'⟩ := hr
  rw [← getD_of_lt hi] at *
  have h1 : ¬ ((i : Int) < kl) := fun q => by have := d i q; lia
  have h2 : ¬ (kr ≤ (i : Int)) := fun q => by have := e' i q hi; lia
  lia
section
variable {prog : Program} {w : World} {A : Around} {E : Value → Shared → Prop} {s : Shared} {h₀ : Heap} {L : Addr} {m : Str → Option Value} {news : List (Addr × Obj)}
theorem insert_ints {l : Addr} {vs : List Value} {ns : List Int} {n : Nat} {k y : Int} {u t : Tok} {Q : Value → Shared → Prop} (F : Fr h₀ L s.heap m) (N : News h₀ L s.heap ((l, listOf vs.toArray n) :: news)) (hne : ∀ p ∈ news, p.1 ≠ l) (hI : IntsAre vs ns) (hlen : ns.length ≤ 100) (h0 : 0 ≤ k) (h1 : k ≤ ns.length)
    (h : ∀ h', Fr h₀ L h' m → News h₀ L h' ((l, listOf (kl_ins vs k (.int y t)).toArray (n + 1)) :: news) → Q .none { s with heap := h' }) :
    wpAny (model prog w) A (call (.builtin "list.insert") [.ref l, .int k u, .int y t]) Q E s := by
  refine kl_insert F N ?_ rfl (ins_upd hne) ?_ h
  · unfold Builtin.List.listFitsIndex
    simp only [Bool.and_eq_true, decide_eq_true_eq]
    lia
  · rw [sizeLine_eq, hI.length]; lia
end
local macro_rules | `(tactic| k_mem) => `(tactic| assumption)
local macro_rules | `(tactic| k_all) => `(tactic| assumption)
local macro_rules | `(tactic| tb_rel) => `(tactic| first | assumption | exact List.Mem.head _ | exact rfl | exact le_of_lt_sorted (by assumption) | lia | ktr_room | ktr_units)
example (w : World) (h : Heap) : (Mine.hd.heap_39 w.params).In h → rprog = PySem.Challenge.rw_wy0014_01.prog → True := by
  k_fill
  intros; trivial

set_option maxHeartbeats 4000000 in
theorem insort_left_spec {l : Addr} {vs : List Value} {ns : List Int} {n : Nat} {x : Int} {tx : Tok} {w : World} {mean : ExcName → Option Value} {mg mb : Str → Option Value} {dp un : Nat} {gd : Option (List Code)} {cn : Str} {cs : Scope} {a : Addr} {ccd : Value} {cl : List (Str × Addr)} {outer : List Env} {A₀ : Around} {base h₀ : Heap} {L : Addr} {m : Str → Option Value} {news : List (Addr × Obj)} {s : Shared} {Q E : Value → Shared → Prop}
   (B : Below A₀ base outer h₀) (F : Fr h₀ L s.heap m) (X : (Mine.hd.heap_39 w.params).In h₀) (N : News h₀ L s.heap ((l, listOf vs.toArray n) :: news)) (T : Top Mine.hd.view_39 lo mean mg mb h₀) (hk : cs.kind = .function) (hdp : dp + 12 < recursionLimit) (hun : un + 96 < cLine)
   (hne : ∀ p ∈ news, p.1 ≠ l) (hI : IntsAre vs ns) (hlen : ns.length ≤ 100) (hS : ns.Pairwise (· < ·))
   (hQ : ∀ k h' tk', InvL x ns k k → Fr h₀ L h' m → News h₀ L h' ((l, listOf (kl_ins vs k (.int x tx)).toArray (n + 1)) :: news) → Q .none { s with heap := h', toks := tk' }) :
   wpAny (model rprog w) (ktrTop dp un gd cn cs L a ccd cl outer) (call (.ref 61) [.ref l, .int x tx]) Q E s := by
  refine wpAny_call ?_
  k_dflt (refine' code_def ?zzk1 ?zzk2 ?zzk3 ?zzk4 ?zzk5 ?zzkA ?zzkF ?zzkK ?zzk6 ?zzk7 ?zzk8 ?zzk9 ?zzkB ?_ ?zzc2 ?zzc3 ?zzc4 ?zzc5; (case zzkA => exact rfl); (case zzkF => exact rfl); (case zzkK => first | assumption | exact rfl); (case zzk1 => k_asm); (case zzk2 => k_asm); (case zzk3 => k_asm); (case zzk4 => k_asm); (case zzk5 => k_asm); (case zzk6 => k_is); (case zzk7 => k_is); (case zzk8 => ktr_room); (case zzk9 => first | exact BindsTo.of_eq rfl | exact binds_K (by k_in) rfl (by k_is) rfl rfl rfl | (refine' kp_binds ?zzkx ?zzke; (case zzkx => k_in); (case zzke => exact fun _ => rfl))); (case zzc5 => decide); (case zzkB => exact locs rfl); (case zzc2 => exact rfl); (case zzc3 => exact rfl); (case zzc4 => exact rfl); k_whole; intro _ _ _ _ _ _ B' _ _; (try dsimp only); (try k_lift B'); (try k_fold))
  w_strict (repeat' (first | (k_unfold; (try dsimp only)) | (k_end; wrow_close) | ((with_reducible show wpAny _ _ (call (Value.ref _) _ _) _ _ _); (k_here; k_dflt (refine' bisect_right_spec ?zzB ?zzF ?zzX ?zzN ?zzT ?zzhk ?zzhdp ?zzhun ?zzhl ?zzhI ?zzhlen ?zzhS ?_; (case zzB => k_asm); (case zzF => k_asm); (case zzX => k_asm); (case zzN => k_asm); (case zzT => k_asm); (case zzhk => first | exact rfl | assumption); (case zzhl => exact list_at (by k_asm) (by tb_rel)); (case zzhI => assumption); (case zzhlen => first | assumption | lia); (case zzhS => tb_rel); (case zzhdp => ktr_room); (case zzhun => ktr_units); k_whole; intro _ _ _ _ _ _ _ _))) | ((with_reducible show wpAny _ _ (call (Value.ref _) _ _) _ _ _); (k_here; k_dflt (refine' bisect_left_spec ?zzB ?zzF ?zzX ?zzN ?zzT ?zzhk ?zzhdp ?zzhun ?zzhl ?zzhI ?zzhlen ?zzhS ?_; (case zzB => k_asm); (case zzF => k_asm); (case zzX => k_asm); (case zzN => k_asm); (case zzT => k_asm); (case zzhk => first | exact rfl | assumption); (case zzhl => exact list_at (by k_asm) (by tb_rel)); (case zzhI => assumption); (case zzhlen => first | assumption | lia); (case zzhS => tb_rel); (case zzhdp => ktr_room); (case zzhun => ktr_units); k_whole; intro _ _ _ _ _ _ _ _))) | ((with_reducible show wpAny _ _ (call (Value.ref _) _ _) _ _ _); (k_here; k_dflt (refine' bisect_left_spec4 ?zzB ?zzF ?zzX ?zzN ?zzT ?zzhk ?zzhdp ?zzhun ?zzhl ?zzhI ?zzhlen ?zzhS ?_; (case zzB => k_asm); (case zzF => k_asm); (case zzX => k_asm); (case zzN => k_asm); (case zzT => k_asm); (case zzhk => first | exact rfl | assumption); (case zzhl => exact list_at (by k_asm) (by tb_rel)); (case zzhI => assumption); (case zzhlen => first | assumption | lia); (case zzhS => tb_rel); (case zzhdp => ktr_room); (case zzhun => ktr_units); k_whole; intro _ _ _ _ _ _ _ _))) | ((with_reducible show wpAny _ _ (call (Value.builtin "list.insert") _ _) _ _ _); (k_here; k_dflt (refine' insert_ints ?zzF ?zzN ?zzne ?zzi ?zzz ?zza ?zzb ?_; (case zzF => k_asm); (case zzN => k_asm); (case zzne => assumption); (case zzi => assumption); (case zzz => assumption); (case zza => (simp only [InvL] at *; lia)); (case zzb => (simp only [InvL] at *; lia)); k_whole); intro _ _ _)) | walk1 | (dsimp only; first | ((with_reducible show wpAny _ _ (call (Value.ref _) _ _) _ _ _); (k_here; k_dflt (refine' bisect_right_spec ?zzB ?zzF ?zzX ?zzN ?zzT ?zzhk ?zzhdp ?zzhun ?zzhl ?zzhI ?zzhlen ?zzhS ?_; (case zzB => k_asm); (case zzF => k_asm); (case zzX => k_asm); (case zzN => k_asm); (case zzT => k_asm); (case zzhk => first | exact rfl | assumption); (case zzhl => exact list_at (by k_asm) (by tb_rel)); (case zzhI => assumption); (case zzhlen => first | assumption | lia); (case zzhS => tb_rel); (case zzhdp => ktr_room); (case zzhun => ktr_units); k_whole; intro _ _ _ _ _ _ _ _))) | ((with_reducible show wpAny _ _ (call (Value.ref _) _ _) _ _ _); (k_here; k_dflt (refine' bisect_left_spec ?zzB ?zzF ?zzX ?zzN ?zzT ?zzhk ?zzhdp ?zzhun ?zzhl ?zzhI ?zzhlen ?zzhS ?_; (case zzB => k_asm); (case zzF => k_asm); (case zzX => k_asm); (case zzN => k_asm); (case zzT => k_asm); (case zzhk => first | exact rfl | assumption); (case zzhl => exact list_at (by k_asm) (by tb_rel)); (case zzhI => assumption); (case zzhlen => first | assumption | lia); (case zzhS => tb_rel); (case zzhdp => ktr_room); (case zzhun => ktr_units); k_whole; intro _ _ _ _ _ _ _ _))) | ((with_reducible show wpAny _ _ (call (Value.ref _) _ _) _ _ _); (k_here; k_dflt (refine' bisect_left_spec4 ?zzB ?zzF ?zzX ?zzN ?zzT ?zzhk ?zzhdp ?zzhun ?zzhl ?zzhI ?zzhlen ?zzhS ?_; (case zzB => k_asm); (case zzF => k_asm); (case zzX => k_asm); (case zzN => k_asm); (case zzT => k_asm); (case zzhk => first | exact rfl | assumption); (case zzhl => exact list_at (by k_asm) (by tb_rel)); (case zzhI => assumption); (case zzhlen => first | assumption | lia); (case zzhS => tb_rel); (case zzhdp => ktr_room); (case zzhun => ktr_units); k_whole; intro _ _ _ _ _ _ _ _))) | ((with_reducible show wpAny _ _ (call (Value.builtin "list.insert") _ _) _ _ _); (k_here; k_dflt (refine' insert_ints ?zzF ?zzN ?zzne ?zzi ?zzz ?zza ?zzb ?_; (case zzF => k_asm); (case zzN => k_asm); (case zzne => assumption); (case zzi => assumption); (case zzz => assumption); (case zza => (simp only [InvL] at *; lia)); (case zzb => (simp only [InvL] at *; lia)); k_whole); intro _ _ _)) | walk1) | (leave1; try dsimp only) | fail "no step"))
  exact hQ _ _ _ (by assumption) (by assumption) (by assumption)
/-- what a row is after a number was put into it -/
noncomputable def PutTo (x : Int) (ns ns' : List Int) : Prop := ns'.Pairwise (· < ·) ∧ (∀ z, z ∈ ns' ↔ z ∈ ns ∨ z = x) ∧ ns'.length ≤ ns.length + 1
theorem put_same {x kl kr : Int} {ns : List Int} (hS : ns.Pairwise (· < ·)) (hl : InvL x ns kl kl) (hr : InvR x ns kr kr) (h : kl < kr) : PutTo x ns ns :=
  ⟨hS, fun z => ⟨.inl, fun q => q.elim id fun e => e ▸ put_mem hS hl hr h⟩, Nat.le_succ _⟩
theorem put_new {x kl kr k : Int} {ns : List Int} (hS : ns.Pairwise (· < ·)) (hl : InvL x ns kl kl) (hr : InvR x ns kr kr) (h : ¬ kl < kr) (hk : InvL x ns k k) : PutTo x ns (insAt ns k x) := by
  have hn := put_notin hS hl hr h
  exact ⟨ins_sorted hS hk hn, fun z => mem_ins, Nat.le_of_eq (ins_length (by have := hk.1; have := hk.2.2.1; lia))⟩

set_option maxHeartbeats 4000000 in
theorem law_put_spec {l : Addr} {vs : List Value} {ns : List Int} {n : Nat} {x : Int} {tx : Tok} {w : World} {mean : ExcName → Option Value} {mg mb : Str → Option Value} {dp un : Nat} {gd : Option (List Code)} {cn : Str} {cs : Scope} {a : Addr} {ccd : Value} {cl : List (Str × Addr)} {outer : List Env} {A₀ : Around} {base h₀ : Heap} {L : Addr} {m : Str → Option Value} {news : List (Addr × Obj)} {s : Shared} {Q E : Value → Shared → Prop}
   (B : Below A₀ base outer h₀) (F : Fr h₀ L s.heap m) (X : (Mine.hd.heap_39 w.params).In h₀) (N : News h₀ L s.heap ((l, listOf vs.toArray n) :: news)) (T : Top Mine.hd.view_39 lo mean mg mb h₀) (hk : cs.kind = .function) (hdp : dp + 20 < recursionLimit) (hun : un + 160 < cLine)
   (hne : ∀ p ∈ news, p.1 ≠ l) (hI : IntsAre vs ns) (hlen : ns.length ≤ 99) (hS : ns.Pairwise (· < ·))
   (hQ : ∀ vs' ns' n' h' tk', IntsAre vs' ns' → PutTo x ns ns' → Fr h₀ L h' m → News h₀ L h' ((l, listOf vs'.toArray n') :: news) → Q (.bool true) { s with heap := h', toks := tk' }) :
   wpAny (model rprog w) (ktrTop dp un gd cn cs L a ccd cl outer) (call (.ref 147) [.ref l, .int x tx]) Q E s := by
  refine wpAny_call ?_
  k_dflt (refine' code_def ?zzk1 ?zzk2 ?zzk3 ?zzk4 ?zzk5 ?zzkA ?zzkF ?zzkK ?zzk6 ?zzk7 ?zzk8 ?zzk9 ?zzkB ?_ ?zzc2 ?zzc3 ?zzc4 ?zzc5; (case zzkA => exact rfl); (case zzkF => exact rfl); (case zzkK => first | assumption | exact rfl); (case zzk1 => k_asm); (case zzk2 => k_asm); (case zzk3 => k_asm); (case zzk4 => k_asm); (case zzk5 => k_asm); (case zzk6 => k_is); (case zzk7 => k_is); (case zzk8 => ktr_room); (case zzk9 => first | exact BindsTo.of_eq rfl | exact binds_K (by k_in) rfl (by k_is) rfl rfl rfl | (refine' kp_binds ?zzkx ?zzke; (case zzkx => k_in); (case zzke => exact fun _ => rfl))); (case zzc5 => decide); (case zzkB => exact locs rfl); (case zzc2 => exact rfl); (case zzc3 => exact rfl); (case zzc4 => exact rfl); k_whole; intro _ _ _ _ _ _ B' _ _; (try dsimp only); (try k_lift B'); (try k_fold))
  w_strict (repeat' (first | (k_unfold; (try dsimp only)) | (k_end; wrow_close) | ((with_reducible show wpAny _ _ (call (Value.ref _) _ _) _ _ _); (k_here; k_dflt (refine' insort_left_spec ?zzB ?zzF ?zzX ?zzN ?zzT ?zzhk ?zzhdp ?zzhun ?zzhne ?zzhI ?zzhlen ?zzhS ?_; (case zzB => k_asm); (case zzF => k_asm); (case zzX => k_asm); (case zzN => k_asm); (case zzT => k_asm); (case zzhk => first | exact rfl | assumption); (case zzhne => assumption); (case zzhI => assumption); (case zzhlen => first | assumption | lia); (case zzhS => assumption); (case zzhdp => ktr_room); (case zzhun => ktr_units); k_whole; intro _ _ _ _ _ _))) | ((with_reducible show wpAny _ _ (call (Value.ref _) _ _) _ _ _); (k_here; k_dflt (refine' bisect_right_spec ?zzB ?zzF ?zzX ?zzN ?zzT ?zzhk ?zzhdp ?zzhun ?zzhl ?zzhI ?zzhlen ?zzhS ?_; (case zzB => k_asm); (case zzF => k_asm); (case zzX => k_asm); (case zzN => k_asm); (case zzT => k_asm); (case zzhk => first | exact rfl | assumption); (case zzhl => exact list_at (by k_asm) (by tb_rel)); (case zzhI => assumption); (case zzhlen => first | assumption | lia); (case zzhS => tb_rel); (case zzhdp => ktr_room); (case zzhun => ktr_units); k_whole; intro _ _ _ _ _ _ _ _))) | ((with_reducible show wpAny _ _ (call (Value.ref _) _ _) _ _ _); (k_here; k_dflt (refine' bisect_left_spec ?zzB ?zzF ?zzX ?zzN ?zzT ?zzhk ?zzhdp ?zzhun ?zzhl ?zzhI ?zzhlen ?zzhS ?_; (case zzB => k_asm); (case zzF => k_asm); (case zzX => k_asm); (case zzN => k_asm); (case zzT => k_asm); (case zzhk => first | exact rfl | assumption); (case zzhl => exact list_at (by k_asm) (by tb_rel)); (case zzhI => assumption); (case zzhlen => first | assumption | lia); (case zzhS => tb_rel); (case zzhdp => ktr_room); (case zzhun => ktr_units); k_whole; intro _ _ _ _ _ _ _ _))) | ((with_reducible show wpAny _ _ (call (Value.ref _) _ _) _ _ _); (k_here; k_dflt (refine' bisect_left_spec4 ?zzB ?zzF ?zzX ?zzN ?zzT ?zzhk ?zzhdp ?zzhun ?zzhl ?zzhI ?zzhlen ?zzhS ?_; (case zzB => k_asm); (case zzF => k_asm); (case zzX => k_asm); (case zzN => k_asm); (case zzT => k_asm); (case zzhk => first | exact rfl | assumption); (case zzhl => exact list_at (by k_asm) (by tb_rel)); (case zzhI => assumption); (case zzhlen => first | assumption | lia); (case zzhS => tb_rel); (case zzhdp => ktr_room); (case zzhun => ktr_units); k_whole; intro _ _ _ _ _ _ _ _))) | ((with_reducible show wpAny _ _ (call (Value.builtin "list.insert") _ _) _ _ _); (k_here; k_dflt (refine' insert_ints ?zzF ?zzN ?zzne ?zzi ?zzz ?zza ?zzb ?_; (case zzF => k_asm); (case zzN => k_asm); (case zzne => assumption); (case zzi => assumption); (case zzz => assumption); (case zza => (simp only [InvL] at *; lia)); (case zzb => (simp only [InvL] at *; lia)); k_whole); intro _ _ _)) | walk1 | (dsimp only; first | ((with_reducible show wpAny _ _ (call (Value.ref _) _ _) _ _ _); (k_here; k_dflt (refine' insort_left_spec ?zzB ?zzF ?zzX ?zzN ?zzT ?zzhk ?zzhdp ?zzhun ?zzhne ?zzhI ?zzhlen ?zzhS ?_; (case zzB => k_asm); (case zzF => k_asm); (case zzX => k_asm); (case zzN => k_asm); (case zzT => k_asm); (case zzhk => first | exact rfl | assumption); (case zzhne => assumption); (case zzhI => assumption); (case zzhlen => first | assumption | lia); (case zzhS => assumption); (case zzhdp => ktr_room); (case zzhun => ktr_units); k_whole; intro _ _ _ _ _ _))) | ((with_reducible show wpAny _ _ (call (Value.ref _) _ _) _ _ _); (k_here; k_dflt (refine' bisect_right_spec ?zzB ?zzF ?zzX ?zzN ?zzT ?zzhk ?zzhdp ?zzhun ?zzhl ?zzhI ?zzhlen ?zzhS ?_; (case zzB => k_asm); (case zzF => k_asm); (case zzX => k_asm); (case zzN => k_asm); (case zzT => k_asm); (case zzhk => first | exact rfl | assumption); (case zzhl => exact list_at (by k_asm) (by tb_rel)); (case zzhI => assumption); (case zzhlen => first | assumption | lia); (case zzhS => tb_rel); (case zzhdp => ktr_room); (case zzhun => ktr_units); k_whole; intro _ _ _ _ _ _ _ _))) | ((with_reducible show wpAny _ _ (call (Value.ref _) _ _) _ _ _); (k_here; k_dflt (refine' bisect_left_spec ?zzB ?zzF ?zzX ?zzN ?zzT ?zzhk ?zzhdp ?zzhun ?zzhl ?zzhI ?zzhlen ?zzhS ?_; (case zzB => k_asm); (case zzF => k_asm); (case zzX => k_asm); (case zzN => k_asm); (case zzT => k_asm); (case zzhk => first | exact rfl | assumption); (case zzhl => exact list_at (by k_asm) (by tb_rel)); (case zzhI => assumption); (case zzhlen => first | assumption | lia); (case zzhS => tb_rel); (case zzhdp => ktr_room); (case zzhun => ktr_units); k_whole; intro _ _ _ _ _ _ _ _))) | ((with_reducible show wpAny _ _ (call (Value.ref _) _ _) _ _ _); (k_here; k_dflt (refine' bisect_left_spec4 ?zzB ?zzF ?zzX ?zzN ?zzT ?zzhk ?zzhdp ?zzhun ?zzhl ?zzhI ?zzhlen ?zzhS ?_; (case zzB => k_asm); (case zzF => k_asm); (case zzX => k_asm); (case zzN => k_asm); (case zzT => k_asm); (case zzhk => first | exact rfl | assumption); (case zzhl => exact list_at (by k_asm) (by tb_rel)); (case zzhI => assumption); (case zzhlen => first | assumption | lia); (case zzhS => tb_rel); (case zzhdp => ktr_room); (case zzhun => ktr_units); k_whole; intro _ _ _ _ _ _ _ _))) | ((with_reducible show wpAny _ _ (call (Value.builtin "list.insert") _ _) _ _ _); (k_here; k_dflt (refine' insert_ints ?zzF ?zzN ?zzne ?zzi ?zzz ?zza ?zzb ?_; (case zzF => k_asm); (case zzN => k_asm); (case zzne => assumption); (case zzi => assumption); (case zzz => assumption); (case zza => (simp only [InvL] at *; lia)); (case zzb => (simp only [InvL] at *; lia)); k_whole); intro _ _ _)) | walk1) | (leave1; try dsimp only) | fail "no step"))
  · exact hQ _ _ _ _ _ hI (put_same hS (by assumption) (by assumption) (by assumption)) (by assumption) (by assumption)
  · rename_i k9 h9 tk9 hV9 F9 N9 kF9 kN9 T9 X9
    rename ¬ (_ : Int) < _ => hn9
    exact hQ _ _ _ _ _ (ints_ins hI hV9.1 hV9.2.2.1) (put_new hS (by assumption) (by assumption) hn9 hV9) kF9 kN9
end Mine
end
section
open PySem PySem.W PyProof.Rows PySem.Calls PySem.Spec
set_option maxRecDepth 100000
namespace Mine
local macro_rules | `(tactic| omega) => `(tactic| lia)

theorem invR_count {x k : Int} {ns : List Int} (h : InvR x ns k k) : k = ((ns.filter fun z => decide (z ≤ x)).length : Int) := by
  obtain ⟨a, b, c, d, e⟩ := h
  have s : ns = ns.take k.toNat ++ ns.drop k.toNat := (List.take_append_drop _ _).symm
  have h1 : (ns.take k.toNat).filter (fun z => decide (z ≤ x)) = ns.take k.toNat := by
    refine List.filter_eq_self.mpr fun z hz => ?_
    obtain ⟨i, hi, rfl⟩ := List.mem_iff_getElem.mp hz
    rw [List.length_take] at hi
    rw [List.getElem_take, ← getD_of_lt (by omega)]
    exact decide_eq_true (d i (by omega))
  have h2 : (ns.drop k.toNat).filter (fun z => decide (z ≤ x)) = [] := by
    refine List.filter_eq_nil_iff.mpr fun z hz => ?_
    obtain ⟨i, hi, rfl⟩ := List.mem_iff_getElem.mp hz
    rw [List.length_drop] at hi
    rw [List.getElem_drop, ← getD_of_lt (by omega)]
    have := e (k.toNat + i) (by omega) (by omega)
    simp only [decide_eq_true_eq]
    omega
  rw [s, List.filter_append, h1, h2, List.append_nil, List.length_take]
  omega
noncomputable abbrev row1 : List Int := [0, 1, 2, 3, 4, 5, 6, 7]
noncomputable abbrev row2 : List Int := [0, 0, 1, 3, 6, 10, 15, 21]
noncomputable abbrev row3 : List Int := [0, 0, 0, 1, 4, 10, 20, 35]
noncomputable def topsOf (x : Int) : List Int :=
  let a := ((row3.filter fun z => decide (z ≤ x)).length : Int) - 1
  let x1 := x - row3.getD a.toNat 0
  let b := ((row2.filter fun z => decide (z ≤ x1)).length : Int) - 1
  let x2 := x1 - row2.getD b.toNat 0
  let c := ((row1.filter fun z => decide (z ≤ x2)).length : Int) - 1
  [a, b, c]
theorem inv_idx {x k : Int} {ns : List Int} (h : InvR x ns k k) (hx : ns.getD 0 0 ≤ x) (hl : 0 < ns.length) : 0 ≤ k - 1 ∧ k - 1 < ns.length := by
  obtain ⟨a, b, c, d, e⟩ := h
  by_cases q : k ≤ 0
  · have := e 0 (by omega) hl
    omega
  · omega
theorem inv_sub {x k : Int} {ns : List Int} (h : InvR x ns k k) (hx : ns.getD 0 0 ≤ x) (hl : 0 < ns.length) : 0 ≤ x - ns.getD (k - 1).toNat 0 := by
  have q := inv_idx h hx hl
  have := h.2.2.2.1 (k - 1).toNat (by omega)
  omega
theorem ge0_1 {x : Int} (h : 0 ≤ x) : row1.getD 0 0 ≤ x := h
theorem ge0_2 {x : Int} (h : 0 ≤ x) : row2.getD 0 0 ≤ x := h
theorem ge0_3 {x : Int} (h : 0 ≤ x) : row3.getD 0 0 ≤ x := h
theorem sorted1 : row1.Pairwise (· ≤ ·) := by decide
theorem sorted2 : row2.Pairwise (· ≤ ·) := by decide
theorem sorted3 : row3.Pairwise (· ≤ ·) := by decide
/-- the four rows of ways, in a heap -/
structure Ways (h : Heap) (lw : Addr) : Prop where
  rows : ∃ l0 l1 l2 l3 v0 v1 v2 v3, h.IsList lw #[.ref l0, .ref l1, .ref l2, .ref l3] ∧ h.IsList l0 (List.toArray v0) ∧ h.IsList l1 (List.toArray v1) ∧ h.IsList l2 (List.toArray v2) ∧ h.IsList l3 (List.toArray v3) ∧ IntsAre v0 (List.replicate 8 1) ∧ IntsAre v1 row1 ∧ IntsAre v2 row2 ∧ IntsAre v3 row3
theorem Ways.kept {h h' : Heap} {lw : Addr} (W : Ways h lw) (K : ∀ b o, h.get? b = some o → h'.get? b = some o) : Ways h' lw := by
  obtain ⟨l0, l1, l2, l3, v0, v1, v2, v3, m, m0, m1, m2, m3, i⟩ := W.rows
  exact ⟨l0, l1, l2, l3, v0, v1, v2, v3, list_kept K m, list_kept K m0, list_kept K m1, list_kept K m2, list_kept K m3, i⟩
theorem tops_are {x a b c : Int} {ta tb tc : Tok} (h3 : InvR x row3 a a) (h2 : InvR (x - row3.getD (a - 1).toNat 0) row2 b b) (h1 : InvR (x - row3.getD (a - 1).toNat 0 - row2.getD (b - 1).toNat 0) row1 c c) :
    IntsAre [.int (a - 1) ta, .int (b - 1) tb, .int (c - 1) tc] (topsOf x) := by
  have e3 := invR_count h3
  have e2 := invR_count h2
  have e1 := invR_count h1
  rw [e2] at e1 ⊢
  rw [e3] at e2 e1 ⊢
  rw [e1]
  exact .cons _ _ (.cons _ _ (.cons _ _ .nil))
theorem News.push9 {h₀ h : Heap} {L : Addr} {p : Addr × Obj} {news : List (Addr × Obj)} (q : h.get? p.1 = some p.2 ∧ p.1 ≠ L ∧ h₀.get? p.1 = none) (N : News h₀ L h news) : News h₀ L h (p :: news) := fun r hr => by
  rcases List.mem_cons.mp hr with rfl | hr
  · exact q
  · exact N r hr
local macro_rules | `(tactic| k_mem) => `(tactic| assumption)
local macro_rules | `(tactic| k_all) => `(tactic| assumption)
local macro_rules | `(tactic| tb_start) => `(tactic| first | exact ge0_3 (by assumption) | exact ge0_2 (inv_sub (by assumption) (ge0_3 (by assumption)) (by decide)) | exact ge0_1 (inv_sub (by assumption) (ge0_2 (inv_sub (by assumption) (ge0_3 (by assumption)) (by decide))) (by decide)))
example (w : World) (h : Heap) : (Mine.hd.heap_39 w.params).In h → rprog = PySem.Challenge.rw_wy0014_01.prog → True := by
  k_fill
  intros; trivial

set_option maxHeartbeats 4000000 in
theorem law_tops_spec {lw : Addr} {x : Int} {tx : Tok} {w : World} {mean : ExcName → Option Value} {mg mb : Str → Option Value} {dp un : Nat} {gd : Option (List Code)} {cn : Str} {cs : Scope} {a : Addr} {ccd : Value} {cl : List (Str × Addr)} {outer : List Env} {A₀ : Around} {base h₀ : Heap} {L : Addr} {m : Str → Option Value} {news : List (Addr × Obj)} {s : Shared} {Q E : Value → Shared → Prop}
   (B : Below A₀ base outer h₀) (F : Fr h₀ L s.heap m) (X : (Mine.hd.heap_39 w.params).In h₀) (N : News h₀ L s.heap news) (T : Top Mine.hd.view_39 lo mean mg mb h₀) (hk : cs.kind = .function) (hdp : dp + 20 < recursionLimit) (hun : un + 160 < cLine)
   (hW : Ways s.heap lw) (h0 : 0 ≤ x)
   (hQ : ∀ lt vt nt h' tk', IntsAre vt (topsOf x) → Fr h₀ L h' m → News h₀ L h' ((lt, listOf (List.toArray vt) nt) :: news) → (∀ p ∈ news, p.1 ≠ lt) → (∀ b o, s.heap.get? b = some o → h'.get? b = some o) → Q (.ref lt) { s with heap := h', toks := tk' }) :
   wpAny (model rprog w) (ktrTop dp un gd cn cs L a ccd cl outer) (call (.ref 126) [.ref lw, .int x tx]) Q E s := by
  refine wpAny_call ?_
  k_dflt (refine' code_def0 ?zzk1 ?zzk2 ?zzk3 ?zzk5 ?zzkA ?zzkF ?zzkK ?zzk6 ?zzk7 ?zzk8 ?zzk9 ?zzkB ?_ ?zzc2 ?zzc3 ?zzc4 ?zzc5; (case zzkA => exact rfl); (case zzkF => exact rfl); (case zzkK => first | assumption | exact rfl); (case zzk1 => k_asm); (case zzk2 => k_asm); (case zzk3 => k_asm); (case zzk5 => k_asm); (case zzk6 => k_is); (case zzk7 => k_is); (case zzk8 => ktr_room); (case zzk9 => first | exact BindsTo.of_eq rfl | exact binds_K (by k_in) rfl (by k_is) rfl rfl rfl | (refine' kp_binds ?zzkx ?zzke; (case zzkx => k_in); (case zzke => exact fun _ => rfl))); (case zzc5 => decide); (case zzkB => exact locs rfl); (case zzc2 => exact rfl); (case zzc3 => exact rfl); (case zzc4 => exact rfl); k_whole; intro _ _ _ _ B' _ _; (try dsimp only); (try k_lift B'); (try k_fold))
  obtain ⟨l0, l1, l2, l3, v0, v1, v2, v3, m9, m0, m1, m2, m3, i0, i1, i2, i3⟩ := hW.rows
  w_strict (repeat' (first | (k_unfold; (try dsimp only)) | (k_end; wrow_close) | ((with_reducible show wpAny _ _ (subscriptTail _ _ _ _) _ _ _); (k_here; k_dflt (refine' item_any ?zzl ?zza ?zzz ?zzx ?_; (case zzl => exact list_base (by k_asm) (by assumption)); (case zza => decide); (case zzz => decide); (case zzx => rfl); k_whole))) | ((with_reducible show wpAny _ _ (subscriptTail _ _ _ _) _ _ _); (k_here; k_dflt (refine' item_ints ?zzl ?zzi ?zza ?zzb ?zzz ?_; (case zzl => exact list_base (by k_asm) (by assumption)); (case zzi => assumption); (case zza => exact (inv_idx (by assumption) (by tb_start) (by decide)).1); (case zzb => exact (inv_idx (by assumption) (by tb_start) (by decide)).2); (case zzz => decide); k_whole); intro _)) | ((with_reducible show wpAny _ _ (call (Value.ref _) _ _) _ _ _); (k_here; k_dflt (refine' bisect_right_spec ?zzB ?zzF ?zzX ?zzN ?zzT ?zzhk ?zzhdp ?zzhun ?zzhl ?zzhI ?zzhlen ?zzhS ?_; (case zzB => k_asm); (case zzF => k_asm); (case zzX => k_asm); (case zzN => k_asm); (case zzT => k_asm); (case zzhk => first | exact rfl | assumption); (case zzhl => exact list_base (by k_asm) (by assumption)); (case zzhI => assumption); (case zzhlen => first | assumption | decide | omega); (case zzhS => first | assumption | exact sorted1 | exact sorted2 | exact sorted3); (case zzhdp => ktr_room); (case zzhun => ktr_units); k_whole; intro _ _ _ _ _ _ _ _))) | walk1 | (dsimp only; first | ((with_reducible show wpAny _ _ (subscriptTail _ _ _ _) _ _ _); (k_here; k_dflt (refine' item_any ?zzl ?zza ?zzz ?zzx ?_; (case zzl => exact list_base (by k_asm) (by assumption)); (case zza => decide); (case zzz => decide); (case zzx => rfl); k_whole))) | ((with_reducible show wpAny _ _ (subscriptTail _ _ _ _) _ _ _); (k_here; k_dflt (refine' item_ints ?zzl ?zzi ?zza ?zzb ?zzz ?_; (case zzl => exact list_base (by k_asm) (by assumption)); (case zzi => assumption); (case zza => exact (inv_idx (by assumption) (by tb_start) (by decide)).1); (case zzb => exact (inv_idx (by assumption) (by tb_start) (by decide)).2); (case zzz => decide); k_whole); intro _)) | ((with_reducible show wpAny _ _ (call (Value.ref _) _ _) _ _ _); (k_here; k_dflt (refine' bisect_right_spec ?zzB ?zzF ?zzX ?zzN ?zzT ?zzhk ?zzhdp ?zzhun ?zzhl ?zzhI ?zzhlen ?zzhS ?_; (case zzB => k_asm); (case zzF => k_asm); (case zzX => k_asm); (case zzN => k_asm); (case zzT => k_asm); (case zzhk => first | exact rfl | assumption); (case zzhl => exact list_base (by k_asm) (by assumption)); (case zzhI => assumption); (case zzhlen => first | assumption | decide | omega); (case zzhS => first | assumption | exact sorted1 | exact sorted2 | exact sorted3); (case zzhdp => ktr_room); (case zzhun => ktr_units); k_whole; intro _ _ _ _ _ _ _ _))) | walk1) | (leave1; try dsimp only) | fail "no step"))
  rename_i kF9 kN9 T9 X9 K9
  rename InvR _ row3 _ _ => hv3
  rename InvR _ row2 _ _ => hv2
  rename InvR _ row1 _ _ => hv1
  rename News s.heap _ _ _ => N9
  have q9 := kN9 _ (.tail _ (.head _))
  have q8 := N9 _ (.tail _ (.head _))
  refine hQ _ _ _ _ _ (tops_are hv3 hv2 hv1) kF9 (News.push9 q9 (news_kept N K9)) (fun p hp e => ?_) K9
  rw [← e, (N p hp).1] at q8
  cases q8.2.2
end Mine
end
section
open PySem PySem.W PyProof.Rows PySem.Calls PySem.Spec
open PySem.Builtin PySem.Builtin.Str PySem.Builtin.BaseException
set_option maxRecDepth 100000
namespace Mine
section
variable {prog : Program} {w : World} {A : Around} {E : Value → Shared → Prop} {s : Shared} {K : Frag} {e t C : Addr} {x : Str} {tx : Tok} {news : List (Addr × Obj)} {h₀ : Heap} {L : Addr}
/-- the builtin's own tree, on such an exception -/
theorem bexcStr_own {cls : Value} {Q : Fin → Shared → Prop} (N : News h₀ L s.heap news) (G : Got news e t cls [.str x tx]) (h : Q (.done (.ret (.str x tx))) s) :
    wpAny (model prog w) A (Builtin.«BaseException.__str__» ⟨[.ref e], []⟩) Q E s := by
  obtain ⟨oe, ot, ws, nt, h1, h2, hc, hd, h0, htc, htd⟩ := G
  have hargs : ∀ {M : Model} {A' : Around} {E' : Value → Shared → Prop} {R : Value × List Value → Shared → Prop}, R (.ref t, [.str x tx]) s → wpAny M A' (bexcArgs (.ref e)) R E' s := by
    intro M A' E' R hq
    unfold bexcArgs
    exact wpAny_bind (wpAny_field (N _ h1).1 hd h0 (wpAny_bind (wpAny_seqItems (N _ h2).1 htd (wpAny_pure hq))))
  unfold Builtin.«BaseException.__str__»
  repeat (first | with_reducible refine hargs ?_ | wp_step)
  exact h
theorem callStr_own {Q : Value → Shared → Prop} (X : K.In s.heap) (N : News h₀ L s.heap news) (G : Got news e t (.ref C) [.str x tx])
    (hb : subIn K (.ref C) (.type "BaseException") = some true) (h : Q (.str x tx) s) : wpAny (model prog w) A (call (.builtin "BaseException.__str__") [.ref e]) Q E s := by
  have ty : Looks (model prog w) s.heap (typeOf (.ref e)) (.ref C) := by
    obtain ⟨oe, ot, ws, nt, h1, h2, hc, hd, h0, htc, htd⟩ := G
    rw [← hc]
    exact (Looks.ld (N _ h1).1).andThen .now
  have k3 : Looks (model prog w) s.heap (isInstance (.ref e) (.type "BaseException")) true := ty.andThen (looks_subIn X hb)
  have k1 : builtinKind "BaseException.__str__" = some .slot := by decide +kernel
  have k2 : splitId "BaseException.__str__" = some ("BaseException", "__str__") := by decide +kernel
  have k4 := PySem.F.args_bexc_str (.ref e)
  refine wpAny_call (codeAny_call_builtin PySem.F.excStr_Exception.str.plain PySem.F.entry_bexc_str ?_)
  have hh : ∀ {E : Value → Shared → Prop} {Q : Unit → Shared → Prop}, Q () s → wpAny (model prog w) A.in1 (checkBuiltinCall "BaseException.__str__" ⟨[.ref e], []⟩) Q E s := by
    intro E Q q
    exact @check_slot (model prog w) A.in1 E s "BaseException.__str__" "BaseException" "__str__" (.ref e) [] [] Q k1 k2 k3 k4 q
  exact hh (bexcStr_own (cls := .ref C) N G h)
/-- str of an exception of a class of the program's that has no __str__ of its own -/
theorem strOf_own {Q : Value → Shared → Prop} (hu : A.units < cLine) (X : K.In s.heap) (N : News h₀ L s.heap news) (G : Got news e t (.ref C) [.str x tx])
    (hs : findIn K (.ref C) "__str__" = some (some (.builtin "BaseException.__str__"))) (hb : subIn K (.ref C) (.type "BaseException") = some true)
    (h : Q (.str x tx) s) : wpAny (model prog w) A (PySem.Builtin.Str.strOf (.ref e)) Q E s := by
  have ty : Looks (model prog w) s.heap (typeOf (.ref e)) (.ref C) := by
    obtain ⟨oe, ot, ws, nt, h1, h2, hc, hd, h0, htc, htd⟩ := G
    rw [← hc]
    exact (Looks.ld (N _ h1).1).andThen .now
  unfold PySem.Builtin.Str.strOf
  rw [show isExactStr (.ref e) = false from rfl]
  refine wpAny_bind (m := cRoomFor _ _) (wpAny_cRoomFor hu ?_)
  refine wpAny_bind (m := callSpecial? (.ref e) (Str.ofString "__str__")) ?_
  refine wpAny_bind (wpAny_bind (ty.here ((looks_findIn X hs).here (wpAny_holding (wpAny_bind ?_)))))
  rw [PySem.F.excStr_Exception.str.bind]
  refine wpAny_pure (wpAny_bind ?_)
  show wpAny _ _ (call (.builtin "BaseException.__str__") [.ref e]) _ _ _
  exact callStr_own X N G hb (wpAny_pure (wpAny_pure h))
theorem str_own {Q : Value → Shared → Prop} (hu : A.in1.in1.units < cLine) (X : K.In s.heap) (N : News h₀ L s.heap news) (G : Got news e t (.ref C) [.str x tx])
    (hs : findIn K (.ref C) "__str__" = some (some (.builtin "BaseException.__str__"))) (hb : subIn K (.ref C) (.type "BaseException") = some true)
    (h : Q (.str x tx) s) : wpAny (model prog w) A (call (.type "str") [.ref e]) Q E s := by
  refine callType_codes (T := "str") (Bi := Builtin.«object.__init__») (Q₁ := fun r s₁ => ∃ y u, r = .str y u ∧ Q r s₁) PySem.F.called_str (PySem.F.typeCall_str_1 _) PySem.F.entry_object_init ?_ ?_
  · refine codeAny_of_tree ?_
    show wpAny _ A.in1.in1 (do checkBuiltinCall "str.__new__" ⟨[.type "str", .ref e], []⟩; again (.builtin "str.__new__" ⟨[.type "str", .ref e], []⟩)) _ _ s
    refine wpAny_bind (wpAny_of_eq (PySem.F.newCall_str_1 _) (wpAny_pure ⟨plainId_quiet (by decide +kernel) _, codeAny_builtin PySem.F.entry_str_new ?_⟩))
    rw [Around.under_plainId (by decide +kernel) _]
    rw [str_new_tree]
    refine wpAny_bind (wpAny_pure ?_)
    refine wpAny_bind (wpAny_of_eq isSubtype_str_str ?_)
    exact wpAny_bind (strOf_own (Q := fun r s₁ => wpAny _ _ _ _ _ s₁) hu X N G hs hb (wpAny_pure ⟨_, _, rfl, h⟩))
  · rintro obj s₁ ⟨y, u, rfl, hq⟩
    exact ⟨typeIs_str _ _ _, PySem.F.args_object_init_2 _ _, object_init_meets PySem.F.called_str.init.lookup PySem.F.called_str.made (by decide) prog w A.in1 _ s₁ ⟨typeIs_str _ _ _, rfl, hq⟩⟩
end
end Mine
end
section
open PySem PySem.W PyProof.Rows
open PySem.Builtin PySem.Builtin.Str PySem.StrLaws
set_option maxRecDepth 100000
namespace Mine
theorem occ_full (s sub : Str) (hi : Nat) : ∀ (l : List Nat) (st : Array Nat × Nat), st.1.size = 1 → (forIn l st (occBody s sub hi 1)).run.fst = st.1
  | [], st, _ => rfl
  | a :: l, st, h => by
    rw [List.forIn_cons]
    unfold occBody
    rw [if_neg (by rintro ⟨⟨⟨h1, _⟩, _⟩, _⟩; lia)]
    exact occ_full s sub hi l _ h
theorem occ1 (s sub : Str) (hi : Nat) : ∀ (n cur free : Nat), free ≤ cur → (forIn (List.range' cur n) ((#[] : Array Nat), free) (occBody s sub hi 1)).run.fst.toList = ((List.range' cur n).find? fun i => decide (i + sub.length ≤ hi) && subAt s sub i).toList
  | 0, cur, free, _ => rfl
  | n + 1, cur, free, hf => by
    rw [List.range'_succ, List.forIn_cons, List.find?_cons]
    unfold occBody
    by_cases hc : cur + sub.length ≤ hi ∧ subAt s sub cur = true
    · rw [if_pos ⟨⟨⟨by simp, hf⟩, hc.1⟩, hc.2⟩]
      have e : (decide (cur + sub.length ≤ hi) && subAt s sub cur) = true := by simp [hc.1, hc.2]
      rw [e]
      show (forIn (List.range' (cur + 1) n) ((#[] : Array Nat).push cur, cur + sub.length) (occBody s sub hi 1)).run.fst.toList = _
      rw [occ_full s sub hi _ _ (by simp)]
      rfl
    · rw [if_neg (fun h => hc ⟨h.1.2, h.2⟩)]
      have e : (decide (cur + sub.length ≤ hi) && subAt s sub cur) = false := by
        rw [Bool.and_eq_false_iff]
        by_cases h1 : cur + sub.length ≤ hi
        · right
          cases q : subAt s sub cur with
          | false => rfl
          | true => exact absurd ⟨h1, q⟩ hc
        · left; simp [h1]
      rw [e]
      exact occ1 s sub hi n (cur + 1) free (by lia)
theorem occ_one (x : Str) (c lo : Nat) : occurrences x ⟨#[c]⟩ lo x.length 1 = ((List.range' lo (x.length + 1 - lo)).find? fun i => decide (x.cps.toList[i]? = some c)).toList := by
  rw [occ_eq, occ1 x _ _ _ _ _ (Nat.le_refl _)]
  congr 2
  funext i
  rw [Bool.eq_iff_iff, Bool.and_eq_true, decide_eq_true_eq, decide_eq_true_eq]
  exact subAt_one x c i
theorem occ_some {x : Str} {c lo k : Nat} (h : x.cps.toList[k]? = some c) (hlo : lo ≤ k) (hn : ∀ j, lo ≤ j → j < k → x.cps.toList[j]? ≠ some c) : occurrences x ⟨#[c]⟩ lo x.length 1 = [k] := by
  rw [occ_one]
  have hk : k < x.length := by
    obtain ⟨hlt, _⟩ := List.getElem?_eq_some_iff.mp h
    simpa [Str.length] using hlt
  have : (List.range' lo (x.length + 1 - lo)).find? (fun i => decide (x.cps.toList[i]? = some c)) = some k := by
    rw [List.find?_range'_eq_some]
    refine ⟨by simpa using h, by simp [List.mem_range'_1]; lia, fun j h1 h2 => by simpa using hn j h1 h2⟩
  rw [this]; rfl
theorem occ_nil {x : Str} {c lo : Nat} (hn : ∀ j, lo ≤ j → x.cps.toList[j]? ≠ some c) : occurrences x ⟨#[c]⟩ lo x.length 1 = [] := by
  rw [occ_one]
  have : (List.range' lo (x.length + 1 - lo)).find? (fun i => decide (x.cps.toList[i]? = some c)) = none := by
    rw [List.find?_eq_none]
    intro j hj
    have := List.mem_range'_1.mp hj
    simpa using hn j this.1
  rw [this]; rfl
theorem occ_mem {x : Str} {c lo k : Nat} {r : List Nat} (h : occurrences x ⟨#[c]⟩ lo x.length 1 = k :: r) : lo ≤ k ∧ x.cps.toList[k]? = some c ∧ ∀ j, lo ≤ j → j < k → x.cps.toList[j]? ≠ some c := by
  rw [occ_one] at h
  cases q : (List.range' lo (x.length + 1 - lo)).find? (fun i => decide (x.cps.toList[i]? = some c)) with
  | none => rw [q] at h; cases h
  | some k' =>
    rw [q] at h
    obtain ⟨rfl, _⟩ : k' = k ∧ _ := by simpa using h
    rw [List.find?_range'_eq_some] at q
    obtain ⟨h1, h2, h3⟩ := q
    have := List.mem_range'_1.mp h2
    exact ⟨this.1, by simpa using h1, fun j a b => by simpa using h3 j a b⟩
/-- find of one sign -/
theorem find_some {x : Str} {c k : Nat} (h : x.cps.toList[k]? = some c) (hn : ∀ j, j < k → x.cps.toList[j]? ≠ some c) : Txt.find x ⟨#[c]⟩ = k := by
  unfold Txt.find
  rw [occ_some h (Nat.zero_le _) (fun j _ => hn j)]
theorem find_none {x : Str} {c : Nat} (hn : c ∉ x.cps.toList) : Txt.find x ⟨#[c]⟩ = -1 := by
  unfold Txt.find
  rw [occ_nil (fun j _ h => hn (List.mem_of_getElem? h))]
theorem find3_some {x : Str} {c lo k : Nat} (h : x.cps.toList[k]? = some c) (hlo : lo ≤ k) (hn : ∀ j, lo ≤ j → j < k → x.cps.toList[j]? ≠ some c) : Txt.find3 x ⟨#[c]⟩ lo = k := by
  unfold Txt.find3
  have e : fromIndex x.length (lo : Int) = lo := by unfold fromIndex; lia
  rw [e, occ_some h hlo hn]
theorem find3_none {x : Str} {c lo : Nat} (hn : ∀ j, lo ≤ j → x.cps.toList[j]? ≠ some c) : Txt.find3 x ⟨#[c]⟩ lo = -1 := by
  unfold Txt.find3
  have e : fromIndex x.length (lo : Int) = lo := by unfold fromIndex; lia
  rw [e, occ_nil hn]
theorem find3_one {x : Str} {c : Nat} {i : Int} (h : ¬ Txt.find3 x ⟨#[c]⟩ i < 0) (h0 : 0 ≤ i) : i ≤ Txt.find3 x ⟨#[c]⟩ i ∧ Txt.find3 x ⟨#[c]⟩ i < x.length := by
  have e : fromIndex x.length i = i.toNat := by unfold fromIndex; lia
  unfold Txt.find3 at h ⊢
  rw [e] at h ⊢
  cases q : occurrences x ⟨#[c]⟩ i.toNat x.length 1 with
  | nil => rw [q] at h; exact absurd (by decide) h
  | cons k r =>
    obtain ⟨h1, h2, _⟩ := occ_mem q
    obtain ⟨hlt, _⟩ := List.getElem?_eq_some_iff.mp h2
    have : k < x.length := by simpa [Str.length] using hlt
    constructor
    · show i ≤ (k : Int); lia
    · show (k : Int) < x.length; lia
theorem find3_at {x : Str} {i : Int} (h : ¬ Txt.find3 x (Str.ofString ")") i < 0) (h0 : 0 ≤ i) : i ≤ Txt.find3 x (Str.ofString ")") i ∧ Txt.find3 x (Str.ofString ")") i < x.length := find3_one (c := 41) h h0
/-- pieces without the sign, put together with it, are what split gives -/
theorem join_free {c : Nat} : ∀ {ps qs : List Str}, ps ≠ [] → qs ≠ [] → (∀ p ∈ ps, c ∉ p.cps.toList) → (∀ q ∈ qs, c ∉ q.cps.toList) → Str.join ⟨#[c]⟩ ps = Str.join ⟨#[c]⟩ qs → ps = qs := by
  have key : ∀ {a b u v : List Nat}, c ∉ a → c ∉ b → a ++ c :: u = b ++ c :: v → a = b ∧ u = v := by
    intro a
    induction a with
    | nil =>
      intro b u v _ hb e
      cases b with
      | nil => exact ⟨rfl, (List.cons.inj e).2⟩
      | cons y b => exact absurd (by rw [← (List.cons.inj e).1]; exact List.mem_cons_self) hb
    | cons z a ih =>
      intro b u v ha hb e
      cases b with
      | nil => exact absurd (by rw [(List.cons.inj e).1]; exact List.mem_cons_self) ha
      | cons y b =>
        obtain ⟨e1, e2⟩ := List.cons.inj e
        obtain ⟨r1, r2⟩ := ih (fun q => ha (List.mem_cons_of_mem _ q)) (fun q => hb (List.mem_cons_of_mem _ q)) e2
        exact ⟨by rw [e1, r1], r2⟩
  have cat : ∀ (p : Str) (ps : List Str), ps ≠ [] → (Str.join ⟨#[c]⟩ (p :: ps)).cps.toList = p.cps.toList ++ c :: (Str.join ⟨#[c]⟩ ps).cps.toList := by
    intro p ps h
    cases ps with
    | nil => exact absurd rfl h
    | cons p' r =>
      show (p ++ ⟨#[c]⟩ ++ Str.join ⟨#[c]⟩ (p' :: r)).cps.toList = _
      simp [Str.cps_append]
  have one : ∀ (p : Str), (Str.join ⟨#[c]⟩ [p]).cps.toList = p.cps.toList := fun p => rfl
  intro ps
  induction ps with
  | nil => intro qs h; exact absurd rfl h
  | cons p ps ih =>
    intro qs _ hq fp fq e
    cases qs with
    | nil => exact absurd rfl hq
    | cons q qs =>
      have e' := congrArg (fun z : Str => z.cps.toList) e
      have hp := fp p List.mem_cons_self
      have hq' := fq q List.mem_cons_self
      cases ps with
      | nil =>
        cases qs with
        | nil =>
          have : p = q := e
          rw [this]
        | cons q' r =>
          simp only [one, cat q (q' :: r) (by simp)] at e'
          exact absurd (by rw [e']; simp) hp
      | cons p' r =>
        cases qs with
        | nil =>
          simp only [one, cat p (p' :: r) (by simp)] at e'
          exact absurd (by rw [← e']; simp) hq'
        | cons q' r' =>
          simp only [cat p (p' :: r) (by simp), cat q (q' :: r') (by simp)] at e'
          obtain ⟨e1, e2⟩ := key hp hq' e'
          have e3 : p = q := Str.ext' (Array.toList_inj.mp e1)
          have e4 := ih (qs := q' :: r') (by simp) (by simp) (fun z hz => fp z (List.mem_cons_of_mem _ hz)) (fun z hz => fq z (List.mem_cons_of_mem _ hz)) (Str.ext' (Array.toList_inj.mp e2))
          rw [e3, e4]
theorem split_eq {x : Str} {c : Nat} {ps : List Str} (h0 : ps ≠ []) (hf : ∀ p ∈ ps, c ∉ p.cps.toList) (h : x = Str.join ⟨#[c]⟩ ps) : Txt.split x ⟨#[c]⟩ = ps := by
  refine join_free (c := c) (fun q => ?_) h0 (fun p hp => split_free x c p hp) hf ((join_split x ⟨#[c]⟩).trans h)
  have := PyProof.Rows.split_pos x ⟨#[c]⟩
  rw [q] at this
  exact absurd this (by decide)
end Mine
end
section
open PySem PySem.W PyProof.Rows PySem.Calls PySem.Spec
set_option maxRecDepth 100000
namespace Mine
local macro_rules | `(tactic| omega) => `(tactic| lia)
theorem news_keptL {h₀ h h' : Heap} {L : Addr} {news : List (Addr × Obj)} (N : News h₀ L h news) (K : ∀ b o, b ≠ L → h.get? b = some o → h'.get? b = some o) : News h₀ L h' news := fun p hp => ⟨K _ _ (N p hp).2.1 (N p hp).1, (N p hp).2⟩
theorem str_beq (x : Str) : (x == x) = true := by simp
theorem ne_false {x y : Str} (h : (x != y) = false) : x = y := by simpa using h
local macro_rules | `(tactic| k_mem) => `(tactic| assumption)
local macro_rules | `(tactic| k_all) => `(tactic| assumption)
example (w : World) (h : Heap) : (Mine.hd.heap_39 w.params).In h → rprog = PySem.Challenge.rw_wy0014_01.prog → True := by
  k_fill
  intros; trivial

set_option maxHeartbeats 4000000 in
theorem law_spoilt_spec {x : Str} {tx : Tok} {w : World} {mean : ExcName → Option Value} {mg mb : Str → Option Value} {dp un : Nat} {gd : Option (List Code)} {cn : Str} {cs : Scope} {a : Addr} {ccd : Value} {cl : List (Str × Addr)} {A₀ : Around} {base h₀ : Heap} {L : Addr} {m : Str → Option Value} {news : List (Addr × Obj)} {s : Shared} {Q E : Value → Shared → Prop}
   (B : Below A₀ base [] h₀) (F : Fr h₀ L s.heap m) (X : (Mine.hd.heap_39 w.params).In h₀) (N : News h₀ L s.heap news) (T : Top Mine.hd.view_39 lo mean mg mb h₀) (hk : cs.kind = .function) (XB : (Mine.hd.heap_39 w.params).In base) (TB : Top Mine.hd.view_39 lo mean mg mb base) (hdp : dp + 30 < recursionLimit) (hun : un + 400 < cLine)
   (hx : x.length ≤ 1000) (h29 : (Txt.slice x none (some 3) != Str.ofString "229") = false) (hD : ¬ Txt.find x (Str.ofString "(") < 0 → ¬ Txt.find3 x (Str.ofString ")") (Txt.find x (Str.ofString "(") + 1) < 0 → Txt.item x (Txt.find x (Str.ofString "(") + 1) = Txt.item x (Txt.find3 x (Str.ofString ")") (Txt.find x (Str.ofString "(") + 1) - 1) → (Txt.split (Txt.slice x (some (Txt.find x (Str.ofString "(") + 1)) (some (Txt.find3 x (Str.ofString ")") (Txt.find x (Str.ofString "(") + 1)))) (Txt.item x (Txt.find x (Str.ofString "(") + 1))).length ≠ 5)
   (hQ : ∀ h' tk', Fr h₀ L h' m → News h₀ L h' news → (∀ b o, b ≠ L → s.heap.get? b = some o → h'.get? b = some o) → Q (.bool true) { s with heap := h', toks := tk' }) :
   wpAny (model rprog w) (ktrTop dp un gd cn cs L a ccd cl []) (call (.ref 154) [.str x tx]) Q E s := by
  refine wpAny_call ?_
  k_dflt (refine' code_defS1 ?zzk1 ?zzk2 ?zzk3 ?zzk5 ?zzkA ?zzkF ?zzkK ?zzk6 ?zzk7 ?zzk8 ?zzk9 ?zzkB ?_ ?zzc2 ?zzc3 ?zzc4 ?zzc5; (case zzkA => exact rfl); (case zzkF => exact rfl); (case zzkK => first | assumption | exact rfl); (case zzk1 => k_asm); (case zzk2 => k_asm); (case zzk3 => k_asm); (case zzk5 => k_asm); (case zzk6 => k_is); (case zzk7 => k_is); (case zzk8 => ktr_room); (case zzk9 => first | exact BindsTo.of_eq rfl | exact binds_K (by k_in) rfl (by k_is) rfl rfl rfl | (refine' kp_binds ?zzkx ?zzke; (case zzkx => k_in); (case zzke => exact fun _ => rfl))); (case zzc5 => decide); (case zzkB => exact locs rfl); (case zzc2 => exact rfl); (case zzc3 => exact rfl); (case zzc4 => exact rfl); k_whole; intro _ _ _ _ B' _ _ _; (try dsimp only); (try k_lift B'); (try k_fold))
  w_strict (repeat' (first | (k_unfold; (try dsimp only)) | (k_end; wrow_close) | ((with_reducible show wpAny _ _ (subscriptTail _ _ _ _) _ _ _); (k_here; k_dflt (refine' KXi.item ?zzk ?zza ?zzb ?zzc ?_; (case zzk => exact rfl); (case zza => (have q1 := find3_at (by assumption) (by lia)); lia); (case zzb => (have q1 := find3_at (by assumption) (by lia)); lia); (case zzc => lia); k_whole); intro _)) | ((with_reducible show wpAny _ _ (call (Value.type "str") _ _) _ _ _); (k_here; k_dflt (refine' str_own ?zzu ?zzX ?zzN ?zzG ?zzs ?zzb ?_; (case zzG => assumption); (case zzN => assumption); (case zzX => k_in); (case zzu => first | ktr_units | k_units); (case zzs => k_is); (case zzb => k_is); k_whole))) | ((with_reducible show wpAny _ _ (call (Value.ref _) _ _) _ _ _); (k_here; k_dflt (refine wpAny_call ?_; (refine' code_def ?zzk1 ?zzk2 ?zzk3 ?zzk4 ?zzk5 ?zzkA ?zzkF ?zzkK ?zzk6 ?zzk7 ?zzk8 ?zzk9 ?zzkB ?_ ?zzc2 ?zzc3 ?zzc4 ?zzc5; (case zzkA => exact rfl); (case zzkF => exact rfl); (case zzkK => first | assumption | exact rfl); (case zzk1 => k_asm); (case zzk2 => k_asm); (case zzk3 => k_asm); (case zzk4 => k_asm); (case zzk5 => k_asm); (case zzk6 => k_is); (case zzk7 => k_is); (case zzk8 => ktr_room); (case zzk9 => first | exact BindsTo.of_eq rfl | exact binds_K (by k_in) rfl (by k_is) rfl rfl rfl | (refine' kp_binds ?zzkx ?zzke; (case zzkx => k_in); (case zzke => exact fun _ => rfl))); (case zzc5 => decide); (case zzkB => exact locs rfl); (case zzc2 => exact rfl); (case zzc3 => exact rfl); (case zzc4 => exact rfl); k_whole; intro _ _ _ _ _ _ B' _ _; (try dsimp only); (try k_lift B'); (try k_fold))))) | walk1 | (dsimp only; first | ((with_reducible show wpAny _ _ (subscriptTail _ _ _ _) _ _ _); (k_here; k_dflt (refine' KXi.item ?zzk ?zza ?zzb ?zzc ?_; (case zzk => exact rfl); (case zza => (have q1 := find3_at (by assumption) (by lia)); lia); (case zzb => (have q1 := find3_at (by assumption) (by lia)); lia); (case zzc => lia); k_whole); intro _)) | ((with_reducible show wpAny _ _ (call (Value.type "str") _ _) _ _ _); (k_here; k_dflt (refine' str_own ?zzu ?zzX ?zzN ?zzG ?zzs ?zzb ?_; (case zzG => assumption); (case zzN => assumption); (case zzX => k_in); (case zzu => first | ktr_units | k_units); (case zzs => k_is); (case zzb => k_is); k_whole))) | ((with_reducible show wpAny _ _ (call (Value.ref _) _ _) _ _ _); (k_here; k_dflt (refine wpAny_call ?_; (refine' code_def ?zzk1 ?zzk2 ?zzk3 ?zzk4 ?zzk5 ?zzkA ?zzkF ?zzkK ?zzk6 ?zzk7 ?zzk8 ?zzk9 ?zzkB ?_ ?zzc2 ?zzc3 ?zzc4 ?zzc5; (case zzkA => exact rfl); (case zzkF => exact rfl); (case zzkK => first | assumption | exact rfl); (case zzk1 => k_asm); (case zzk2 => k_asm); (case zzk3 => k_asm); (case zzk4 => k_asm); (case zzk5 => k_asm); (case zzk6 => k_is); (case zzk7 => k_is); (case zzk8 => ktr_room); (case zzk9 => first | exact BindsTo.of_eq rfl | exact binds_K (by k_in) rfl (by k_is) rfl rfl rfl | (refine' kp_binds ?zzkx ?zzke; (case zzkx => k_in); (case zzke => exact fun _ => rfl))); (case zzc5 => decide); (case zzkB => exact locs rfl); (case zzc2 => exact rfl); (case zzc3 => exact rfl); (case zzc4 => exact rfl); k_whole; intro _ _ _ _ _ _ B' _ _; (try dsimp only); (try k_lift B'); (try k_fold))))) | walk1) | (leave1; try dsimp only) | fail "no step"))
  all_goals first
    | (rw [str_beq]; exact hQ _ _ (by assumption) (news_keptL N (by assumption)) (by assumption))
    | skip
  exfalso
  rename (_ != _) = false => e9
  rename List.map _ _ = Txt.split _ _ => e8
  rename (_ : Int) = 5 => e7
  refine hD (by assumption) (by assumption) (ne_false e9) ?_
  rw [← e8, List.length_map]
  lia

set_option maxHeartbeats 4000000 in
theorem law_foreign_spec {x : Str} {tx : Tok} {w : World} {mean : ExcName → Option Value} {mg mb : Str → Option Value} {dp un : Nat} {gd : Option (List Code)} {cn : Str} {cs : Scope} {a : Addr} {ccd : Value} {cl : List (Str × Addr)} {A₀ : Around} {base h₀ : Heap} {L : Addr} {m : Str → Option Value} {news : List (Addr × Obj)} {s : Shared} {Q E : Value → Shared → Prop}
   (B : Below A₀ base [] h₀) (F : Fr h₀ L s.heap m) (X : (Mine.hd.heap_39 w.params).In h₀) (N : News h₀ L s.heap news) (T : Top Mine.hd.view_39 lo mean mg mb h₀) (hk : cs.kind = .function) (XB : (Mine.hd.heap_39 w.params).In base) (TB : Top Mine.hd.view_39 lo mean mg mb base) (hdp : dp + 30 < recursionLimit) (hun : un + 400 < cLine)
   (hx : x.length ≤ 1000) (h29 : (Txt.slice x none (some 3) != Str.ofString "229") = true) 
   (hQ : ∀ h' tk', Fr h₀ L h' m → News h₀ L h' news → (∀ b o, b ≠ L → s.heap.get? b = some o → h'.get? b = some o) → Q (.bool true) { s with heap := h', toks := tk' }) :
   wpAny (model rprog w) (ktrTop dp un gd cn cs L a ccd cl []) (call (.ref 161) [.str x tx]) Q E s := by
  refine wpAny_call ?_
  k_dflt (refine' code_defS1 ?zzk1 ?zzk2 ?zzk3 ?zzk5 ?zzkA ?zzkF ?zzkK ?zzk6 ?zzk7 ?zzk8 ?zzk9 ?zzkB ?_ ?zzc2 ?zzc3 ?zzc4 ?zzc5; (case zzkA => exact rfl); (case zzkF => exact rfl); (case zzkK => first | assumption | exact rfl); (case zzk1 => k_asm); (case zzk2 => k_asm); (case zzk3 => k_asm); (case zzk5 => k_asm); (case zzk6 => k_is); (case zzk7 => k_is); (case zzk8 => ktr_room); (case zzk9 => first | exact BindsTo.of_eq rfl | exact binds_K (by k_in) rfl (by k_is) rfl rfl rfl | (refine' kp_binds ?zzkx ?zzke; (case zzkx => k_in); (case zzke => exact fun _ => rfl))); (case zzc5 => decide); (case zzkB => exact locs rfl); (case zzc2 => exact rfl); (case zzc3 => exact rfl); (case zzc4 => exact rfl); k_whole; intro _ _ _ _ B' _ _ _; (try dsimp only); (try k_lift B'); (try k_fold))
  w_strict (repeat' (first | (k_unfold; (try dsimp only)) | (k_end; wrow_close) | ((with_reducible show wpAny _ _ (subscriptTail _ _ _ _) _ _ _); (k_here; k_dflt (refine' KXi.item ?zzk ?zza ?zzb ?zzc ?_; (case zzk => exact rfl); (case zza => (have q1 := find3_at (by assumption) (by lia)); lia); (case zzb => (have q1 := find3_at (by assumption) (by lia)); lia); (case zzc => lia); k_whole); intro _)) | ((with_reducible show wpAny _ _ (call (Value.type "str") _ _) _ _ _); (k_here; k_dflt (refine' str_own ?zzu ?zzX ?zzN ?zzG ?zzs ?zzb ?_; (case zzG => assumption); (case zzN => assumption); (case zzX => k_in); (case zzu => first | ktr_units | k_units); (case zzs => k_is); (case zzb => k_is); k_whole))) | ((with_reducible show wpAny _ _ (call (Value.ref _) _ _) _ _ _); (k_here; k_dflt (refine wpAny_call ?_; (refine' code_def ?zzk1 ?zzk2 ?zzk3 ?zzk4 ?zzk5 ?zzkA ?zzkF ?zzkK ?zzk6 ?zzk7 ?zzk8 ?zzk9 ?zzkB ?_ ?zzc2 ?zzc3 ?zzc4 ?zzc5; (case zzkA => exact rfl); (case zzkF => exact rfl); (case zzkK => first | assumption | exact rfl); (case zzk1 => k_asm); (case zzk2 => k_asm); (case zzk3 => k_asm); (case zzk4 => k_asm); (case zzk5 => k_asm); (case zzk6 => k_is); (case zzk7 => k_is); (case zzk8 => ktr_room); (case zzk9 => first | exact BindsTo.of_eq rfl | exact binds_K (by k_in) rfl (by k_is) rfl rfl rfl | (refine' kp_binds ?zzkx ?zzke; (case zzkx => k_in); (case zzke => exact fun _ => rfl))); (case zzc5 => decide); (case zzkB => exact locs rfl); (case zzc2 => exact rfl); (case zzc3 => exact rfl); (case zzc4 => exact rfl); k_whole; intro _ _ _ _ _ _ B' _ _; (try dsimp only); (try k_lift B'); (try k_fold))))) | walk1 | (dsimp only; first | ((with_reducible show wpAny _ _ (subscriptTail _ _ _ _) _ _ _); (k_here; k_dflt (refine' KXi.item ?zzk ?zza ?zzb ?zzc ?_; (case zzk => exact rfl); (case zza => (have q1 := find3_at (by assumption) (by lia)); lia); (case zzb => (have q1 := find3_at (by assumption) (by lia)); lia); (case zzc => lia); k_whole); intro _)) | ((with_reducible show wpAny _ _ (call (Value.type "str") _ _) _ _ _); (k_here; k_dflt (refine' str_own ?zzu ?zzX ?zzN ?zzG ?zzs ?zzb ?_; (case zzG => assumption); (case zzN => assumption); (case zzX => k_in); (case zzu => first | ktr_units | k_units); (case zzs => k_is); (case zzb => k_is); k_whole))) | ((with_reducible show wpAny _ _ (call (Value.ref _) _ _) _ _ _); (k_here; k_dflt (refine wpAny_call ?_; (refine' code_def ?zzk1 ?zzk2 ?zzk3 ?zzk4 ?zzk5 ?zzkA ?zzkF ?zzkK ?zzk6 ?zzk7 ?zzk8 ?zzk9 ?zzkB ?_ ?zzc2 ?zzc3 ?zzc4 ?zzc5; (case zzkA => exact rfl); (case zzkF => exact rfl); (case zzkK => first | assumption | exact rfl); (case zzk1 => k_asm); (case zzk2 => k_asm); (case zzk3 => k_asm); (case zzk4 => k_asm); (case zzk5 => k_asm); (case zzk6 => k_is); (case zzk7 => k_is); (case zzk8 => ktr_room); (case zzk9 => first | exact BindsTo.of_eq rfl | exact binds_K (by k_in) rfl (by k_is) rfl rfl rfl | (refine' kp_binds ?zzkx ?zzke; (case zzkx => k_in); (case zzke => exact fun _ => rfl))); (case zzc5 => decide); (case zzkB => exact locs rfl); (case zzc2 => exact rfl); (case zzc3 => exact rfl); (case zzc4 => exact rfl); k_whole; intro _ _ _ _ _ _ B' _ _; (try dsimp only); (try k_lift B'); (try k_fold))))) | walk1) | (leave1; try dsimp only) | fail "no step"))
  all_goals first
    | (rw [str_beq]; exact hQ _ _ (by assumption) (news_keptL N (by assumption)) (by assumption))
    | skip

end Mine
end
section
open PySem PySem.W PyProof.Rows PySem.Calls PySem.Spec
set_option maxRecDepth 100000
namespace Mine
local macro_rules | `(tactic| omega) => `(tactic| lia)
section
variable {prog : Program} {w : World} {A : Around} {E : Value → Shared → Prop} {s : Shared} {h₀ : Heap} {L : Addr} {m : Str → Option Value} {news : List (Addr × Obj)}
theorem tup_at {l : Addr} {its : Array Value} {n : Nat} (N : News h₀ L s.heap news) (hl : (l, ({ cls := .type "tuple", data := .seq its n } : Obj)) ∈ news) : IsTup s.heap l its := ⟨_, (N _ hl).1, rfl, _, rfl⟩
theorem tup_base {l : Addr} {its : Array Value} {h : Heap} (F : Fr h₀ L h m) (hl : IsTup h₀ l its) : IsTup h l its := by
  obtain ⟨o, e, r⟩ := hl
  exact ⟨o, F.keep _ _ e, r⟩
theorem item_tupA {value slice : PySem.Expr} {l : Addr} {its : Array Value} {k : Int} {u : Tok} {x : Value} {Q : Value → Shared → Prop} (ht : IsTup s.heap l its) (h0 : 0 ≤ k) (hfit : k < 2 ^ 63) (hx : its[k.toNat]? = some x) (h : Q x s)
    (hs : subscripted slice false (.ref l) (.int k u) = operate [.ref l, .int k u] (getItem (.ref l) (.int k u)) := by with_unfolding_all rfl) :
    wpAny (model prog w) A (subscriptTail value slice (.ref l) (.int k u)) Q E s := by
  have hn : k < (its.size : Int) := by
    obtain ⟨q, _⟩ := Array.getElem?_eq_some_iff.mp hx
    lia
  exact tail_any ht.typeIs slot_tuple_getitem.lookup (getItem_tuple ht (by lia) hfit (seqIndex_of h0 hn) hx h) hs
theorem int_part {l : List (Str × Tok)} {ps qs : List Str} {i : Nat} {y q : Str} {t : Tok} {n : Int} {Q : Value → Shared → Prop} (h : l.map (·.1) = ps) (e : ps = qs) (hy : (l.map (·.1))[i]? = some y) (hq : qs[i]? = some q)
    (hn : PySem.intText? q = some n) (hl : q.length ≤ 640) (hQ : Q (.int n s.toks) { s with toks := s.toks + 1 }) : wpAny (model prog w) A (call (.type "int") [.str y t]) Q E s := by
  rw [h, e, hq] at hy
  cases hy
  exact KIN.call_text hn hl hQ
end
theorem strs_len {l : List (Str × Tok)} {ps qs : List Str} (h : l.map (·.1) = ps) (e : ps = qs) : l.length = qs.length := by
  rw [← e, ← h, List.length_map]
local macro_rules | `(tactic| k_mem) => `(tactic| assumption)
local macro_rules | `(tactic| k_all) => `(tactic| assumption)
example (w : World) (h : Heap) : (Mine.hd.heap_39 w.params).In h → rprog = PySem.Challenge.rw_wy0014_01.prog → True := by
  k_fill
  intros; trivial

set_option maxHeartbeats 4000000 in
theorem parse229_spec {x : Str} {tx : Tok} {w : World} {mean : ExcName → Option Value} {mg mb : Str → Option Value} {dp un : Nat} {gd : Option (List Code)} {cn : Str} {cs : Scope} {a : Addr} {ccd : Value} {cl : List (Str × Addr)} {outer : List Env} {A₀ : Around} {base h₀ : Heap} {L : Addr} {m : Str → Option Value} {news : List (Addr × Obj)} {s : Shared} {Q E : Value → Shared → Prop}
   (B : Below A₀ base outer h₀) (F : Fr h₀ L s.heap m) (X : (Mine.hd.heap_39 w.params).In h₀) (N : News h₀ L s.heap news) (T : Top Mine.hd.view_39 lo mean mg mb h₀) (hk : cs.kind = .function) (hdp : dp + 30 < recursionLimit) (hun : un + 400 < cLine)
   {p : Addr} {hv v21 : Value} {p0 p1 p2 p3 p4 : Str} {n : Int} (hp : IsTup s.heap p #[hv, v21]) (hx : x.length ≤ 1000) (h29 : (Txt.slice x none (some 3) != Str.ofString "229") = false) (hf : ¬ Txt.find x (Str.ofString "(") < 0) (hf3 : ¬ Txt.find3 x (Str.ofString ")") (Txt.find x (Str.ofString "(") + 1) < 0) (hit : (Txt.item x (Txt.find x (Str.ofString "(") + 1) != Txt.item x (Txt.find3 x (Str.ofString ")") (Txt.find x (Str.ofString "(") + 1) - 1)) = false)
   (hsp : Txt.split (Txt.slice x (some (Txt.find x (Str.ofString "(") + 1)) (some (Txt.find3 x (Str.ofString ")") (Txt.find x (Str.ofString "(") + 1)))) (Txt.item x (Txt.find x (Str.ofString "(") + 1)) = [p0, p1, p2, p3, p4]) (hin : PySem.intText? p3 = some n) (hin2 : p3.length ≤ 640)
   (hQ : ∀ q tn h' tk', Fr h₀ L h' m → News h₀ L h' ((q, ({ cls := .type "tuple", data := .seq #[hv, .int n tn] } : Obj)) :: news) → (∀ p ∈ news, p.1 ≠ q) → (∀ b o, s.heap.get? b = some o → h'.get? b = some o) → Q (.ref q) { s with heap := h', toks := tk' }) :
   wpAny (model rprog w) (ktrTop dp un gd cn cs L a ccd cl outer) (call (.ref 114) [.str x tx, .ref p]) Q E s := by
  refine wpAny_call ?_
  k_dflt (refine' code_def0 ?zzk1 ?zzk2 ?zzk3 ?zzk5 ?zzkA ?zzkF ?zzkK ?zzk6 ?zzk7 ?zzk8 ?zzk9 ?zzkB ?_ ?zzc2 ?zzc3 ?zzc4 ?zzc5; (case zzkA => exact rfl); (case zzkF => exact rfl); (case zzkK => first | assumption | exact rfl); (case zzk1 => k_asm); (case zzk2 => k_asm); (case zzk3 => k_asm); (case zzk5 => k_asm); (case zzk6 => k_is); (case zzk7 => k_is); (case zzk8 => ktr_room); (case zzk9 => first | exact BindsTo.of_eq rfl | exact binds_K (by k_in) rfl (by k_is) rfl rfl rfl | (refine' kp_binds ?zzkx ?zzke; (case zzkx => k_in); (case zzke => exact fun _ => rfl))); (case zzc5 => decide); (case zzkB => exact locs rfl); (case zzc2 => exact rfl); (case zzc3 => exact rfl); (case zzc4 => exact rfl); k_whole; intro _ _ _ _ B' _ _; (try dsimp only); (try k_lift B'); (try k_fold))
  w_strict (repeat' (first | (k_unfold; (try dsimp only)) | (k_end; wrow_close) | ((with_reducible show wpAny _ _ (call (Value.type "int") _ _) _ _ _); (k_here; k_dflt (refine' int_part ?zzh ?zze ?zzy ?zzq ?zza ?zzb ?_; (case zzh => assumption); (case zze => assumption); (case zzy => assumption); (case zzq => rfl); (case zza => assumption); (case zzb => assumption); k_whole))) | ((with_reducible show wpAny _ _ (subscriptTail _ _ _ _) _ _ _); (k_here; k_dflt (refine' item_tupA ?zzl ?zza ?zzb ?zzc ?_; (case zzl => exact tup_base (by k_asm) (by assumption)); (case zza => decide); (case zzb => decide); (case zzc => rfl); k_whole))) | ((with_reducible show wpAny _ _ (subscriptTail _ _ _ _) _ _ _); (k_here; k_dflt (refine' KXi.item ?zzk ?zza ?zzb ?zzc ?_; (case zzk => exact rfl); (case zza => (have q1 := find3_at (by assumption) (by lia)); lia); (case zzb => (have q1 := find3_at (by assumption) (by lia)); lia); (case zzc => lia); k_whole); intro _)) | ((with_reducible show wpAny _ _ (call (Value.type "str") _ _) _ _ _); (k_here; k_dflt (refine' str_own ?zzu ?zzX ?zzN ?zzG ?zzs ?zzb ?_; (case zzG => assumption); (case zzN => assumption); (case zzX => k_in); (case zzu => first | ktr_units | k_units); (case zzs => k_is); (case zzb => k_is); k_whole))) | ((with_reducible show wpAny _ _ (call (Value.ref _) _ _) _ _ _); (k_here; k_dflt (fail))) | walk1 | (dsimp only; first | ((with_reducible show wpAny _ _ (call (Value.type "int") _ _) _ _ _); (k_here; k_dflt (refine' int_part ?zzh ?zze ?zzy ?zzq ?zza ?zzb ?_; (case zzh => assumption); (case zze => assumption); (case zzy => assumption); (case zzq => rfl); (case zza => assumption); (case zzb => assumption); k_whole))) | ((with_reducible show wpAny _ _ (subscriptTail _ _ _ _) _ _ _); (k_here; k_dflt (refine' item_tupA ?zzl ?zza ?zzb ?zzc ?_; (case zzl => exact tup_base (by k_asm) (by assumption)); (case zza => decide); (case zzb => decide); (case zzc => rfl); k_whole))) | ((with_reducible show wpAny _ _ (subscriptTail _ _ _ _) _ _ _); (k_here; k_dflt (refine' KXi.item ?zzk ?zza ?zzb ?zzc ?_; (case zzk => exact rfl); (case zza => (have q1 := find3_at (by assumption) (by lia)); lia); (case zzb => (have q1 := find3_at (by assumption) (by lia)); lia); (case zzc => lia); k_whole); intro _)) | ((with_reducible show wpAny _ _ (call (Value.type "str") _ _) _ _ _); (k_here; k_dflt (refine' str_own ?zzu ?zzX ?zzN ?zzG ?zzs ?zzb ?_; (case zzG => assumption); (case zzN => assumption); (case zzX => k_in); (case zzu => first | ktr_units | k_units); (case zzs => k_is); (case zzb => k_is); k_whole))) | ((with_reducible show wpAny _ _ (call (Value.ref _) _ _) _ _ _); (k_here; k_dflt (fail))) | walk1) | (leave1; try dsimp only) | fail "no step"))
  all_goals first
    | (exfalso; (rename List.map _ _ = Txt.split _ _ => e8); (rename (_ : Int) ≠ 5 => e7); (have e6 := strs_len e8 hsp); simp only [List.length_cons, List.length_nil] at e6; lia)
    | skip
  rename_i kF9 kN9 T9 X9 K9
  rename News s.heap _ _ _ => N9
  have q9 := kN9 _ (.head _)
  have q8 := N9 _ (.head _)
  refine hQ _ _ _ _ kF9 (News.push9 q9 (news_kept N K9)) (fun p hp e => ?_) K9
  rw [← e, (N p hp).1] at q8
  cases q8.2.2
end Mine
end
section
open PySem PySem.Sre
set_option maxRecDepth 100000
namespace Mine.Re
noncomputable def fc : Array Nat := #[14, 4, 0, 8, 4294967295, 24, 5, 0, 4294967295, 2, 1, 16, 70, 16, 76, 16, 65, 16, 71, 16, 83, 16, 32, 16, 40, 17, 0, 24, 6, 0, 4294967295, 20, 41, 1, 17, 1, 16, 41, 1]
noncomputable def steps : Nat → M → M
  | 0, m => m
  | n + 1, m => steps n m.step
theorem steps_add : ∀ (a b : Nat) (m : M), steps (a + b) m = steps b (steps a m)
  | 0, b, m => by rw [Nat.zero_add]; rfl
  | a + 1, b, m => by rw [Nat.succ_add]; exact steps_add a b m.step
noncomputable def Rch (b : Nat) (m : M) (P : M → Prop) : Prop := ∃ n, n ≤ b ∧ P (steps n m)
theorem Rch.here {m : M} {P : M → Prop} (h : P m) : Rch 0 m P := ⟨0, Nat.le_refl _, h⟩
theorem Rch.one {m : M} {P : M → Prop} (h : P m.step) : Rch 1 m P := ⟨1, Nat.le_refl _, h⟩
theorem Rch.then {a b : Nat} {m : M} {P Q : M → Prop} (h : Rch a m P) (k : ∀ m', P m' → Rch b m' Q) : Rch (a + b) m Q := by
  obtain ⟨n, hn, hp⟩ := h
  obtain ⟨n', hn', hq⟩ := k _ hp
  exact ⟨n + n', by lia, by rw [steps_add]; exact hq⟩
theorem Rch.le {a b : Nat} {m : M} {P : M → Prop} (h : Rch a m P) (hab : a ≤ b) : Rch b m P := by
  obtain ⟨n, hn, hp⟩ := h
  exact ⟨n, by lia, hp⟩
theorem Rch.step {b : Nat} {m : M} {P : M → Prop} (h : Rch b m.step P) : Rch (b + 1) m P := by
  obtain ⟨n, hn, hp⟩ := h
  exact ⟨n + 1, by lia, hp⟩

/-- the machine at one place of this pattern -/
noncomputable def at_ (t : Array Nat) (pc pos handed : Nat) (marks : Array (Option Nat)) (lm li : Int) (frames : List Sre.Frame) (weight : Nat) (answer : Option Bool) (seen : Seen) : M :=
  { code := fc, text := t, lim := t.size, start := 0, pc, pos, handed, marks, lastmark := lm, lastindex := li, frames, weight, answer, seen }
noncomputable def f1 (k : Nat) : Sre.Frame := { wait := .giveBack, pc := 5, pos := k, outermost := true, count := k, kept := { lastmark := -1, lastindex := -1 } }
noncomputable def f2 (k n : Nat) : Sre.Frame := { wait := .giveBack, pc := 27, pos := k, outermost := true, count := n, kept := { lastmark := 0, lastindex := -1 } }
variable {t : Array Nat} {pc pos hd w k n : Nat} {mk : Array (Option Nat)} {lm li : Int} {fs : List Sre.Frame} {sn : Seen}

/-- what the machine is behind a letter of the pattern, once the letter is held against the text -/
noncomputable def exA (t : Array Nat) (p pos hd : Nat) (mk : Array (Option Nat)) (lm li : Int) (fs : List Sre.Frame) (w : Nat) (sn : Seen) (r : Except String (Bool × Seen)) : M :=
  match r with
  | .error why => (at_ t p pos hd mk lm li fs w none sn).stick why
  | .ok (false, seen) => (at_ t p pos hd mk lm li fs w none seen).say false
  | .ok (true, seen) => at_ t (p + 2) (pos + 1) hd mk lm li fs w none seen
/-- at p of the pattern stands the letter c -/
noncomputable def LitAt (p c : Nat) : Prop := ∀ (t : Array Nat) (pos hd : Nat) (mk : Array (Option Nat)) (lm li : Int) (fs : List Sre.Frame) (w : Nat) (sn : Seen),
  (at_ t p pos hd mk lm li fs w none sn).step = if pos ≥ t.size then at_ t p pos hd mk lm li fs w (some false) (sn.add 16) else exA t p pos hd mk lm li fs w (sn.add 16) (.ok (t.getD pos 0 == c, sn.add 16))
theorem step_lit {p c : Nat} (hp : LitAt p c) (hk : pos < t.size) (he : t.getD pos 0 = c) :
    ∃ sn', (at_ t p pos hd mk lm li fs w none sn).step = at_ t (p + 2) (pos + 1) hd mk lm li fs w none sn' :=
  ⟨sn.add 16, (hp t pos hd mk lm li fs w sn).trans ((if_neg (Nat.not_le.mpr hk)).trans (congrArg (fun b => exA t p pos hd mk lm li fs w (sn.add 16) (.ok (b, sn.add 16))) (beq_iff_eq.mpr he : (t.getD pos 0 == c) = true)))⟩
theorem step_lit_no {p c : Nat} (hp : LitAt p c) (he : ¬ (pos < t.size ∧ t.getD pos 0 = c)) :
    ∃ sn', (at_ t p pos hd mk lm li fs w none sn).step = at_ t p pos hd mk lm li fs w (some false) sn' := by
  refine ⟨sn.add 16, (hp t pos hd mk lm li fs w sn).trans ?_⟩
  by_cases hk : pos < t.size
  · exact (if_neg (Nat.not_le.mpr hk)).trans (congrArg (fun b => exA t p pos hd mk lm li fs w (sn.add 16) (.ok (b, sn.add 16))) (beq_eq_false_iff_ne.mpr fun e => he ⟨hk, e⟩ : (t.getD pos 0 == c) = false))
  · exact if_pos (Nat.not_lt.mp hk)

noncomputable def rl (ok : Nat → Bool) (t : Array Nat) : Nat → Nat → Nat
  | 0, _ => 0
  | n + 1, p => if ok (t.getD p 0) then rl ok t n (p + 1) + 1 else 0
theorem rl_le (ok : Nat → Bool) (t : Array Nat) : ∀ n p, rl ok t n p ≤ n
  | 0, _ => Nat.le_refl _
  | n + 1, p => by
    unfold rl
    split
    · exact Nat.succ_le_succ (rl_le ok t n (p + 1))
    · exact Nat.zero_le _
theorem rl_all (ok : Nat → Bool) (t : Array Nat) : ∀ n p i, p ≤ i → i < p + rl ok t n p → ok (t.getD i 0) = true
  | 0, p, i, h1, h2 => by simp only [rl] at h2; lia
  | n + 1, p, i, h1, h2 => by
    unfold rl at h2
    split at h2
    · rename_i h
      by_cases e : i = p
      · rw [e]; exact h
      · exact rl_all ok t n (p + 1) i (by lia) (by lia)
    · lia
theorem rl_stop (ok : Nat → Bool) (t : Array Nat) : ∀ n p, rl ok t n p < n → ok (t.getD (p + rl ok t n p) 0) = false
  | 0, p, h => by lia
  | n + 1, p, h => by
    unfold rl at h ⊢
    split
    · rename_i h'
      rw [if_pos h'] at h
      have := rl_stop ok t n (p + 1) (by lia)
      rw [← this]
      congr 2
      lia
    · rename_i h'
      simpa using h'
theorem run_any : ∀ (n p found : Nat) (sn : Seen), Sre.run fc t 9 n p found sn = .ok (found + rl (· != 10) t n p, sn)
  | 0, p, found, sn => rfl
  | n + 1, p, found, sn => by
    unfold Sre.run rl
    have e : accepts fc 9 (t.getD p 0) sn = .ok (t.getD p 0 != 10, sn) := rfl
    rw [e]
    show (if (t.getD p 0 != 10) = true then Sre.run fc t 9 n (p + 1) (found + 1) sn else pure (found, sn)) = _
    split
    · rw [run_any n (p + 1) (found + 1) sn]
      congr 2
      lia
    · rfl
theorem run_not : ∀ (n p found : Nat) (sn : Seen), Sre.run fc t 31 n p found sn = .ok (found + rl (· != 41) t n p, sn)
  | 0, p, found, sn => rfl
  | n + 1, p, found, sn => by
    unfold Sre.run rl
    have e : accepts fc 31 (t.getD p 0) sn = .ok (t.getD p 0 != 41, sn) := rfl
    rw [e]
    show (if (t.getD p 0 != 41) = true then Sre.run fc t 31 n (p + 1) (found + 1) sn else pure (found, sn)) = _
    split
    · rw [run_not n (p + 1) (found + 1) sn]
      congr 2
      lia
    · rfl
theorem step_mark0 : ∃ sn', (at_ t 25 pos hd mk (-1) (-1) fs w none sn).step = at_ t 27 pos hd (mk.setIfInBounds 0 (some pos)) 0 (-1) fs w none sn' := ⟨sn.add 17, rfl⟩
theorem step_mark1 : ∃ sn', (at_ t 34 pos hd mk 0 (-1) fs w none sn).step = at_ t 36 pos hd (mk.setIfInBounds 1 (some pos)) 1 1 fs w none sn' := by
  refine ⟨sn.add 17, ?_⟩
  show M.mark { at_ t 34 pos hd mk 0 (-1) fs w none (sn.add 17) with } 1 = _
  simp [M.mark, at_]
  exact (by decide : max (0 : Int) 1 = 1)
theorem step_ok : ∃ sn', (at_ t 38 pos hd mk lm li fs w none sn).step = at_ t 38 pos pos mk lm li fs w (some true) sn' := ⟨sn.add 1, rfl⟩
/-- what the machine is behind a run of letters -/
noncomputable def repR (t : Array Nat) (p pos hd : Nat) (mk : Array (Option Nat)) (lm li : Int) (fs : List Sre.Frame) (w : Nat) (r : Except String (Nat × Seen)) (sn0 : Seen) : M :=
  match r with
  | .error why => (at_ t p pos hd mk lm li fs w none sn0).stick why
  | .ok (n, seen) => if n < 0 then (at_ t p pos hd mk lm li fs w none seen).say false else (at_ t p (pos + n) hd mk lm li fs w none seen).afterRun .giveBack n ((at_ t p (pos + n) hd mk lm li fs w none seen).keep false)
theorem step_rep2 (hp : pos ≤ t.size) (hs : t.size ≤ 1000000) : ∃ sn', (at_ t 27 pos hd mk 0 (-1) [f1 k] 1 none sn).step =
    at_ t 34 (pos + rl (· != 41) t (t.size - pos) pos) (pos + rl (· != 41) t (t.size - pos) pos) mk 0 (-1) [f2 (pos + rl (· != 41) t (t.size - pos) pos) (rl (· != 41) t (t.size - pos) pos), f1 k] 2 none sn' := by
  refine ⟨(sn.add 24).add 20, ?_⟩
  have e2 : min 4294967295 ((t.size : Int) - (pos : Int)).toNat = t.size - pos := by lia
  have e3 : ¬ (((0 : Nat) : Int) > (t.size : Int) - pos) := by lia
  have h := run_not (t := t) (t.size - pos) pos 0 ((sn.add 24).add 20)
  rw [Nat.zero_add] at h
  show (if ((0 : Nat) : Int) > (t.size : Int) - pos then (at_ t 27 pos hd mk 0 (-1) [f1 k] 1 none (sn.add 24)).say false else
    repR t 27 pos hd mk 0 (-1) [f1 k] 1 (Sre.run fc t 31 (min 4294967295 ((t.size : Int) - pos).toNat) pos 0 ((sn.add 24).add 20)) (sn.add 24)) = _
  rw [if_neg e3, e2, h]
  rfl
theorem step_rep1 (hs : t.size ≤ 1000000) : ∃ sn', (at_ t 5 0 hd mk (-1) (-1) [] 0 none sn).step =
    at_ t 11 (rl (· != 10) t t.size 0) (rl (· != 10) t t.size 0) mk (-1) (-1) [f1 (rl (· != 10) t t.size 0)] 1 none sn' := by
  refine ⟨(sn.add 24).add 2, ?_⟩
  have e2 : min 4294967295 ((t.size : Int) - ((0 : Nat) : Int)).toNat = t.size := by lia
  have e3 : ¬ (((0 : Nat) : Int) > (t.size : Int) - ((0 : Nat) : Int)) := by lia
  have h := run_any (t := t) t.size 0 0 ((sn.add 24).add 2)
  rw [Nat.zero_add] at h
  show (if ((0 : Nat) : Int) > (t.size : Int) - ((0 : Nat) : Int) then (at_ t 5 0 hd mk (-1) (-1) [] 0 none (sn.add 24)).say false else
    repR t 5 0 hd mk (-1) (-1) [] 0 (Sre.run fc t 9 (min 4294967295 ((t.size : Int) - ((0 : Nat) : Int)).toNat) 0 0 ((sn.add 24).add 2)) (sn.add 24)) = _
  rw [if_neg e3, e2, h]
  simp only [repR, Nat.not_lt_zero, if_false, Nat.zero_add]
  rfl
end Mine.Re
end
section
open PySem PySem.Sre
set_option maxRecDepth 100000
set_option linter.unusedSimpArgs false
set_option linter.unusedVariables false
namespace Mine.Re
variable {t : Array Nat} {pc pos hd w k n : Nat} {mk : Array (Option Nat)} {lm li : Int} {fs : List Sre.Frame} {sn : Seen}
theorem back2_zero : (at_ t pc pos hd mk lm li (f2 k 0 :: fs) (w + 1) (some false) sn).step = at_ t 27 k hd mk 0 (-1) fs w (some false) sn := rfl
theorem back1_zero : (at_ t pc pos hd mk lm li (f1 0 :: fs) (w + 1) (some false) sn).step = at_ t 5 0 hd mk (-1) (-1) fs w (some false) sn := rfl
theorem yes2 : (at_ t pc pos hd mk lm li (f2 k n :: fs) (w + 1) (some true) sn).step = at_ t 27 k hd mk lm li fs w (some true) sn := rfl
theorem yes1 : (at_ t pc pos hd mk lm li (f1 k :: fs) (w + 1) (some true) sn).step = at_ t 5 k hd mk lm li fs w (some true) sn := rfl
theorem back2_succ (hw : w ≤ 10) : (at_ t pc pos hd mk lm li (f2 (k + 1) (n + 1) :: fs) (w + 1) (some false) sn).step = at_ t 34 k k mk 0 (-1) (f2 k n :: fs) (w + 1) none sn := by
  have e1 : ((n + 1 : Nat) : Int) - 1 = n := by lia
  have e2 : ¬ ((n : Int) < 0) := by lia
  have e3 : ¬ (w + 1 > 16777216) := by lia
  simp only [at_, f2, M.step, M.resume, M.putBack, M.word, Option.isSome_none, Bool.false_eq_true, if_false, e1, show fc.getD (27 + 2) 0 = 0 from rfl, show ((0 : Nat) : Int) = 0 from rfl, if_neg e2]
  simp only [M.afterRun, M.attempt, M.frame, M.word, show w + 1 - (1 + (#[] : Array (Option Nat)).size) = w from rfl, show w + 1 + (#[] : Array (Option Nat)).size = w + 1 from rfl, if_neg e3, show fc.getD (27 + 1) 0 = 6 from rfl, Nat.add_sub_cancel]
theorem back1_succ (hw : w ≤ 10) : (at_ t pc pos hd mk lm li (f1 (k + 1) :: fs) (w + 1) (some false) sn).step = at_ t 11 k k mk (-1) (-1) (f1 k :: fs) (w + 1) none sn := by
  have e1 : ((k + 1 : Nat) : Int) - 1 = k := by lia
  have e2 : ¬ ((k : Int) < 0) := by lia
  have e3 : ¬ (w + 1 > 16777216) := by lia
  simp only [at_, f1, M.step, M.resume, M.putBack, M.word, Option.isSome_none, Bool.false_eq_true, if_false, e1, show fc.getD (5 + 2) 0 = 0 from rfl, show ((0 : Nat) : Int) = 0 from rfl, if_neg e2]
  simp only [M.afterRun, M.attempt, M.frame, M.word, show w + 1 - (1 + (#[] : Array (Option Nat)).size) = w from rfl, show w + 1 + (#[] : Array (Option Nat)).size = w + 1 from rfl, if_neg e3, show fc.getD (5 + 1) 0 = 5 from rfl, Nat.add_sub_cancel]
/-- a state that has said no, with the outer frame alone -/
noncomputable def No (t : Array Nat) (q : Nat) (m : M) : Prop := ∃ pc pos hd mk lm li sn, m = at_ t pc pos hd mk lm li [f1 q] 1 (some false) sn ∧ mk.size = 2
theorem inner_one {q : Nat} (hno : ¬ (k < t.size ∧ t.getD k 0 = 41)) {b : Nat} {P : M → Prop}
    (go : ∀ sn', Rch b (at_ t 36 k hd (mk.setIfInBounds 1 (some k)) 1 1 [f2 k n, f1 q] 2 (some false) sn') P) : Rch (b + 1 + 1) (at_ t 34 k hd mk 0 (-1) [f2 k n, f1 q] 2 none sn) P := by
  refine Rch.step ?_
  obtain ⟨s1, e1⟩ := step_mark1 (t := t) (pos := k) (hd := hd) (mk := mk) (fs := [f2 k n, f1 q]) (w := 2) (sn := sn)
  rw [e1]
  refine Rch.step ?_
  obtain ⟨s2, e2⟩ := step_lit_no (t := t) (p := 36) (c := 41) (pos := k) (hd := hd) (mk := mk.setIfInBounds 1 (some k)) (lm := 1) (li := 1) (fs := [f2 k n, f1 q]) (w := 2) (sn := s1) (fun _ _ _ _ _ _ _ _ _ => rfl) hno
  rw [e2]
  exact go s2
theorem inner_fail {q : Nat} (n : Nat) : ∀ (k hd : Nat) (mk : Array (Option Nat)) (sn : Seen), mk.size = 2 → n ≤ k → (∀ i, k - n ≤ i → i ≤ k → ¬ (i < t.size ∧ t.getD i 0 = 41)) →
    Rch (3 * n + 3) (at_ t 34 k hd mk 0 (-1) [f2 k n, f1 q] 2 none sn) (No t q) := by
  induction n with
  | zero =>
    intro k hd mk sn hm hn hno
    refine inner_one (b := 1) (hno k (Nat.sub_le _ _) (Nat.le_refl _)) fun s2 => Rch.step ?_
    rw [back2_zero (w := 1)]
    exact Rch.here ⟨_, _, _, _, _, _, _, rfl, by rw [Array.size_setIfInBounds]; exact hm⟩
  | succ n ih =>
    intro k hd mk sn hm hn hno
    match k, hn, hno with
    | k + 1, hn, hno =>
    refine inner_one (b := 3 * n + 3 + 1) (hno (k + 1) (Nat.sub_le _ _) (Nat.le_refl _)) fun s2 => Rch.step ?_
    rw [back2_succ (w := 1) (by decide)]
    exact ih k k _ s2 (by rw [Array.size_setIfInBounds]; exact hm) (Nat.le_of_succ_le_succ hn) fun i h1 h2 => hno i (by rw [Nat.add_sub_add_right]; exact h1) (Nat.le_succ_of_le h2)
/-- FLAGS ( at a place -/
noncomputable def has7 (t : Array Nat) (q : Nat) : Bool :=
  decide (q < t.size ∧ t.getD q 0 = 70) && decide (q + 1 < t.size ∧ t.getD (q + 1) 0 = 76) && decide (q + 1 + 1 < t.size ∧ t.getD (q + 1 + 1) 0 = 65) && decide (q + 1 + 1 + 1 < t.size ∧ t.getD (q + 1 + 1 + 1) 0 = 71) &&
  decide (q + 1 + 1 + 1 + 1 < t.size ∧ t.getD (q + 1 + 1 + 1 + 1) 0 = 83) && decide (q + 1 + 1 + 1 + 1 + 1 < t.size ∧ t.getD (q + 1 + 1 + 1 + 1 + 1) 0 = 32) && decide (q + 1 + 1 + 1 + 1 + 1 + 1 < t.size ∧ t.getD (q + 1 + 1 + 1 + 1 + 1 + 1) 0 = 40)
noncomputable def endOf (t : Array Nat) (q : Nat) : Nat := q + 7 + rl (· != 41) t (t.size - (q + 7)) (q + 7)
noncomputable def closed (t : Array Nat) (q : Nat) : Option Nat := if has7 t q = true then (if endOf t q < t.size then some (endOf t q) else none) else none
noncomputable def lastF (t : Array Nat) : Nat → Option (Nat × Nat)
  | 0 => (closed t 0).map fun e => (0, e)
  | k + 1 => match closed t (k + 1) with
    | some e => some (k + 1, e)
    | none => lastF t k
theorem lit_step {p c : Nat} {q : Nat} (hm : mk.size = 2) (hp : LitAt p c) {b : Nat} {P : M → Prop}
    (yes : (pos < t.size ∧ t.getD pos 0 = c) → ∀ sn', Rch b (at_ t (p + 2) (pos + 1) hd mk (-1) (-1) [f1 q] 1 none sn') P)
    (no : ¬ (pos < t.size ∧ t.getD pos 0 = c) → ∀ m, No t q m → P m) : Rch (b + 1) (at_ t p pos hd mk (-1) (-1) [f1 q] 1 none sn) P := by
  by_cases h : pos < t.size ∧ t.getD pos 0 = c
  · obtain ⟨s1, e1⟩ := step_lit (t := t) (hd := hd) (mk := mk) (lm := -1) (li := -1) (fs := [f1 q]) (w := 1) (sn := sn) hp h.1 h.2
    refine Rch.step ?_
    rw [e1]
    exact yes h s1
  · obtain ⟨s1, e1⟩ := step_lit_no (t := t) (hd := hd) (mk := mk) (lm := -1) (li := -1) (fs := [f1 q]) (w := 1) (sn := sn) hp h
    refine Rch.le (Rch.step (b := 0) ?_) (by lia)
    rw [e1]
    exact Rch.here (no h _ ⟨_, _, _, _, _, _, _, rfl, hm⟩)
/-- the machine when it has found the list -/
noncomputable def Found (q e : Nat) (m : M) : Prop := m.outcome = some .matched ∧ m.start = 0 ∧ m.handed = e + 1 ∧ m.lastmark = 1 ∧ m.lastindex = 1 ∧ m.marks = #[some (q + 7), some e]
theorem two_marks (h : mk.size = 2) (a b : Nat) : (mk.setIfInBounds 0 (some a)).setIfInBounds 1 (some b) = #[some a, some b] := by
  match mk, h with
  | ⟨[x, y]⟩, _ => rfl
theorem rest_of {q : Nat} (hs : t.size ≤ 1000000) (hm : mk.size = 2) (h7 : q + 7 ≤ t.size) :
    Rch (3 * t.size + 20) (at_ t 25 (q + 7) hd mk (-1) (-1) [f1 q] 1 none sn) fun m => if endOf t q < t.size then Found q (endOf t q) m else No t q m := by
  obtain ⟨s1, e1⟩ := step_mark0 (t := t) (pos := q + 7) (hd := hd) (mk := mk) (fs := [f1 q]) (w := 1) (sn := sn)
  obtain ⟨s2, e2⟩ := step_rep2 (t := t) (k := q) (pos := q + 7) (hd := hd) (mk := mk.setIfInBounds 0 (some (q + 7))) (sn := s1) h7 hs
  have hle := rl_le (· != 41) t (t.size - (q + 7)) (q + 7)
  have hall := rl_all (· != 41) t (t.size - (q + 7)) (q + 7)
  have hstop := rl_stop (· != 41) t (t.size - (q + 7)) (q + 7)
  have hend : endOf t q = q + 7 + rl (· != 41) t (t.size - (q + 7)) (q + 7) := rfl
  generalize hr : rl (· != 41) t (t.size - (q + 7)) (q + 7) = r at *
  rw [show 3 * t.size + 20 = 3 * t.size + 18 + 1 + 1 from rfl]
  refine Rch.step ?_
  rw [e1]
  refine Rch.step ?_
  rw [e2]
  rw [← hend]
  by_cases h : endOf t q < t.size
  · simp only [if_pos h]
    have h41 : t.getD (endOf t q) 0 = 41 := by
      have := hstop (by lia)
      rw [← hend] at this
      simpa using this
    obtain ⟨s3, e3⟩ := step_mark1 (t := t) (pos := endOf t q) (hd := endOf t q) (mk := mk.setIfInBounds 0 (some (q + 7))) (fs := [f2 (endOf t q) r, f1 q]) (w := 2) (sn := s2)
    obtain ⟨s4, e4⟩ := step_lit (t := t) (p := 36) (c := 41) (pos := endOf t q) (hd := endOf t q) (mk := (mk.setIfInBounds 0 (some (q + 7))).setIfInBounds 1 (some (endOf t q))) (lm := 1) (li := 1) (fs := [f2 (endOf t q) r, f1 q]) (w := 2) (sn := s3) (fun _ _ _ _ _ _ _ _ _ => rfl) h h41
    obtain ⟨s5, e5⟩ := step_ok (t := t) (pos := endOf t q + 1) (hd := endOf t q) (mk := (mk.setIfInBounds 0 (some (q + 7))).setIfInBounds 1 (some (endOf t q))) (lm := 1) (li := 1) (fs := [f2 (endOf t q) r, f1 q]) (w := 2) (sn := s4)
    refine Rch.le (a := 0 + 1 + 1 + 1 + 1 + 1 + 1) ?_ (by lia)
    refine Rch.step ?_
    rw [e3]
    refine Rch.step ?_
    rw [e4]
    refine Rch.step ?_
    rw [e5]
    refine Rch.step ?_
    rw [yes2 (w := 1)]
    refine Rch.step ?_
    rw [yes1 (w := 0)]
    refine Rch.step (Rch.here ?_)
    rw [two_marks hm]
    exact ⟨rfl, rfl, rfl, rfl, rfl, rfl⟩
  · simp only [if_neg h]
    refine Rch.le (inner_fail (t := t) (q := q) r (endOf t q) _ _ s2 (by simpa using hm) (by lia) fun i h1 h2 => ?_) (by lia)
    rintro ⟨h3, h4⟩
    have := hall i (by lia) (by lia)
    rw [h4] at this
    exact absurd this (by decide)
theorem one_place {q : Nat} (hs : t.size ≤ 1000000) (hm : mk.size = 2) :
    Rch (3 * t.size + 27) (at_ t 11 q hd mk (-1) (-1) [f1 q] 1 none sn) fun m => match closed t q with | some e => Found q e m | none => No t q m := by
  have hno : has7 t q = false → ∀ m, No t q m → (match closed t q with | some e => Found q e m | none => No t q m) := fun h m hm => by
    unfold closed
    simp only [h, Bool.false_eq_true, if_false]
    exact hm
  rw [show 3 * t.size + 27 = 3 * t.size + 20 + 1 + 1 + 1 + 1 + 1 + 1 + 1 from rfl]
  refine lit_step (c := 70) hm (fun _ _ _ _ _ _ _ _ _ => rfl) (fun h1 sn => ?_) (fun h => hno (by simp only [has7, decide_eq_false h, Bool.and_false, Bool.false_and]))
  refine lit_step (c := 76) hm (fun _ _ _ _ _ _ _ _ _ => rfl) (fun h2 sn => ?_) (fun h => hno (by simp only [has7, decide_eq_false h, Bool.and_false, Bool.false_and]))
  refine lit_step (c := 65) hm (fun _ _ _ _ _ _ _ _ _ => rfl) (fun h3 sn => ?_) (fun h => hno (by simp only [has7, decide_eq_false h, Bool.and_false, Bool.false_and]))
  refine lit_step (c := 71) hm (fun _ _ _ _ _ _ _ _ _ => rfl) (fun h4 sn => ?_) (fun h => hno (by simp only [has7, decide_eq_false h, Bool.and_false, Bool.false_and]))
  refine lit_step (c := 83) hm (fun _ _ _ _ _ _ _ _ _ => rfl) (fun h5 sn => ?_) (fun h => hno (by simp only [has7, decide_eq_false h, Bool.and_false, Bool.false_and]))
  refine lit_step (c := 32) hm (fun _ _ _ _ _ _ _ _ _ => rfl) (fun h6 sn => ?_) (fun h => hno (by simp only [has7, decide_eq_false h, Bool.and_false, Bool.false_and]))
  refine lit_step (c := 40) hm (fun _ _ _ _ _ _ _ _ _ => rfl) (fun h7 sn => ?_) (fun h => hno (by simp only [has7, decide_eq_false h, Bool.and_false, Bool.false_and]))
  have e : has7 t q = true := by simp only [has7, decide_eq_true h1, decide_eq_true h2, decide_eq_true h3, decide_eq_true h4, decide_eq_true h5, decide_eq_true h6, decide_eq_true h7, Bool.and_self]
  have := rest_of (t := t) (hd := hd) (sn := sn) (q := q) hs hm (by lia)
  unfold closed
  simp only [if_pos e]
  by_cases hq : endOf t q < t.size
  · simp only [if_pos hq] at this ⊢; exact this
  · simp only [if_neg hq] at this ⊢; exact this
/-- what the machine ends with -/
noncomputable def Ends (r : Option (Nat × Nat)) (m : M) : Prop := match r with
  | some p => Found p.1 p.2 m
  | none => m.outcome = some .failed
theorem from_place (hs : t.size ≤ 1000000) (q : Nat) : ∀ (hd : Nat) (mk : Array (Option Nat)) (sn : Seen), mk.size = 2 → Rch ((3 * t.size + 29) * (q + 1)) (at_ t 11 q hd mk (-1) (-1) [f1 q] 1 none sn) (Ends (lastF t q)) := by
  induction q with
  | zero =>
    intro hd mk sn hm
    refine Rch.le (Rch.then (b := 2) (one_place (t := t) (hd := hd) (mk := mk) (sn := sn) (q := 0) hs hm) fun m hm' => ?_) (Nat.le_of_eq (Nat.mul_one _).symm)
    unfold lastF
    cases e : closed t 0 with
    | some e' => rw [e] at hm'; exact Rch.le (Rch.here hm') (Nat.zero_le _)
    | none =>
      rw [e] at hm'
      obtain ⟨pc, pos, hd', mk', lm, li, sn', rfl, _⟩ := hm'
      refine Rch.step ?_
      rw [back1_zero (w := 0)]
      exact Rch.step (Rch.here rfl)
  | succ q ih =>
    intro hd mk sn hm
    refine Rch.le (Rch.then (b := (3 * t.size + 29) * (q + 1) + 1) (one_place (t := t) (hd := hd) (mk := mk) (sn := sn) (q := q + 1) hs hm) fun m hm' => ?_) (by
      rw [show (3 * t.size + 29) * (q + 1 + 1) = (3 * t.size + 29) * (q + 1) + (3 * t.size + 29) from Nat.mul_succ _ _]; lia)
    unfold lastF
    cases e : closed t (q + 1) with
    | some e' => rw [e] at hm'; exact Rch.le (Rch.here hm') (Nat.zero_le _)
    | none =>
      rw [e] at hm'
      obtain ⟨pc, pos, hd', mk', lm, li, sn', rfl, hm2⟩ := hm'
      refine Rch.step ?_
      rw [back1_succ (w := 0) (by decide)]
      exact ih q mk' sn' hm2
noncomputable def lineEnd (t : Array Nat) : Nat := rl (· != 10) t t.size 0
/-- the whole run -/
theorem run_all (hs : t.size ≤ 1000000) (h8 : 8 ≤ t.size) : Rch ((3 * t.size + 29) * (t.size + 1) + 1) (Sre.forMatch fc t 1 0 t.size false false) (Ends (lastF t (lineEnd t))) := by
  have e0 : Sre.forMatch fc t 1 0 t.size false false = at_ t 5 0 0 #[none, none] (-1) (-1) [] 0 none (({} : Seen).add 14) := by
    show (if _ then _ else _) = _
    rw [if_neg ?_]
    · rfl
    · simp only [show (Sre.header fc).1 = 8 from rfl]
      simp
      lia
  rw [e0]
  obtain ⟨s1, e1⟩ := step_rep1 (t := t) (hd := 0) (mk := #[none, none]) (sn := ({} : Seen).add 14) hs
  refine Rch.step ?_
  rw [e1]
  have hle := rl_le (· != 10) t t.size 0
  refine Rch.le (from_place hs _ _ _ s1 rfl) ?_
  exact Nat.mul_le_mul_left _ (by lia)
end Mine.Re
end
section
open PySem PySem.W PyProof.Rows PySem.Calls PySem.Spec
open PySem.Builtin
set_option maxRecDepth 100000
namespace Mine
theorem plainAttrs_pat : PlainAttrs "re.Pattern" :=
  ⟨⟨"object.__getattribute__", by rw [typeLookup_type, builtinLookup_eq_fast]; kernel_rfl, by decide +kernel⟩, by rw [typeLookup_type, builtinLookup_eq_fast]; kernel_rfl⟩
theorem slot_pat_match : Slot "re.Pattern" "match" "re.Pattern.match" :=
  .of (owner := "re.Pattern") (n := "match") (by rw [typeLookup_type, builtinLookup_eq_fast]; kernel_rfl) (by decide +kernel) (by decide +kernel) (by decide +kernel)
    (by first | exact .inl (by decide +kernel) | exact .inr (by decide +kernel)) (by rw [isSubtype_type]; kernel_rfl)
theorem type_pat_match : typeOf (.builtin "re.Pattern.match") = pure (.type "method_descriptor") := by show builtinType _ = _; rw [builtinType_eq_fast]; kernel_rfl
theorem entry_pat_match : entryFor table "re.Pattern.match" = some Builtin.«re.Pattern.match» := entryFor_of_tree (by kernel_rfl)
theorem args_pat_match (a b : Value) : argsOk "re.Pattern.match" ⟨[a, b], []⟩ := by unfold argsOk; kernel_rfl
theorem plainAttrs_mat : PlainAttrs "re.Match" :=
  ⟨⟨"object.__getattribute__", by rw [typeLookup_type, builtinLookup_eq_fast]; kernel_rfl, by decide +kernel⟩, by rw [typeLookup_type, builtinLookup_eq_fast]; kernel_rfl⟩
theorem slot_mat_group : Slot "re.Match" "group" "re.Match.group" :=
  .of (owner := "re.Match") (n := "group") (by rw [typeLookup_type, builtinLookup_eq_fast]; kernel_rfl) (by decide +kernel) (by decide +kernel) (by decide +kernel)
    (by first | exact .inl (by decide +kernel) | exact .inr (by decide +kernel)) (by rw [isSubtype_type]; kernel_rfl)
theorem type_mat_group : typeOf (.builtin "re.Match.group") = pure (.type "method_descriptor") := by show builtinType _ = _; rw [builtinType_eq_fast]; kernel_rfl
theorem entry_mat_group : entryFor table "re.Match.group" = some Builtin.«re.Match.group» := entryFor_of_tree (by kernel_rfl)
theorem args_mat_group (a b : Value) : argsOk "re.Match.group" ⟨[a, b], []⟩ := by unfold argsOk; kernel_rfl
theorem bool_mat : typeLookup (.type "re.Match") "__bool__" = pure none := by rw [typeLookup_type, builtinLookup_eq_fast]; kernel_rfl
theorem len_mat : typeLookup (.type "re.Match") "__len__" = pure none := by rw [typeLookup_type, builtinLookup_eq_fast]; kernel_rfl

section
open PySem.Sre PySem.Builtin.Re Mine.Re
theorem step_done {m : Sre.M} (h : m.outcome.isSome = true) : m.step = m := by unfold M.step; rw [if_pos h]
theorem steps_done {m : Sre.M} (h : m.outcome.isSome = true) : ∀ n, steps n m = m
  | 0 => rfl
  | n + 1 => by
    show steps n m.step = m
    rw [step_done h]; exact steps_done h n
theorem runFor_eq : ∀ (n : Nat) (m : Sre.M), m.runFor n = steps n m
  | 0, m => rfl
  | n + 1, m => by
    unfold M.runFor
    by_cases h : m.outcome.isSome = true
    · rw [if_pos h, steps_done h]
    · rw [if_neg h]; exact runFor_eq n m.step
theorem steps_past {n k : Nat} {m : Sre.M} (h : (steps n m).outcome.isSome = true) (hk : n ≤ k) : steps k m = steps n m := by
  obtain ⟨d, rfl⟩ := Nat.exists_eq_add_of_le hk
  rw [steps_add, steps_done h]
theorem drive {M : Model} {A : Around} {E : Value → Shared → Prop} {s : Shared} {Q : Sre.M → Shared → Prop} : ∀ (turns n : Nat) (m : Sre.M), (steps n m).outcome.isSome = true → n ≤ turns → 0 < turns → Q (steps n m) s → wpAny M A (reDrive turns m) Q E s
  | 0, n, m, _, _, h0, _ => absurd h0 (by decide)
  | turns + 1, n, m, hd, hn, _, hq => by
    unfold reDrive
    rw [runFor_eq]
    show wpAny M A (if (steps 4 m).outcome.isSome = true then pure (steps 4 m) else do PySem.rule "sre.turn"; reDrive turns (steps 4 m)) Q E s
    by_cases h : (steps 4 m).outcome.isSome = true
    · rw [if_pos h]
      refine wpAny_pure ?_
      have : steps 4 m = steps n m := by
        by_cases h4 : n ≤ 4
        · exact steps_past hd h4
        · exact (steps_past h (by omega)).symm
      rw [this]; exact hq
    · rw [if_neg h]
      have h4 : 4 < n := by
        by_cases h4 : n ≤ 4
        · rw [steps_past hd h4] at h
          exact absurd hd h
        · omega
      have e : steps (n - 4) (steps 4 m) = steps n m := by rw [← steps_add]; congr 1; omega
      refine wpAny_bind (wpAny_rule ?_)
      exact drive turns (n - 4) (steps 4 m) (by rw [e]; exact hd) (by omega) (by omega) (by rw [e]; exact hq)
theorem forIn_pass {M : Model} {A : Around} {E : Value → Shared → Prop} {s : Shared} {α : Type} {f : α → PUnit → Sem (ForInStep PUnit)} {Q : PUnit → Shared → Prop}
    (hf : ∀ a (R : ForInStep PUnit → Shared → Prop), R (.yield ⟨⟩) s → wpAny M A (f a ⟨⟩) R E s) (hq : Q ⟨⟩ s) : ∀ l : List α, wpAny M A (forIn l ⟨⟩ f) Q E s
  | [] => wpAny_pure hq
  | a :: l => by
    rw [List.forIn_cons]
    exact wpAny_bind (hf a _ (forIn_pass hf hq l))
theorem runToEnd {M : Model} {A : Around} {E : Value → Shared → Prop} {s : Shared} {Q : Option Sre.M → Shared → Prop} {n : Nat} {m : Sre.M} {r : Option (Nat × Nat)} (hn : n ≤ 2 ^ 64) (he : Ends r (steps n m))
    (h : ∀ m', Ends r m' → Q (r.map fun _ => m') s) : wpAny M A (reRunToEnd m) Q E s := by
  have hd : (steps n m).outcome.isSome = true := by
    cases r with
    | none => rw [show (steps n m).outcome = _ from he]; rfl
    | some p => rw [show (steps n m).outcome = _ from he.1]; rfl
  unfold reRunToEnd
  refine wpAny_bind (drive (2 ^ 64) n m hd hn (by decide) ?_)
  refine wpAny_bind (forIn_pass (fun i R hR => ?_) ?_ _)
  · split
    · exact wpAny_bind (wpAny_rule (wpAny_pure hR))
    · exact wpAny_pure hR
  · cases r with
    | none =>
      have e : (steps n m).outcome = some .failed := he
      rw [e]
      exact wpAny_pure (h _ he)
    | some p =>
      have e : (steps n m).outcome = some .matched := he.1
      rw [e]
      exact wpAny_pure (h _ he)
end
end Mine
end
section
open PySem PySem.W PyProof.Rows PySem.Calls PySem.Spec
open PySem.Builtin PySem.Builtin.Re Mine.Re
set_option maxRecDepth 100000
namespace Mine
theorem named_match (v : Value) : reNamed "re.Pattern.match" "match" ["string", "pos", "endpos"] 1 [v] [] = pure [some v, none, none] := by rfl
theorem text_bytes {b : Array UInt8} {t : Tok} : reTextOf (.bytes b t) = pure (b.map (·.toNat), 1) := by
  unfold reTextOf
  show (Bytes.bufferQuiet? "_sre" (.bytes b t) >>= fun r => _) = _
  rw [KBy.quiet_eq]
  rfl
theorem noColl {b : Array UInt8} {t : Tok} : reNoCollectionInside (.bytes b t) 1 = pure () := by
  unfold reNoCollectionInside
  show (isInstance (.bytes b t) (.type "bytes") >>= fun r => _) = _
  rw [KBy.isInstance_eq]
  rfl
/-- the pattern FLAGS in a heap -/
structure PatAt (h : Heap) : Prop where
  pat : ∃ o pb v4 t1 t2 t3, h.get? 36 = some o ∧ o.cls = .type "re.Pattern" ∧ o.dict = none ∧ o.data = .fields #[pb, .int 0 t1, .int 1 t2, .ref 33, v4, .ref 35, .int 1 t3]
  code : ∃ o xs n, h.get? 35 = some o ∧ o.data = .seq xs n ∧ (xs.map reRawOf).map (·.toNat) = fc
theorem patAt {w : World} {h : Heap} (X : (Mine.hd.heap_39 w.params).In h) : PatAt h :=
  ⟨⟨_, _, _, _, _, _, X 36 _ rfl, rfl, rfl, rfl⟩, ⟨_, _, _, X 35 _ rfl, rfl, by decide +kernel⟩⟩
theorem PatAt.keep {h h' : Heap} (P : PatAt h) (K : ∀ b o, h.get? b = some o → h'.get? b = some o) : PatAt h' := by
  obtain ⟨⟨o, a, b, c, d, e, h1, r⟩, ⟨o', xs, n, h2, r'⟩⟩ := P
  exact ⟨⟨o, a, b, c, d, e, K _ _ h1, r⟩, ⟨o', xs, n, K _ _ h2, r'⟩⟩
section
variable {M : Model} {A : Around} {E : Value → Shared → Prop} {s : Shared} {b : Array UInt8} {tb : Tok}
theorem wpAny_fieldsOf {a : Addr} {o : Obj} {vs : Array Value} {Q : Array Value → Shared → Prop} (h : s.heap.get? a = some o) (hd : o.data = .fields vs) (hq : Q vs s) : wpAny M A (fieldsOf (.ref a)) Q E s := by
  unfold fieldsOf
  refine wpAny_bind (wpAny_load h ?_)
  simp only [hd]
  exact wpAny_pure hq
theorem wpAny_rawItems {a : Addr} {o : Obj} {xs : Array Value} {n : Nat} {Q : Array Int → Shared → Prop} (h : s.heap.get? a = some o) (hd : o.data = .seq xs n) (hq : Q (xs.map reRawOf) s) : wpAny M A (reRawItems (.ref a)) Q E s := by
  unfold reRawItems
  refine wpAny_bind (wpAny_seqItems h hd ?_)
  exact wpAny_pure hq
theorem target_eq {Q : ReTarget → Shared → Prop} (P : PatAt s.heap) (hs : b.size ≤ 1000000) (hq : Q { pattern := .ref 36, string := .bytes b tb, code := fc, text := b.map (·.toNat), kind := 1, groups := 1, pos := 0, lim := (b.map (·.toNat)).size } s) :
    wpAny M A (reTarget "re.Pattern.match" "match" ⟨[.ref 36, .bytes b tb], []⟩) Q E s := by
  obtain ⟨⟨o, pb, v4, t1, t2, t3, h1, hc, hd, hdat⟩, ⟨o', xs, n, h2, hdat', hcode⟩⟩ := P
  unfold reTarget
  simp only []
  refine wpAny_bind (wpAny_of_eq (named_match _) ?_)
  simp only []
  refine wpAny_bind (wpAny_pure ?_)
  refine wpAny_bind (wpAny_pure ?_)
  refine wpAny_bind (wpAny_fieldsOf h1 hdat ?_)
  refine wpAny_bind (wpAny_of_eq text_bytes ?_)
  simp only []
  show wpAny M A (reNoCollectionInside (.bytes b tb) 1 >>= fun _ => reRawItems (.ref 35) >>= fun c => pure ({ pattern := .ref 36, string := .bytes b tb, code := c.map (·.toNat), text := b.map (·.toNat), kind := 1, groups := 1, pos := min (Int.toNat 0) (b.map (·.toNat)).size, lim := min ((2 : Int) ^ 63 - 1).toNat (b.map (·.toNat)).size } : ReTarget)) Q E s
  refine wpAny_bind (wpAny_of_eq noColl ?_)
  refine wpAny_bind (wpAny_rawItems h2 hdat' ?_)
  rw [hcode]
  have e1 : min ((2 : Int) ^ 63 - 1).toNat (b.map (·.toNat)).size = (b.map (·.toNat)).size := by
    rw [Array.size_map]
    have : ((2 : Int) ^ 63 - 1).toNat = 9223372036854775807 := by decide
    lia
  have e0 : min (Int.toNat 0) (b.map (·.toNat)).size = 0 := by
    show min 0 _ = 0
    lia
  rw [e0, e1]
  exact wpAny_pure hq
/-- what the engine answers on these bytes -/
noncomputable def flagsOf (b : Array UInt8) : Option (Nat × Nat) := lastF (b.map (·.toNat)) (lineEnd (b.map (·.toNat)))
theorem newMatch {q e : Nat} {m : Sre.M} {Q : Value → Shared → Prop} (F : Found q e m) (hqe : q + 7 ≤ e)
    (h : Q (.ref (s.heap.objs.size + 1)) { s with heap := (s.heap.push { cls := .type "tuple", data := .seq #[rawInt 0, rawInt (e + 1 : Nat), rawInt (q + 7 : Nat), rawInt e] }).push { cls := .type "re.Match", data := .fields #[.bytes b tb, .ref 36, rawInt 0, rawInt (b.size : Nat), rawInt 1, .ref s.heap.objs.size] } }) :
    wpAny M A (reNewMatch (.ref 36) (.bytes b tb) 1 0 b.size m) Q E s := by
  obtain ⟨_, hst, hh, hl, hi, hm⟩ := F
  unfold reNewMatch
  simp only [hl, hm, hst, hh, hi]
  have hlt : decide (e < q + 7) = false := decide_eq_false (by lia)
  show wpAny M A (if ((decide (((2 * 0 + 1 : Nat) : Int) ≤ 1) && decide (e < q + 7)) || false) = true then _ else (newTuple [rawInt 0, rawInt (e + 1 : Nat), rawInt (q + 7 : Nat), rawInt e] >>= fun t => newFields "re.Match" [.bytes b tb, .ref 36, rawInt 0, rawInt (b.size : Nat), rawInt 1, t])) Q E s
  rw [hlt, Bool.and_false, Bool.or_false, if_neg Bool.false_ne_true]
  refine wpAny_bind (wpAny_newTuple ?_)
  refine wpAny_newObj_type ?_ (by show (6 : Nat) ≤ sizeLine + 2; rw [sizeLine_eq]; lia)
  rw [Heap.size_push] at *
  exact h
end
theorem closed_facts {t : Array Nat} {q e : Nat} (h : closed t q = some e) : q + 7 ≤ e ∧ e < t.size := by
  unfold closed at h
  split at h
  · split at h
    · rename_i h1
      cases h
      exact ⟨Nat.le_add_right _ _, h1⟩
    · cases h
  · cases h
theorem lastF_facts {t : Array Nat} : ∀ {k : Nat} {p : Nat × Nat}, lastF t k = some p → p.1 + 7 ≤ p.2 ∧ p.2 < t.size
  | 0, p, h => by
    unfold lastF at h
    obtain ⟨e, h1, rfl⟩ := Option.map_eq_some_iff.mp h
    exact closed_facts h1
  | k + 1, p, h => by
    unfold lastF at h
    split at h
    · rename_i e h1
      cases h
      exact closed_facts h1
    · exact lastF_facts h
noncomputable def matObj (b : Array UInt8) (tb : Tok) (tp : Addr) : Obj := { cls := .type "re.Match", data := .fields #[.bytes b tb, .ref 36, rawInt 0, rawInt (b.size : Nat), rawInt 1, .ref tp] }
noncomputable def spanObj (q e : Nat) : Obj := { cls := .type "tuple", data := .seq #[rawInt 0, rawInt (e + 1 : Nat), rawInt (q + 7 : Nat), rawInt e] }
section
variable {prog : Program} {w : World} {A : Around} {E : Value → Shared → Prop} {s : Shared} {b : Array UInt8} {tb : Tok} {h₀ : Heap} {L : Addr} {m : Str → Option Value} {news : List (Addr × Obj)}
theorem match_entry {Q : Value → Shared → Prop} (P : PatAt s.heap) (hs : b.size ≤ 1000000) (h8 : 8 ≤ b.size)
    (h : match flagsOf b with | none => Q .none s | some (q, e) => q + 7 ≤ e → e < b.size → Q (.ref (s.heap.objs.size + 1)) { s with heap := (s.heap.push (spanObj q e)).push (matObj b tb s.heap.objs.size) }) :
    wpAny (model prog w) A (Builtin.«re.Pattern.match» ⟨[.ref 36, .bytes b tb], []⟩) (fun fin s' => ∃ v, fin = .done (.ret v) ∧ Q v s') E s := by
  unfold Builtin.«re.Pattern.match»
  refine wpAny_bind (target_eq P hs ?_)
  have hsz : (b.map (·.toNat)).size = b.size := Array.size_map ..
  obtain ⟨n, hn, he⟩ := run_all (t := b.map (·.toNat)) (by rw [hsz]; exact hs) (by rw [hsz]; exact h8)
  have hb : n ≤ 2 ^ 64 := by
    rw [hsz] at hn
    have h1 : (3 * b.size + 29) * (b.size + 1) ≤ (3 * 1000000 + 29) * (1000000 + 1) := Nat.mul_le_mul (by lia) (by lia)
    have h2 : (3 * 1000000 + 29) * (1000000 + 1) + 1 ≤ 2 ^ 64 := by decide
    lia
  unfold reAnswer
  refine wpAny_bind (runToEnd (r := flagsOf b) hb he fun m' hm' => ?_)
  cases hf : flagsOf b with
  | none =>
    rw [hf] at h
    exact wpAny_pure ⟨_, rfl, h⟩
  | some p =>
    rw [hf] at h hm'
    obtain ⟨q, e⟩ := p
    have hq := lastF_facts hf
    rw [hsz] at hq
    dsimp only
    rw [hsz]
    exact wpAny_bind (newMatch hm' hq.1 (wpAny_pure ⟨_, rfl, h hq.1 hq.2⟩))
theorem patType (P : PatAt s.heap) : s.TypeIs (.ref 36) "re.Pattern" := by
  obtain ⟨⟨o, _, _, _, _, _, h1, hc, _⟩, _⟩ := P
  exact ⟨o, h1, hc⟩
theorem getMethod_match {M : Model} {pl : Sem Bool} {Q : Value × List Value → Shared → Prop} (P : PatAt s.heap) (h : Q (.builtin "re.Pattern.match", [.ref 36]) s) : wpAny M A (getMethod (.ref 36) "match" pl) Q E s := by
  refine getMethod_builtin (patType P) plainAttrs_pat slot_pat_match type_pat_match (fun a ha => ?_) h
  cases ha
  obtain ⟨⟨o, _, _, _, _, _, h1, hc, hd, _⟩, _⟩ := P
  exact ⟨o, h1, hd⟩
theorem call_match {Q : Value → Shared → Prop} (F : Fr h₀ L s.heap m) (N : News h₀ L s.heap news) (P : PatAt s.heap) (hs : b.size ≤ 1000000) (h8 : 8 ≤ b.size)
    (hno : flagsOf b = none → Q .none s)
    (hyes : ∀ q e mo tp h', flagsOf b = some (q, e) → q + 7 ≤ e → e < b.size → Fr h₀ L h' m → News h₀ L h' ((mo, matObj b tb tp) :: (tp, spanObj q e) :: news) → PatAt h' → Q (.ref mo) { s with heap := h' }) :
    wpAny (model prog w) A (call (.builtin "re.Pattern.match") [.ref 36, .bytes b tb]) Q E s := by
  refine wpAny_call_entry slot_pat_match (patType P) entry_pat_match (match_entry P hs h8 ?_) (args_pat_match _ _)
  cases hf : flagsOf b with
  | none => exact hno hf
  | some p =>
    intro h1 h2
    have F1 := F.push (spanObj p.1 p.2)
    have N1 := News.push F N (spanObj p.1 p.2)
    have F2 := F1.push (matObj b tb s.heap.objs.size)
    have N2 := News.push F1 N1 (matObj b tb s.heap.objs.size)
    rw [Heap.size_push] at N2
    exact hyes _ _ _ _ _ hf h1 h2 F2 N2 (P.keep fun b o e => Heap.get?_push_of_some _ (Heap.get?_push_of_some _ e))
end
end Mine
end
section
open PySem PySem.W PyProof.Rows PySem.Calls PySem.Spec
open PySem.Builtin PySem.Builtin.Re Mine.Re
set_option maxRecDepth 100000
namespace Mine
theorem str_index : typeLookup (.type "str") "__index__" = pure none := by rw [typeLookup_type, builtinLookup_eq_fast]; kernel_rfl
section
variable {prog : Program} {w : World} {A : Around} {E : Value → Shared → Prop} {s : Shared} {b : Array UInt8} {tb : Tok} {h₀ : Heap} {L : Addr} {m : Str → Option Value} {news : List (Addr × Obj)}
theorem flags_dict {u : Tok} {Q : Option Value → Shared → Prop} (X : (Mine.hd.heap_39 w.params).In s.heap) (h : ∀ t', Q (some (.int 1 t')) { s with toks := s.toks + 1 }) :
    wpAny (model prog w) A (dictGet 33 (.str (Str.ofString "flags") u)) Q E s := by
  have hl : ∃ es n, (Mine.hd.heap_39 w.params).lookup 33 = some ⟨.type "dict", none, .dict es n, #[]⟩ ∧ KeysLit w.params es.toList ∧ ∃ t', nsIn (Mine.hd.heap_39 w.params) 33 (Str.ofString "flags") = some (some (.int 1 t')) :=
    ⟨_, _, rfl, by k_keys, _, rfl⟩
  obtain ⟨es, n, h1, h2, t', h3⟩ := hl
  have hm := mapOf_K (prog := prog) X h1 h2
  refine wpAny_dictGet_of (strKind_is prog w _ u) hm ?_
  rw [find_K h1 h3]
  exact h t'
theorem found_eq {mo tp : Addr} {q e : Nat} {Q : ReFound → Shared → Prop} (h1 : s.heap.get? mo = some (matObj b tb tp)) (h2 : s.heap.get? tp = some (spanObj q e))
    (h : Q { fields := #[.bytes b tb, .ref 36, rawInt 0, rawInt (b.size : Nat), rawInt 1, .ref tp], spans := #[0, ((e + 1 : Nat) : Int), ((q + 7 : Nat) : Int), (e : Int)] } s) : wpAny (model prog w) A (reFound (.ref mo)) Q E s := by
  unfold reFound
  refine wpAny_bind (wpAny_fieldsOf h1 rfl ?_)
  refine wpAny_bind (wpAny_rawItems (a := tp) h2 rfl ?_)
  have e1 : Array.map reRawOf #[rawInt 0, rawInt (e + 1 : Nat), rawInt (q + 7 : Nat), rawInt e] = #[0, ((e + 1 : Nat) : Int), ((q + 7 : Nat) : Int), (e : Int)] := by simp [rawInt, reRawOf]
  rw [e1]
  exact wpAny_pure h
theorem number_eq {tp : Addr} {u : Tok} {x : ReFound} {Q : Nat → Shared → Prop} (X : (Mine.hd.heap_39 w.params).In s.heap) (hf : x.fields = #[.bytes b tb, .ref 36, rawInt 0, rawInt (b.size : Nat), rawInt 1, .ref tp]) (hs : x.spans.size = 4)
    (h : Q 1 { s with toks := s.toks + 1 }) : wpAny (model prog w) A (reGroupNumber x (.str (Str.ofString "flags") u)) Q E s := by
  obtain ⟨⟨o, pb, v4, t1, t2, t3, g1, _, _, g4⟩, _⟩ := patAt X
  unfold reGroupNumber
  refine wpAny_bind (m := asInt? _) (wpAny_pure ?_)
  simp only [Option.isSome_none, Bool.false_eq_true, if_false]
  refine wpAny_bind (wpAny_specialOf (typeIs_str _ _ _) str_index ?_)
  simp only [Option.isSome_none, Bool.false_eq_true, if_false, hf]
  refine wpAny_bind (wpAny_fieldsOf (a := 36) g1 g4 ?_)
  refine wpAny_bind (flags_dict X fun t' => ?_)
  refine wpAny_bind (m := asInt? (.int 1 t')) (wpAny_pure ?_)
  refine wpAny_bind (wpAny_pure ?_)
  have e1 : ¬ ((decide ((Option.some (1 : Int)).getD (-1) < 0) || decide (2 * (Option.some (1 : Int)).getD (-1) ≥ (x.spans.size : Int))) = true) := by rw [hs]; decide
  rw [if_neg e1]
  exact wpAny_pure h
theorem cut_bytes {i j : Nat} : ((b.map (·.toNat)).extract i j).map (·.toUInt8) = b.extract i j := by
  rw [← Array.map_extract, Array.map_map]
  have : ((fun x : Nat => x.toUInt8) ∘ fun x : UInt8 => x.toNat) = _root_.id := by
    funext x
    simp
  rw [this, Array.map_id]
theorem text_eq {tp : Addr} {q e : Nat} {Q : Value → Shared → Prop} (hs : b.size ≤ 1000000)
    (h : Q (.bytes (b.extract (q + 7) e) s.toks) { s with toks := s.toks + 1 }) :
    wpAny (model prog w) A (reGroupText { fields := #[.bytes b tb, .ref 36, rawInt 0, rawInt (b.size : Nat), rawInt 1, .ref tp], spans := #[0, ((e + 1 : Nat) : Int), ((q + 7 : Nat) : Int), (e : Int)] } 1 .none) Q E s := by
  have e1 : ¬ ((decide (((q + 7 : Nat) : Int) < 0) || decide ((e : Int) < 0)) = true) := by simp; omega
  unfold reGroupText
  show wpAny _ _ (if (decide (((q + 7 : Nat) : Int) < 0) || decide ((e : Int) < 0)) = true then pure Value.none else reTextOf (.bytes b tb) >>= fun r => reSlice r.1 r.2 (q + 7) e) _ _ _
  rw [if_neg e1]
  refine wpAny_bind (wpAny_of_eq text_bytes ?_)
  show wpAny _ _ (mkBytes (((b.map (·.toNat)).extract (q + 7) e).map (·.toUInt8))) _ _ _
  rw [cut_bytes]
  exact wpAny_mkBytes h (by rw [sizeLine_eq, Array.size_extract]; omega)
theorem matType {mo tp : Addr} (h1 : s.heap.get? mo = some (matObj b tb tp)) : s.TypeIs (.ref mo) "re.Match" := ⟨_, h1, rfl⟩
theorem getMethod_group {M : Model} {pl : Sem Bool} {mo tp : Addr} {Q : Value × List Value → Shared → Prop} (h1 : s.heap.get? mo = some (matObj b tb tp)) (h : Q (.builtin "re.Match.group", [.ref mo]) s) : wpAny M A (getMethod (.ref mo) "group" pl) Q E s :=
  getMethod_builtin (matType h1) plainAttrs_mat slot_mat_group type_mat_group (fun a ha => by cases ha; exact ⟨_, h1, rfl⟩) h
theorem call_group {mo tp : Addr} {q e : Nat} {u : Tok} {Q : Value → Shared → Prop} (X : (Mine.hd.heap_39 w.params).In s.heap) (hs : b.size ≤ 1000000) (h1 : s.heap.get? mo = some (matObj b tb tp)) (h2 : s.heap.get? tp = some (spanObj q e))
    (h : ∀ t' k, Q (.bytes (b.extract (q + 7) e) t') { s with toks := k }) : wpAny (model prog w) A (call (.builtin "re.Match.group") [.ref mo, .str (Str.ofString "flags") u]) Q E s := by
  refine wpAny_call_entry slot_mat_group (matType h1) entry_mat_group ?_ (args_mat_group _ _)
  unfold Builtin.«re.Match.group»
  refine wpAny_bind (m := noKeywords _ _) (wpAny_pure ?_)
  refine wpAny_bind (found_eq h1 h2 ?_)
  refine wpAny_bind (number_eq X rfl rfl ?_)
  refine wpAny_bind (text_eq hs ?_)
  exact wpAny_pure ⟨_, rfl, h _ _⟩
end
end Mine
end
section
open PySem PySem.W PyProof.Rows PySem.Calls PySem.Spec
open PySem.Builtin
set_option maxRecDepth 100000
namespace Mine
theorem slot_b_split : Slot "bytes" "split" "bytes.split" :=
  .of (owner := "bytes") (n := "split") (by rw [typeLookup_type, builtinLookup_eq_fast]; kernel_rfl) (by decide +kernel) (by decide +kernel) (by decide +kernel)
    (by first | exact .inl (by decide +kernel) | exact .inr (by decide +kernel)) (by rw [isSubtype_type]; kernel_rfl)
theorem type_b_split : typeOf (.builtin "bytes.split") = pure (.type "method_descriptor") := by show builtinType _ = _; rw [builtinType_eq_fast]; kernel_rfl
theorem entry_b_split : entryFor table "bytes.split" = some Builtin.«bytes.split» := entryFor_of_tree (by kernel_rfl)
theorem args_b_split (a : Value) : argsOk "bytes.split" ⟨[a], []⟩ := by unfold argsOk; kernel_rfl
inductive BytesAre : List Value → List (Array UInt8) → Prop
  | nil : BytesAre [] []
  | cons (b : Array UInt8) (t : Tok) {vs bs} : BytesAre vs bs → BytesAre (.bytes b t :: vs) (b :: bs)
/-- the words between blanks -/
noncomputable def wsOf (b : Array UInt8) : List (Array UInt8) := if (!b.isEmpty && !b.any Bytes.isSpace) = true then [b] else (Bytes.words (b.size + 1) (b.size + 1) b.toList).map (·.toArray)
section
variable {prog : Program} {w : World} {A : Around} {E : Value → Shared → Prop} {s : Shared} {b : Array UInt8} {tb : Tok} {h₀ : Heap} {L : Addr} {m : Str → Option Value} {news : List (Addr × Obj)}
theorem mat_truthy {M : Model} {mo tp : Addr} {Q : Bool → Shared → Prop} (h1 : s.heap.get? mo = some (matObj b tb tp)) (h : Q true s) : wpAny M A (truthy (.ref mo)) Q E s := by
  unfold truthy
  refine wpAny_bind (wpAny_callSpecial?_none (matType h1) bool_mat ?_)
  refine wpAny_bind (wpAny_specialOf (matType h1) len_mat ?_)
  exact wpAny_pure h
theorem mk_many {M : Model} : ∀ (ws : List (List UInt8)) (s : Shared) (Q : List Value → Shared → Prop), (∀ x ∈ ws, x.length ≤ sizeLine) → (∀ vs k, BytesAre vs (ws.map (·.toArray)) → Q vs { s with toks := k }) → wpAny M A (ws.mapM fun x => mkBytes x.toArray) Q E s
  | [], s, Q, _, h => by
    rw [List.mapM_nil]
    exact wpAny_pure (h _ s.toks .nil)
  | x :: xs, s, Q, hl, h => by
    rw [List.mapM_cons]
    refine wpAny_bind (wpAny_mkBytes ?_ (by rw [List.size_toArray]; exact hl x List.mem_cons_self))
    refine wpAny_bind (mk_many xs _ _ (fun y hy => hl y (List.mem_cons_of_mem _ hy)) fun vs k hv => ?_)
    exact wpAny_pure (h _ k (.cons _ _ hv))
theorem words_len : ∀ (n l : Nat) (t : List UInt8), ∀ x ∈ Bytes.words n l t, x.length ≤ t.length
  | 0, l, t, x, hx => by simp [Bytes.words] at hx
  | n + 1, l, t, x, hx => by
    have hd : (t.dropWhile Bytes.isSpace).length ≤ t.length := (List.dropWhile_sublist _).length_le
    unfold Bytes.words at hx
    split at hx
    · simp at hx
    · split at hx
      · rw [List.mem_singleton.mp hx]; exact hd
      · rcases List.mem_cons.mp hx with rfl | hx
        · exact Nat.le_trans (List.takeWhile_sublist _).length_le hd
        · exact Nat.le_trans (words_len n _ _ x hx) (Nat.le_trans (List.dropWhile_sublist _).length_le hd)
theorem split_entry {Q : Value → Shared → Prop} (hs : b.size ≤ 1000000) (hw : (wsOf b).length ≤ 1000)
    (h : ∀ vs k, BytesAre vs (wsOf b) → Q (.ref s.heap.objs.size) { s with toks := k, heap := s.heap.push { cls := .type "list", data := .seq vs.toArray } }) :
    wpAny (model prog w) A (Builtin.«bytes.split» ⟨[.bytes b tb], []⟩) (fun fin s' => ∃ v, fin = .done (.ret v) ∧ Q v s') E s := by
  unfold Builtin.«bytes.split» Bytes.splitM
  dsimp only
  refine wpAny_bind (wpAny_of_eq (show Bytes.bindOptional _ "split" ["sep", "maxsplit"] [] [] = pure [none, none] from rfl) ?_)
  dsimp only
  refine wpAny_bind (wpAny_pure ?_)
  refine wpAny_bind (wpAny_of_eq (show Bytes.payload (.bytes b tb) = pure b from rfl) ?_)
  refine wpAny_bind (wpAny_rule ?_)
  have e1 : (if (-1 : Int) < 0 then b.size + 1 else (-1 : Int).toNat) = b.size + 1 := if_pos (by decide)
  have e2 : decide (b.size + 1 > 0) = true := decide_eq_true (Nat.succ_pos _)
  simp only [e1, e2, Bool.true_and, Bool.false_eq_true, if_false]
  by_cases hc : (!b.isEmpty && !b.any Bytes.isSpace) = true
  · simp only [hc, if_true]
    have ew : wsOf b = [b] := by unfold wsOf; rw [if_pos hc]
    rw [ew] at h
    refine wpAny_bind (wpAny_of_eq (show Bytes.Kind.bytes.same (.bytes b tb) = pure (.bytes b tb) from rfl) ?_)
    refine wpAny_bind (wpAny_newList ?_ (by rw [sizeLine_eq]; show 1 ≤ 16777216; decide))
    exact wpAny_pure ⟨_, rfl, h _ s.toks (.cons _ _ .nil)⟩
  · simp only [hc, Bool.false_eq_true, if_false]
    have ew : wsOf b = (Bytes.words (b.size + 1) (b.size + 1) b.toList).map (·.toArray) := by unfold wsOf; rw [if_neg hc]
    rw [ew] at h hw
    refine wpAny_bind (mk_many _ s _ (fun x hx => ?_) fun vs k hv => ?_)
    · have := words_len _ _ _ x hx
      rw [sizeLine_eq]
      have e3 : b.toList.length = b.size := Array.length_toList
      lia
    refine wpAny_bind (wpAny_newList ?_ ?_)
    · exact wpAny_pure ⟨_, rfl, h _ k hv⟩
    · have : ∀ {vs : List Value} {bs}, BytesAre vs bs → vs.length = bs.length := by
        intro vs bs q
        induction q with
        | nil => rfl
        | cons _ _ _ ih => rw [List.length_cons, List.length_cons, ih]
      rw [this hv, sizeLine_eq]
      lia
theorem getMethod_bsplit {M : Model} {pl : Sem Bool} {Q : Value × List Value → Shared → Prop} (h : Q (.builtin "bytes.split", [.bytes b tb]) s) : wpAny M A (getMethod (.bytes b tb) "split" pl) Q E s :=
  KBd.method_of (.bytes b tb) (typeIs_bytes _ _ _) slot_b_split type_b_split KBd.noRef h
theorem call_bsplit {Q : Value → Shared → Prop} (F : Fr h₀ L s.heap m) (N : News h₀ L s.heap news) (hs : b.size ≤ 1000000) (hw : (wsOf b).length ≤ 1000)
    (h : ∀ l vs k h', BytesAre vs (wsOf b) → Fr h₀ L h' m → News h₀ L h' ((l, ({ cls := .type "list", data := .seq vs.toArray } : Obj)) :: news) → Q (.ref l) { s with toks := k, heap := h' }) :
    wpAny (model prog w) A (call (.builtin "bytes.split") [.bytes b tb]) Q E s := by
  refine wpAny_call_entry slot_b_split (typeIs_bytes _ _ _) entry_b_split (split_entry hs hw fun vs k hv => ?_) (args_b_split _)
  exact h _ vs k _ hv (F.push _) (News.push F N _)
end
end Mine
end
section
open PySem PySem.W PyProof.Rows PySem.Calls PySem.Spec
set_option maxRecDepth 100000
namespace Mine
/-- what ParseFlags tells -/
noncomputable def flagWords (b : Array UInt8) : List (Array UInt8) := match flagsOf b with
  | none => []
  | some p => wsOf (b.extract (p.1 + 7) p.2)
theorem flagWords_none {b : Array UInt8} (h : flagsOf b = none) : flagWords b = [] := by unfold flagWords; rw [h]
theorem flagWords_some {b : Array UInt8} {q e : Nat} (h : flagsOf b = some (q, e)) : flagWords b = wsOf (b.extract (q + 7) e) := by unfold flagWords; rw [h]
theorem bytes_len {vs : List Value} {bs : List (Array UInt8)} (h : BytesAre vs bs) : vs.length = bs.length := by
  induction h with
  | nil => rfl
  | cons _ _ _ ih => rw [List.length_cons, List.length_cons, ih]
theorem bytes_fit {vs : List Value} {bs : List (Array UInt8)} (h : BytesAre vs bs) (hl : bs.length ≤ 1000) : vs.length ≤ sizeLine := by
  rw [bytes_len h, sizeLine_eq]; lia
theorem cut_size {b : Array UInt8} {i j : Nat} (h : b.size ≤ 1000) : (b.extract i j).size ≤ 1000000 := by rw [Array.size_extract]; lia
theorem cut_words {b : Array UInt8} {q e : Nat} (h : flagsOf b = some (q, e)) (hw : (flagWords b).length ≤ 1000) : (wsOf (b.extract (q + 7) e)).length ≤ 1000 := by rw [← flagWords_some h]; exact hw
local macro_rules | `(tactic| k_mem) => `(tactic| assumption)
local macro_rules | `(tactic| k_all) => `(tactic| assumption)
example (w : World) (h : Heap) : (Mine.hd.heap_39 w.params).In h → rprog = PySem.Challenge.rw_wy0014_01.prog → True := by
  k_fill
  intros; trivial

set_option maxHeartbeats 4000000 in
theorem parseFlags_spec {b : Array UInt8} {tb : Tok} {w : World} {mean : ExcName → Option Value} {mg mb : Str → Option Value} {dp un : Nat} {gd : Option (List Code)} {cn : Str} {cs : Scope} {a : Addr} {ccd : Value} {cl : List (Str × Addr)} {outer : List Env} {A₀ : Around} {base h₀ : Heap} {L : Addr} {m : Str → Option Value} {news : List (Addr × Obj)} {s : Shared} {Q E : Value → Shared → Prop}
   (B : Below A₀ base outer h₀) (F : Fr h₀ L s.heap m) (X : (Mine.hd.heap_39 w.params).In h₀) (N : News h₀ L s.heap news) (T : Top Mine.hd.view_39 lo mean mg mb h₀) (hk : cs.kind = .function) (hdp : dp + 30 < recursionLimit) (hun : un + 400 < cLine)
   (hx : b.size ≤ 1000) (h8 : 8 ≤ b.size) (hw : (flagWords b).length ≤ 1000)
   (hQ : ∀ q vs h' tk', BytesAre vs (flagWords b) → Fr h₀ L h' m → News h₀ L h' ((q, ({ cls := .type "tuple", data := .seq (List.toArray vs) } : Obj)) :: news) → (∀ p ∈ news, p.1 ≠ q) → (∀ b o, s.heap.get? b = some o → h'.get? b = some o) → Q (.ref q) { s with heap := h', toks := tk' }) :
   wpAny (model rprog w) (ktrTop dp un gd cn cs L a ccd cl outer) (call (.ref 43) [.bytes b tb]) Q E s := by
  refine wpAny_call ?_
  k_dflt (refine' code_def0 ?zzk1 ?zzk2 ?zzk3 ?zzk5 ?zzkA ?zzkF ?zzkK ?zzk6 ?zzk7 ?zzk8 ?zzk9 ?zzkB ?_ ?zzc2 ?zzc3 ?zzc4 ?zzc5; (case zzkA => exact rfl); (case zzkF => exact rfl); (case zzkK => first | assumption | exact rfl); (case zzk1 => k_asm); (case zzk2 => k_asm); (case zzk3 => k_asm); (case zzk5 => k_asm); (case zzk6 => k_is); (case zzk7 => k_is); (case zzk8 => ktr_room); (case zzk9 => first | exact BindsTo.of_eq rfl | exact binds_K (by k_in) rfl (by k_is) rfl rfl rfl | (refine' kp_binds ?zzkx ?zzke; (case zzkx => k_in); (case zzke => exact fun _ => rfl))); (case zzc5 => decide); (case zzkB => exact locs rfl); (case zzc2 => exact rfl); (case zzc3 => exact rfl); (case zzc4 => exact rfl); k_whole; intro _ _ _ _ B' _ _; (try dsimp only); (try k_lift B'); (try k_fold))
  w_strict (repeat' (first | (k_unfold; (try dsimp only)) | (k_end; wrow_close) | ((with_reducible show wpAny _ _ (call (Value.type "tuple") _ _) _ _ _); (k_here; k_dflt (refine' tuple_ofL ?zzF ?zzN ?zzl ?_ ?zzz; (case zzF => k_asm); (case zzN => k_asm); (case zzl => exact list_at (by k_asm) (List.Mem.head _)); (case zzz => exact bytes_fit (by assumption) (cut_words (by assumption) (by assumption))); k_whole); intro _ _ _ _ _)) | ((with_reducible show wpAny _ _ (call (Value.builtin "bytes.split") _ _) _ _ _); (k_here; k_dflt (refine' call_bsplit ?zzF ?zzN ?zza ?zzb ?_; (case zzF => k_asm); (case zzN => k_asm); (case zza => exact cut_size (by assumption)); (case zzb => exact cut_words (by assumption) (by assumption)); k_whole); intro _ _ _ _ _ _ _)) | ((with_reducible show wpAny _ _ (getMethod (Value.bytes ..) _ _) _ _ _); (k_here; (refine getMethod_bsplit ?_))) | ((with_reducible show wpAny _ _ (truthy (Value.ref _)) _ _ _); (k_here; k_dflt (refine' mat_truthy ?zzp ?_; (case zzp => exact ((by k_asm : News _ _ _ _) _ (List.Mem.head _)).1); k_whole))) | ((with_reducible show wpAny _ _ (call (Value.builtin "re.Match.group") _ _) _ _ _); (k_here; k_dflt (refine' call_group ?zzX ?zza ?zzp ?zzq ?_; (case zzX => k_in); (case zzp => exact ((by k_asm : News _ _ _ _) _ (List.Mem.head _)).1); (case zzq => exact ((by k_asm : News _ _ _ _) _ (List.Mem.tail _ (List.Mem.head _))).1); (case zza => lia); k_whole); intro _ _)) | ((with_reducible show wpAny _ _ (getMethod (Value.ref _) _ _) _ _ _); (k_here; (with_reducible show wpAny _ _ (getMethod (Value.ref _) (Str.ofString "group") _) _ _ _); k_dflt (refine' getMethod_group ?zzp ?_; (case zzp => exact ((by k_asm : News _ _ _ _) _ (List.Mem.head _)).1); k_whole))) | ((with_reducible show wpAny _ _ (call (Value.builtin "re.Pattern.match") _ _) _ _ _); (k_here; k_dflt (refine' call_match ?zzF ?zzN ?zzp ?zza ?zzb ?_ ?_; (case zzF => k_asm); (case zzN => k_asm); (case zzp => exact patAt (by k_in)); (case zza => lia); (case zzb => assumption)); (first | intro _ | intro _ _ _ _ _ _ _ _ _ _ _))) | ((with_reducible show wpAny _ _ (getMethod (Value.ref _) _ _) _ _ _); (k_here; (with_reducible show wpAny _ _ (getMethod (Value.ref 36) _ _) _ _ _); k_dflt (refine' getMethod_match ?zzp ?_; (case zzp => exact patAt (by k_in)); k_whole))) | ((with_reducible show wpAny _ _ (subscriptTail _ _ _ _) _ _ _); (k_here; k_dflt (refine' KXi.item ?zzk ?zza ?zzb ?zzc ?_; (case zzk => exact rfl); (case zza => (have q1 := find3_at (by assumption) (by lia)); lia); (case zzb => (have q1 := find3_at (by assumption) (by lia)); lia); (case zzc => lia); k_whole); intro _)) | ((with_reducible show wpAny _ _ (call (Value.type "str") _ _) _ _ _); (k_here; k_dflt (refine' str_own ?zzu ?zzX ?zzN ?zzG ?zzs ?zzb ?_; (case zzG => assumption); (case zzN => assumption); (case zzX => k_in); (case zzu => first | ktr_units | k_units); (case zzs => k_is); (case zzb => k_is); k_whole))) | ((with_reducible show wpAny _ _ (call (Value.ref _) _ _) _ _ _); (k_here; k_dflt (fail))) | walk1 | (dsimp only; first | ((with_reducible show wpAny _ _ (call (Value.type "tuple") _ _) _ _ _); (k_here; k_dflt (refine' tuple_ofL ?zzF ?zzN ?zzl ?_ ?zzz; (case zzF => k_asm); (case zzN => k_asm); (case zzl => exact list_at (by k_asm) (List.Mem.head _)); (case zzz => exact bytes_fit (by assumption) (cut_words (by assumption) (by assumption))); k_whole); intro _ _ _ _ _)) | ((with_reducible show wpAny _ _ (call (Value.builtin "bytes.split") _ _) _ _ _); (k_here; k_dflt (refine' call_bsplit ?zzF ?zzN ?zza ?zzb ?_; (case zzF => k_asm); (case zzN => k_asm); (case zza => exact cut_size (by assumption)); (case zzb => exact cut_words (by assumption) (by assumption)); k_whole); intro _ _ _ _ _ _ _)) | ((with_reducible show wpAny _ _ (getMethod (Value.bytes ..) _ _) _ _ _); (k_here; (refine getMethod_bsplit ?_))) | ((with_reducible show wpAny _ _ (truthy (Value.ref _)) _ _ _); (k_here; k_dflt (refine' mat_truthy ?zzp ?_; (case zzp => exact ((by k_asm : News _ _ _ _) _ (List.Mem.head _)).1); k_whole))) | ((with_reducible show wpAny _ _ (call (Value.builtin "re.Match.group") _ _) _ _ _); (k_here; k_dflt (refine' call_group ?zzX ?zza ?zzp ?zzq ?_; (case zzX => k_in); (case zzp => exact ((by k_asm : News _ _ _ _) _ (List.Mem.head _)).1); (case zzq => exact ((by k_asm : News _ _ _ _) _ (List.Mem.tail _ (List.Mem.head _))).1); (case zza => lia); k_whole); intro _ _)) | ((with_reducible show wpAny _ _ (getMethod (Value.ref _) _ _) _ _ _); (k_here; (with_reducible show wpAny _ _ (getMethod (Value.ref _) (Str.ofString "group") _) _ _ _); k_dflt (refine' getMethod_group ?zzp ?_; (case zzp => exact ((by k_asm : News _ _ _ _) _ (List.Mem.head _)).1); k_whole))) | ((with_reducible show wpAny _ _ (call (Value.builtin "re.Pattern.match") _ _) _ _ _); (k_here; k_dflt (refine' call_match ?zzF ?zzN ?zzp ?zza ?zzb ?_ ?_; (case zzF => k_asm); (case zzN => k_asm); (case zzp => exact patAt (by k_in)); (case zza => lia); (case zzb => assumption)); (first | intro _ | intro _ _ _ _ _ _ _ _ _ _ _))) | ((with_reducible show wpAny _ _ (getMethod (Value.ref _) _ _) _ _ _); (k_here; (with_reducible show wpAny _ _ (getMethod (Value.ref 36) _ _) _ _ _); k_dflt (refine' getMethod_match ?zzp ?_; (case zzp => exact patAt (by k_in)); k_whole))) | ((with_reducible show wpAny _ _ (subscriptTail _ _ _ _) _ _ _); (k_here; k_dflt (refine' KXi.item ?zzk ?zza ?zzb ?zzc ?_; (case zzk => exact rfl); (case zza => (have q1 := find3_at (by assumption) (by lia)); lia); (case zzb => (have q1 := find3_at (by assumption) (by lia)); lia); (case zzc => lia); k_whole); intro _)) | ((with_reducible show wpAny _ _ (call (Value.type "str") _ _) _ _ _); (k_here; k_dflt (refine' str_own ?zzu ?zzX ?zzN ?zzG ?zzs ?zzb ?_; (case zzG => assumption); (case zzN => assumption); (case zzX => k_in); (case zzu => first | ktr_units | k_units); (case zzs => k_is); (case zzb => k_is); k_whole))) | ((with_reducible show wpAny _ _ (call (Value.ref _) _ _) _ _ _); (k_here; k_dflt (fail))) | walk1) | (leave1; try dsimp only) | fail "no step"))
  · rename_i kF9 kN9 T9 X9 K9
    rename News s.heap _ _ _ => N9
    have q9 := kN9 _ (.head _)
    have q8 := N9 _ (.head _)
    refine hQ _ [] _ _ (by rw [flagWords_none (by assumption)]; exact .nil) kF9 (News.push9 q9 (news_kept N K9)) (fun p hp e => ?_) K9
    rw [← e, (N p hp).1] at q8
    cases q8.2.2
  · rename_i kF9 kN9 T9 X9 K9
    rename News s.heap _ _ _ => N9
    rename BytesAre _ _ => hv9
    have q9 := kN9 _ (.head _)
    have q8 := N9 _ (.head _)
    refine hQ _ _ _ _ (by rw [flagWords_some (by assumption)]; exact hv9) kF9 (News.push9 q9 (news_kept N K9)) (fun p hp e => ?_) K9
    rw [← e, (N p hp).1] at q8
    cases q8.2.2
end Mine
end
section
open PySem PySem.W PyProof.Rows PySem.Calls PySem.Spec
set_option maxRecDepth 100000
namespace Mine
local macro_rules | `(tactic| omega) => `(tactic| lia)
local macro_rules | `(tactic| ktr_unf) => `(tactic| first | assumption | (dsimp only; (repeat (first | (rw [if_pos (by decide)]) | (rw [if_neg (by decide)]))); first | rfl | assumption))
local macro_rules | `(tactic| k_all) => `(tactic| assumption)
local macro_rules | `(tactic| k_mem) => `(tactic| assumption)
example (w : World) (h : Heap) : (Mine.hd.heap_39 w.params).In h → rprog = PySem.Challenge.rw_wy0014_01.prog → True := by
  k_fill
  intros; trivial
/-- the four rows of ways, in a ledger -/
noncomputable def WaysIn (news : List (Addr × Obj)) (lw : Addr) : Prop := ∃ l0 l1 l2 l3 v0 v1 v2 v3 n n0 n1 n2 n3, (lw, listOf #[.ref l0, .ref l1, .ref l2, .ref l3] n) ∈ news ∧ (l0, listOf (List.toArray v0) n0) ∈ news ∧ (l1, listOf (List.toArray v1) n1) ∈ news ∧ (l2, listOf (List.toArray v2) n2) ∈ news ∧ (l3, listOf (List.toArray v3) n3) ∈ news ∧
  IntsAre v0 (List.replicate 8 1) ∧ IntsAre v1 row1 ∧ IntsAre v2 row2 ∧ IntsAre v3 row3
theorem ints_to {vs : List Value} {l l' : List Int} (h : IntsAre vs l) (e : l = l') : IntsAre vs l' := e ▸ h
theorem WaysIn.at_ {g h : Heap} {L : Addr} {news : List (Addr × Obj)} {lw : Addr} (W : WaysIn news lw) (N : News g L h news) : Ways h lw := by
  obtain ⟨l0, l1, l2, l3, v0, v1, v2, v3, n, n0, n1, n2, n3, m, m0, m1, m2, m3, i⟩ := W
  have at1 : ∀ {l : Addr} {its : Array Value} {k : Nat}, (l, listOf its k) ∈ news → h.IsList l its := fun hl => ⟨_, (N _ hl).1, rfl, _, rfl⟩
  exact ⟨l0, l1, l2, l3, v0, v1, v2, v3, at1 m, at1 m0, at1 m1, at1 m2, at1 m3, i⟩
section
variable (base : Heap) (w : World) (mean : ExcName → Option Value) (mg mb : Str → Option Value) (A : Around) (g : Heap) (L a : Addr) (ccd : Value) (s : Shared) (m : Str → Option Value) (news : List (Addr × Obj)) (Q : Flow → Shared → Prop) (E : Value → Shared → Prop)

set_option maxHeartbeats 8000000 in
theorem st_ways (oc1 oc2 : Obj) (hc1 : oc1.data = .cell none) (hc2 : oc2.data = .cell none)
   (X : (Mine.hd.heap_39 w.params).In g) (T : Top Mine.hd.view_39 lo mean mg mb g) (F : Fr g L s.heap m) (N : News g L s.heap ([(L + 1 + 1, oc2), (L + 1, oc1)])) (B : Below callerA base [] g)
   (hQ : ∀ lw pre h' tk', Fr g L h' (fun y => if y = Str.ofString "ways" then some (.ref lw) else m y) → News g L h' (pre ++ [(L + 1 + 1, oc2), (L + 1, oc1)]) → WaysIn pre lw → (∀ p ∈ pre, p.1 ≠ L + 1 + 1 ∧ p.1 ≠ L + 1) → Q .next { s with heap := h', toks := tk' }) :
   wpAny (model rprog w) (callerA.deeper (envOfC (Str.ofString "law") lawScope L a ccd)) (exec (lawS 0) (envOfC (Str.ofString "law") lawScope L a ccd)) Q E s := by
  show wpAny _ _ (exec (Stmt.Assign _ _ _) _) _ _ _
  w_strict (repeat' (first | (k_unfold; (try dsimp only)) | (k_end; wrow_close) | ((with_reducible show wpAny _ _ (call (Value.type "list") _ _) _ _ _); (k_here; (rename IsRange _ _ _ _ _ _ _ _ => rgX); k_dflt (refine' kll_range (n := 8) ?zzk0 ?zzk1 ?zzk2 ?zzk3 ?zzk4 ?zzk5 ?zzk6 ?_; (case zzk0 => exact rfl); (case zzk1 => k_asm); (case zzk2 => k_asm); (case zzk3 => exact rgX); (case zzk4 => decide); (case zzk5 => decide); (case zzk6 => decide); k_whole); intro _ _ _ _ _ _ _ l1 _; (try k_lt l1); (try k_sweep))) | ((with_reducible show wpAny _ _ (eval (Expr.Name ..) _) _ _ _); (k_here; k_dflt (first | (refine' nameX_L ?zzF ?zzv ?_ ?zza ?zzb; (case zzF => k_asm); (case zza => rfl); (case zzb => rfl); (case zzv => ktr_unf); k_whole) | (refine' nameX_C ?zzN ?zzc ?zzm ?zzd ?_ ?zza ?zzb; (case zza => rfl); (case zzb => rfl); (case zzN => k_asm); (case zzc => rfl); (case zzm => first | k_mem | assumption); (case zzd => first | assumption | rfl); k_whole)))) | walk1 | (dsimp only; first | ((with_reducible show wpAny _ _ (call (Value.type "list") _ _) _ _ _); (k_here; (rename IsRange _ _ _ _ _ _ _ _ => rgX); k_dflt (refine' kll_range (n := 8) ?zzk0 ?zzk1 ?zzk2 ?zzk3 ?zzk4 ?zzk5 ?zzk6 ?_; (case zzk0 => exact rfl); (case zzk1 => k_asm); (case zzk2 => k_asm); (case zzk3 => exact rgX); (case zzk4 => decide); (case zzk5 => decide); (case zzk6 => decide); k_whole); intro _ _ _ _ _ _ _ l1 _; (try k_lt l1); (try k_sweep))) | ((with_reducible show wpAny _ _ (eval (Expr.Name ..) _) _ _ _); (k_here; k_dflt (first | (refine' nameX_L ?zzF ?zzv ?_ ?zza ?zzb; (case zzF => k_asm); (case zza => rfl); (case zzb => rfl); (case zzv => ktr_unf); k_whole) | (refine' nameX_C ?zzN ?zzc ?zzm ?zzd ?_ ?zza ?zzb; (case zza => rfl); (case zzb => rfl); (case zzN => k_asm); (case zzc => rfl); (case zzm => first | k_mem | assumption); (case zzd => first | assumption | rfl); k_whole)))) | walk1) | (leave1; try dsimp only) | fail "no step"))
  rename News g L _ _ => N9
  rename Fr g L _ _ => F9
  rename IntsAre _ (List.map _ _) => i3
  revert i3
  rename IntsAre _ (List.map _ _) => i2
  intro i3
  rename IntsAre _ (List.flatten _) => i0
  rename IntsAre _ (rangeKs 0 8) => i1
  have e3 := ints_to (l' := row3) i3 (by decide)
  have e2 := ints_to (l' := row2) i2 (by decide)
  have e1 := ints_to (l' := row1) i1 (by decide)
  have e0 := ints_to (l' := List.replicate 8 1) i0 (by decide)
  refine hQ _ [_, _, _, _, _, _, _, _] _ _ F9 N9 ⟨_, _, _, _, _, _, _, _, _, _, _, _, _, List.mem_cons_self, (List.mem_cons_of_mem _ List.mem_cons_self), (List.mem_cons_of_mem _ (List.mem_cons_of_mem _ (List.mem_cons_of_mem _ (List.mem_cons_of_mem _ (List.mem_cons_of_mem _ List.mem_cons_self))))), (List.mem_cons_of_mem _ (List.mem_cons_of_mem _ (List.mem_cons_of_mem _ (List.mem_cons_of_mem _ List.mem_cons_self)))), (List.mem_cons_of_mem _ (List.mem_cons_of_mem _ (List.mem_cons_of_mem _ List.mem_cons_self))), e0, e1, e2, e3⟩ fun p hp => ?_
  simp only [List.mem_cons, List.not_mem_nil, or_false] at hp
  rcases hp with rfl | rfl | rfl | rfl | rfl | rfl | rfl | rfl <;> (constructor <;> (intro e; dsimp only at e; (have e' : @Eq Nat _ _ := e); lia))
end
end Mine
end
section
open PySem PySem.W PyProof.Rows PySem.Calls PySem.Spec PySem.SeqAt
set_option maxRecDepth 100000
namespace Mine
section
variable {prog : Program} {w : World} {A : Around} {E : Value → Shared → Prop} {s : Shared}
theorem bytes_get {vs : List Value} {bs : List (Array UInt8)} (h : BytesAre vs bs) {j : Nat} (hj : j < vs.length) : ∃ t, vs[j] = .bytes (bs.getD j #[]) t := by
  induction h generalizing j with
  | nil => exact absurd hj (Nat.not_lt_zero _)
  | cons b t _ ih =>
    cases j with
    | zero => exact ⟨t, rfl⟩
    | succ j => exact ih (j := j) (Nat.lt_of_succ_lt_succ hj)
theorem eqAt_bytes {b : Array UInt8} {t u : Tok} : EqAt A s (.bytes b t) (.bytes b u) true := fun prog w E Q h => eqBool_bytes (by simpa using h)
/-- two tuples of the same bytes are not unlike -/
theorem ne_bytes_same {l b : Addr} {vs us : List Value} {bs cs : List (Array UInt8)} {Q : Value → Shared → Prop} (hl : s.heap.IsTuple l vs.toArray) (hb : s.heap.IsTuple b us.toArray) (hv : BytesAre vs bs) (hw : BytesAre us cs) (e : bs = cs) (hu : A.units < cLine) (h : Q (.bool false) s) :
    wpAny (model prog w) A (compareOp .NotEq (.ref l) (.ref b)) Q E s := by
  subst e
  have he : ∀ j (h1 : j < vs.toArray.size) (h2 : j < us.toArray.size), EqAt A.in1 s vs.toArray[j] us.toArray[j] ((fun _ => true) j) := fun j h1 h2 => by
    obtain ⟨t, et⟩ := bytes_get hv (j := j) (by simpa using h1)
    obtain ⟨u, eu⟩ := bytes_get hw (j := j) (by simpa using h2)
    rw [List.getElem_toArray, List.getElem_toArray, et, eu]
    exact eqAt_bytes
  have q := RcNeAt.tuples hl hb hu he
  have z : (!((List.range (min vs.toArray.size us.toArray.size)).all (fun _ => true) && vs.toArray.size == us.toArray.size)) = false := by
    have e1 := bytes_len hv
    have e2 := bytes_len hw
    simp [e1, e2]
  rw [z] at q
  exact q prog w E Q h
end
end Mine
end
section
open PySem PySem.W PyProof.Rows PySem.Calls PySem.Spec
set_option maxRecDepth 100000
namespace Mine
/-- a turn of a clause of a comprehension that has a clause below it -/
noncomputable def nestTurn (e : PySem.Expr) (d : Nat) (target iter iter' : PySem.Expr) (it acc : Value) (env : Env) : Sem Fin :=
  standAt iter.pos >>= fun _ => pyNext it >>= fun r => match r with
    | none => pure (.done .next)
    | some v => letOwnedTupleGo target it v >>= fun _ => assign target env v >>= fun _ =>
      (eval iter' env >>= fun x => standAt iter'.pos >>= fun _ => foldedSetIterable iter' env x >>= fun x => holding [x] (pyIter x) >>= fun it2 => runOwn (.compStart e (d + 1) it2 acc env) env >>= fun _ => again (.compLoop e d it acc env))
noncomputable def leafTurn (e : PySem.Expr) (d : Nat) (target iter elt : PySem.Expr) (it acc : Value) (env : Env) : Sem Fin :=
  standAt iter.pos >>= fun _ => pyNext it >>= fun r => match r with
    | none => pure (.done .next)
    | some v => letOwnedTupleGo target it v >>= fun _ => assign target env v >>= fun _ =>
      (eval elt env >>= fun x => call (.builtin "list.append") [acc, x] >>= fun _ => pure ()) >>= fun _ => again (.compLoop e d it acc env)
theorem turn3_0 (elt t0 i0 t1 i1 t2 i2 : PySem.Expr) (scope : Scope) (pos : Pos) (it acc : Value) (env : Env) :
    compTurn (.ListComp elt [⟨t0, i0, [], 0⟩, ⟨t1, i1, [], 0⟩, ⟨t2, i2, [], 0⟩] scope pos) 0 it acc env = nestTurn (.ListComp elt [⟨t0, i0, [], 0⟩, ⟨t1, i1, [], 0⟩, ⟨t2, i2, [], 0⟩] scope pos) 0 t0 i0 i1 it acc env := by rfl
theorem turn3_1 (elt t0 i0 t1 i1 t2 i2 : PySem.Expr) (scope : Scope) (pos : Pos) (it acc : Value) (env : Env) :
    compTurn (.ListComp elt [⟨t0, i0, [], 0⟩, ⟨t1, i1, [], 0⟩, ⟨t2, i2, [], 0⟩] scope pos) 1 it acc env = nestTurn (.ListComp elt [⟨t0, i0, [], 0⟩, ⟨t1, i1, [], 0⟩, ⟨t2, i2, [], 0⟩] scope pos) 1 t1 i1 i2 it acc env := by rfl
theorem turn3_2 (elt t0 i0 t1 i1 t2 i2 : PySem.Expr) (scope : Scope) (pos : Pos) (it acc : Value) (env : Env) :
    compTurn (.ListComp elt [⟨t0, i0, [], 0⟩, ⟨t1, i1, [], 0⟩, ⟨t2, i2, [], 0⟩] scope pos) 2 it acc env = leafTurn (.ListComp elt [⟨t0, i0, [], 0⟩, ⟨t1, i1, [], 0⟩, ⟨t2, i2, [], 0⟩] scope pos) 2 t2 i2 elt it acc env := by rfl
theorem turn2_0 (elt t0 i0 t1 i1 : PySem.Expr) (scope : Scope) (pos : Pos) (it acc : Value) (env : Env) :
    compTurn (.ListComp elt [⟨t0, i0, [], 0⟩, ⟨t1, i1, [], 0⟩] scope pos) 0 it acc env = nestTurn (.ListComp elt [⟨t0, i0, [], 0⟩, ⟨t1, i1, [], 0⟩] scope pos) 0 t0 i0 i1 it acc env := by rfl
theorem turn2_1 (elt t0 i0 t1 i1 : PySem.Expr) (scope : Scope) (pos : Pos) (it acc : Value) (env : Env) :
    compTurn (.ListComp elt [⟨t0, i0, [], 0⟩, ⟨t1, i1, [], 0⟩] scope pos) 1 it acc env = leafTurn (.ListComp elt [⟨t0, i0, [], 0⟩, ⟨t1, i1, [], 0⟩] scope pos) 1 t1 i1 elt it acc env := by rfl
noncomputable abbrev NoE : Value → Shared → Prop := fun _ _ => False
section
variable {prog : Program} {w : World} {A : Around} {R : Result → Shared → Prop} {s : Shared} {x0 target iter iter' elt : PySem.Expr} {gens : List Comprehension} {scope : Scope} {pos : Pos} {d : Nat} {it acc : Value} {env : Env}
theorem loop_nest (heq : compTurn (.ListComp x0 gens scope pos) d it acc env = nestTurn (.ListComp x0 gens scope pos) d target iter iter' it acc env) (I : Nat → Shared → Prop)
    (turn : ∀ n s, I n s → wpAny (model prog w) A (pyNext it) (fun r s₁ => match r with
      | none => R (.ok .next) s₁
      | some v => wpAny (model prog w) A (assign target env v) (fun _ s₂ => wpAny (model prog w) A (eval iter' env) (fun x s₃ => wpAny (model prog w) A (pyIter x) (fun it2 s₄ =>
          codeAny (model prog w) A (.compStart (.ListComp x0 gens scope pos) (d + 1) it2 acc env) (fun r s₅ => ∃ f, r = .ok f ∧ ∃ m, m < n ∧ I m s₅) s₄) NoE s₃) NoE s₂) NoE s₁) NoE s)
    (n : Nat) (h : I n s) (ht : ∀ v, letOwnedTupleGo target it v = pure ()) (hs : ∀ x, foldedSetIterable iter' env x = pure x) :
    codeAny (model prog w) A (.compLoop (.ListComp x0 gens scope pos) d it acc env) R s := by
  refine codeAny_loop rfl I (fun n s hI => ?_) n h
  show wpAny _ A ((compTurn (.ListComp x0 gens scope pos) d it acc env).onRaise (fun x => do noteFrame x env; theTreesLotGoes x)) _ _ s
  refine wpAny_noted ?_
  rw [heq]
  refine wpAny_bind (wpAny_standAt (wpAny_bind (wpAny_mono (turn n s hI) (fun r s₁ h₁ => ?_) fun _ _ h' => h'.elim)))
  cases r with
  | none => exact wpAny_pure h₁
  | some v =>
    refine wpAny_bind (wpAny_of_eq (ht v) ?_)
    refine wpAny_bind (wpAny_mono h₁ (fun _ s₂ h₂ => wpAny_bind (wpAny_mono h₂ (fun x s₃ h₃ => wpAny_bind (wpAny_standAt (wpAny_bind (wpAny_of_eq (hs x) ?_)))) fun _ _ h' => h'.elim)) fun _ _ h' => h'.elim)
    refine wpAny_bind (wpAny_holding (wpAny_mono h₃ (fun it2 s₄ h₄ => wpAny_bind (wpAny_runOwn (codeAny_mono h₄ fun r s₅ h₅ => ?_))) fun _ _ h' => h'.elim))
    obtain ⟨f, rfl, h₅⟩ := h₅
    exact wpAny_pure ⟨rfl, h₅⟩
theorem loop_leaf (heq : compTurn (.ListComp x0 gens scope pos) d it acc env = leafTurn (.ListComp x0 gens scope pos) d target iter elt it acc env) (I : Nat → Shared → Prop)
    (turn : ∀ n s, I n s → wpAny (model prog w) A (pyNext it) (fun r s₁ => match r with
      | none => R (.ok .next) s₁
      | some v => wpAny (model prog w) A (assign target env v) (fun _ s₂ => wpAny (model prog w) A (eval elt env) (fun x s₃ =>
          wpAny (model prog w) A (call (.builtin "list.append") [acc, x]) (fun _ s₄ => ∃ m, m < n ∧ I m s₄) NoE s₃) NoE s₂) NoE s₁) NoE s)
    (n : Nat) (h : I n s) (ht : ∀ v, letOwnedTupleGo target it v = pure ()) :
    codeAny (model prog w) A (.compLoop (.ListComp x0 gens scope pos) d it acc env) R s := by
  refine codeAny_loop rfl I (fun n s hI => ?_) n h
  show wpAny _ A ((compTurn (.ListComp x0 gens scope pos) d it acc env).onRaise (fun x => do noteFrame x env; theTreesLotGoes x)) _ _ s
  refine wpAny_noted ?_
  rw [heq]
  refine wpAny_bind (wpAny_standAt (wpAny_bind (wpAny_mono (turn n s hI) (fun r s₁ h₁ => ?_) fun _ _ h' => h'.elim)))
  cases r with
  | none => exact wpAny_pure h₁
  | some v =>
    refine wpAny_bind (wpAny_of_eq (ht v) ?_)
    exact wpAny_bind (wpAny_mono h₁ (fun _ s₂ h₂ => wpAny_bind (wpAny_bind (wpAny_mono h₂ (fun x s₃ h₃ => wpAny_bind (wpAny_mono h₃
      (fun _ s₄ h₄ => wpAny_pure (wpAny_pure ⟨rfl, h₄⟩)) fun _ _ h' => h'.elim)) fun _ _ h' => h'.elim))) fun _ _ h' => h'.elim)
theorem start_any {ifs : List PySem.Expr} (hg : (clausesOf (.ListComp x0 gens scope pos))[d]? = some ⟨target, iter, ifs, 0⟩)
    (h0 : codeAny (model prog w) A (.compLoop (.ListComp x0 gens scope pos) d it acc env) R s)
    (h : wpAny (model prog w) A (pyIter it) (fun it' s' => codeAny (model prog w) A (.compLoop (.ListComp x0 gens scope pos) d it' acc env) R s') NoE s) :
    codeAny (model prog w) A (.compStart (.ListComp x0 gens scope pos) d it acc env) R s := by
  refine codeAny_of_tree ?_
  show wpAny _ _ ((compStart (.ListComp x0 gens scope pos) d it acc env).onRaise (fun x => do noteFrame x env; standAt theWindowsPlace)) _ _ s
  refine wpAny_notedAt ?_
  unfold compStart
  rw [hg]
  show wpAny _ _ (ask >>= _) _ _ s
  refine wpAny_bind (wpAny_askSetting (wpAny_ite ?_))
  split
  · first
      | exact wpAny_bind (wpAny_pure (wpAny_pure (And.intro rfl h0)))
      | exact wpAny_pure (And.intro rfl h0)
  · have h' := wpAny_mono h (fun it' s' h' => h') (E' := notedBy (model prog w) A env fun x s' => R (.error x) s') fun _ _ h' => h'.elim
    first
      | exact wpAny_bind (wpAny_rule (wpAny_bind (wpAny_standAt (wpAny_bind (wpAny_mono h' (fun it' s' h' => wpAny_pure (And.intro rfl h')) fun _ _ x => x)))))
      | (refine wpAny_bind (wpAny_rule ?_); show wpAny _ _ (standAt iter.pos >>= _) _ _ s; exact wpAny_bind (wpAny_standAt (wpAny_bind (wpAny_mono h' (fun it' s' h' => wpAny_pure (And.intro rfl h')) fun _ _ x => x))))
end
end Mine
end
section
open PySem PySem.W PyProof.Rows PySem.Calls PySem.Spec PyProof.Rows.LCg
set_option maxRecDepth 100000
namespace Mine
/-- a comprehension's state: its frame C, its list D, the frame of the def it stands in, and the other things made -/
structure CSt (h₀ : Heap) (L : Addr) (m : Str → Option Value) (C D : Addr) (mC : Str → Option Value) (ys : List Value) (extra : List (Addr × Obj)) (h : Heap) : Prop where
  fr : Fr h₀ L h m
  led : News h₀ L h extra
  dl : h.get? D = some (lst ys)
  ns : h.Ns C mC
  cd : C ≠ D
  cl : C ≠ L
  dL : D ≠ L
  c0 : h₀.get? C = none
  d0 : h₀.get? D = none
  offs : ∀ p ∈ extra, p.1 ≠ C ∧ p.1 ≠ D
section
variable {prog : Program} {w : World} {A : Around} {s : Shared} {h₀ : Heap} {L C D I : Addr} {m mC : Str → Option Value} {ys : List Value} {extra : List (Addr × Obj)} {env : Env} {scope : Scope} {cl : List (Str × Addr)} {x : Str} {px : Pos} {a : Int} {n i : Nat}
theorem turn_range {INNER R0 : Shared → Prop} (hh : A.handled = none) (hkind : scope.kind = .function) (hx : scope.names.lookup x = some .local) (hi : i ≤ n) (st : CSt h₀ L m C D mC ys extra s.heap) (hI : IsRangeIter s.heap I (a + (i : Nat) * 1) ((n : Int) - (i : Nat)) 1)
    (iC : I ≠ C) (iD : I ≠ D) (iL : I ≠ L) (i0 : h₀.get? I = none) (ix : ∀ p ∈ extra, p.1 ≠ I)
    (more : i < n → ∀ t h tk, CSt h₀ L m C D (fun z => if z = x then some (.int (a + i) t) else mC z) ys extra h → IsRangeIter h I (a + ((i + 1 : Nat) : Int) * 1) ((n : Int) - ((i + 1 : Nat) : Int)) 1 → INNER { s with heap := h, toks := tk })
    (done : i = n → ∀ h tk, CSt h₀ L m C D mC ys extra h → R0 { s with heap := h, toks := tk }) :
    wpAny (model prog w) A (pyNext (.ref I)) (fun r s₁ => match r with | none => R0 s₁ | some v => wpAny (model prog w) A (assign (.Name x px) (compEnvC scope cl C env) v) (fun _ s₂ => INNER s₂) NoE s₁) NoE s := by
  have W := range_walks (prog := prog) (w := w) (A := A) (I := I) hh a n
  have step : ∀ {h : Heap}, (∀ b o, b ∉ [I] → s.heap.get? b = some o → h.get? b = some o) → CSt h₀ L m C D mC ys extra h := fun hk =>
    ⟨fr_but st.fr hk iL.symm i0, news_but st.led hk ix, hk D _ (by simpa using iD.symm) st.dl, st.ns.at' fun o e => hk C o (by simpa using iC.symm) e, st.cd, st.cl, st.dL, st.c0, st.d0, st.offs⟩
  by_cases hlt : i < n
  · refine W.item i _ _ _ hlt hI fun v h₂ tk₂ hPv hst₂ hk₂ => ?_
    obtain ⟨t, rfl⟩ := hPv
    have st₂ := step hk₂
    refine wpAny_assign_Name (wpAny_storeName_local (lookup_relabel_local hx) st₂.ns (fun h₃ hn₃ hs₃ => ?_) (by simp [compEnvC, relabel, hkind]))
    have keep : ∀ b o, b ≠ C → h₂.get? b = some o → h₃.get? b = some o := fun b o hb e => hs₃.extBut b o hb e
    refine more hlt t h₃ _ ⟨st₂.fr.change hs₃ st.cl st.c0, fun p hp => ⟨keep _ _ (st.offs p hp).1 (st₂.led p hp).1, (st₂.led p hp).2⟩, keep _ _ st.cd.symm st₂.dl, hn₃, st.cd, st.cl, st.dL, st.c0, st.d0, st.offs⟩ ?_
    exact W.frame _ _ _ hst₂ fun b hb o e => keep b o (fun q => iC (by rw [← List.mem_singleton.mp hb]; exact q)) e
  · obtain rfl : i = n := Nat.le_antisymm hi (Nat.not_lt.mp hlt)
    exact W.done _ _ _ hI fun h₂ tk₂ hk₂ => done rfl h₂ tk₂ (step hk₂)
/-- a whole clause over a range, by what holds after i of its items -/
theorem level {INNER : Shared → (Shared → Prop) → Prop} {Code0 : (Shared → Prop) → Prop} {J : Nat → (Str → Option Value) → List Value → List (Addr × Obj) → Prop}
    (loop : ∀ (R0 : Shared → Prop) (Inv : Nat → Shared → Prop), (∀ k s, Inv k s → wpAny (model prog w) A (pyNext (.ref I)) (fun r s₁ => match r with
        | none => R0 s₁
        | some v => wpAny (model prog w) A (assign (.Name x px) (compEnvC scope cl C env) v) (fun _ s₂ => INNER s₂ (fun s₅ => ∃ m, m < k ∧ Inv m s₅)) NoE s₁) NoE s) → ∀ k, Inv k s → Code0 R0)
    (hh : A.handled = none) (hkind : scope.kind = .function) (hx : scope.names.lookup x = some .local)
    (st : CSt h₀ L m C D mC ys extra s.heap) (hI : IsRangeIter s.heap I a n 1) (iC : I ≠ C) (iD : I ≠ D) (iL : I ≠ L) (i0 : h₀.get? I = none) (ix : ∀ p ∈ extra, p.1 ≠ I) (hJ : J 0 mC ys extra)
    (body : ∀ i, i < n → ∀ t mC ys extra h tk o (K : Shared → Prop), J i mC ys extra → CSt h₀ L m C D (fun z => if z = x then some (.int (a + (i : Nat)) t) else mC z) ys ((I, o) :: extra) h → (∀ p ∈ extra, p.1 ≠ I) → o.cls ≠ .type "tuple" →
      (∀ mC' ys' extra' h' tk', CSt h₀ L m C D mC' ys' ((I, o) :: extra') h' → (∀ p ∈ extra', p.1 ≠ I) → J (i + 1) mC' ys' extra' → K { s with heap := h', toks := tk' }) → INNER { s with heap := h, toks := tk } K)
    {R0 : Shared → Prop} (done : ∀ mC' ys' extra' h' tk', CSt h₀ L m C D mC' ys' extra' h' → J n mC' ys' extra' → R0 { s with heap := h', toks := tk' }) : Code0 R0 := by
  refine loop R0 (fun k s' => ∃ i mC ys extra h tk, s' = { s with heap := h, toks := tk } ∧ i ≤ n ∧ k = n - i ∧ CSt h₀ L m C D mC ys extra h ∧ IsRangeIter h I (a + (i : Nat) * 1) ((n : Int) - (i : Nat)) 1 ∧ (∀ p ∈ extra, p.1 ≠ I) ∧ J i mC ys extra) ?_ n
    ⟨0, mC, ys, extra, s.heap, s.toks, rfl, Nat.zero_le _, (Nat.sub_zero _).symm, st, by simpa using hI, ix, hJ⟩
  rintro k s' ⟨i, mC, ys, extra, h, tk, rfl, hi, rfl, st, hI, ix, hJ⟩
  refine turn_range hh hkind hx hi st hI iC iD iL i0 ix (fun hlt t h₂ tk₂ st₂ hI₂ => ?_) fun e h₂ tk₂ st₂ => ?_
  · obtain ⟨o, ho⟩ : ∃ o, h₂.get? I = some o := ⟨_, hI₂⟩
    have hoc : o.cls ≠ .type "tuple" := by
      rw [Option.some.inj (ho.symm.trans (show h₂.get? I = some _ from hI₂))]
      intro e
      exact absurd (Value.type.inj e) (by decide)
    refine body i hlt t mC ys extra h₂ tk₂ o _ hJ ⟨st₂.fr, fun p hp => ?_, st₂.dl, st₂.ns, st₂.cd, st₂.cl, st₂.dL, st₂.c0, st₂.d0, fun p hp => ?_⟩ ix hoc fun mC' ys' extra' h' tk' st' ix' hJ' => ?_
    · rcases List.mem_cons.mp hp with rfl | hp
      · exact ⟨ho, iL, i0⟩
      · exact st₂.led p hp
    · rcases List.mem_cons.mp hp with rfl | hp
      · exact ⟨iC, iD⟩
      · exact st₂.offs p hp
    · have eI := (st'.led (I, o) List.mem_cons_self).1
      exact ⟨n - (i + 1), by omega, i + 1, mC', ys', extra', h', tk', rfl, hlt, rfl, ⟨st'.fr, fun p hp => st'.led p (List.mem_cons_of_mem _ hp), st'.dl, st'.ns, st'.cd, st'.cl, st'.dL, st'.c0, st'.d0, fun p hp => st'.offs p (List.mem_cons_of_mem _ hp)⟩,
        range_st (L := L) (i + 1) h₂ h' o [] hI₂ ho eI st'.fr.keep News.nil trivial, ix', hJ'⟩
  · subst e
    exact done _ _ _ _ _ st₂ hJ
end
end Mine
end
section
open PySem PySem.W PyProof.Rows PySem.Calls PySem.Spec PyProof.Rows.LCg
set_option maxRecDepth 100000
namespace Mine
section
variable {prog : Program} {w : World} {A : Around} {E : Value → Shared → Prop} {s : Shared} {h₀ : Heap} {L : Addr} {m : Str → Option Value} {env : Env}
theorem block_R {elt iter : PySem.Expr} {x : Str} {px : Pos} {rest : List Comprehension} {scope : Scope} {cl : List (Str × Addr)} {pos : Pos} {s₂ : Shared} {I : Addr} {a : Int} {n : Nat} {news : List (Addr × Obj)} {RR : Value → Addr → Result → Shared → Prop}
    (hh : A.handled = none) (hcell : ∀ y ∈ scope.names, y.2 ≠ .cell) (hkind : scope.kind = .function) (hI : IsRangeIter s₂.heap I a n 1)
    (F : Fr h₀ L s₂.heap m) (N : News h₀ L s₂.heap news) (hIL : L ≠ I) (hI₀ : h₀.get? I = none) (off : ∀ p ∈ news, p.1 ≠ I)
    (run : ∀ C D mC h tk, CSt h₀ L m C D mC [] news h → IsRangeIter h I a n 1 → I ≠ C → I ≠ D →
      codeAny (model prog w) A (.compLoop (.ListComp elt (⟨.Name x px, iter, [], 0⟩ :: rest) scope pos) 0 (.ref I) (.ref D) (compEnvC scope cl C env)) (RR (.ref D) C) { s₂ with heap := h, toks := tk }) :
    wpAny (model prog w) A (newList []) (fun acc s₃ => wpAny (model prog w) A (newFunctionEnv scope env.globals cl [] env.qual none .none (some env)) (fun cenv s₄ =>
      codeAny (model prog w) A (.compStart (.ListComp elt (⟨.Name x px, iter, [], 0⟩ :: rest) scope pos) 0 (.ref I) acc { cenv with scope := relabel scope env }) (RR acc cenv.locals) s₄) E s₃) E s₂ := by
  refine wpAny_newObj_type (wpAny_newFunctionEnv hcell (by intro y hy; simp at hy) (fun h₁ hns₁ hsb₁ => ?_) hkind)
  dsimp only at hns₁ hsb₁ ⊢
  generalize hH2 : s₂.heap.push { cls := .type "list", dict := none, data := .seq ([] : List Value).toArray } = H2 at hns₁ hsb₁ ⊢
  have hC : H2.objs.size = s₂.heap.objs.size + 1 := by rw [← hH2, Heap.size_push]
  have hDC : s₂.heap.objs.size ≠ H2.objs.size := by rw [hC]; exact Nat.ne_of_lt (Nat.lt_succ_self _)
  have below : ∀ b, b < s₂.heap.objs.size → b ≠ H2.objs.size ∧ b ≠ s₂.heap.objs.size := fun b hb => ⟨by rw [hC]; exact Nat.ne_of_lt (Nat.lt_succ_of_lt hb), Nat.ne_of_lt hb⟩
  have hIlt : I < s₂.heap.objs.size := by
    have e : s₂.heap.get? I = some _ := hI
    exact Heap.lt_size e
  have old : ∀ b o, s₂.heap.get? b = some o → h₁.get? b = some o := fun b o e => hsb₁.extBut b o (below b (Heap.lt_size e)).1 (Heap.get?_push_of_some _ (hH2 ▸ Heap.get?_push_of_some _ e))
  have hacc : h₁.get? s₂.heap.objs.size = some (lst []) := hsb₁.extBut _ _ hDC (Heap.get?_push_of_some _ (hH2 ▸ Heap.get?_push_size _ rfl))
  have hst₁ : IsRangeIter h₁ I a n 1 := by
    have e : s₂.heap.get? I = some _ := hI
    exact old _ _ e
  have fresh : ∀ a, s₂.heap.objs.size ≤ a → s₂.heap.get? a = none := fun a ha => by
    cases e : s₂.heap.get? a with
    | none => rfl
    | some o' => exact absurd (Heap.lt_size e) (Nat.not_lt.mpr ha)
  have fresh₀ : ∀ a, s₂.heap.objs.size ≤ a → h₀.get? a = none := fun a ha => by
    cases e : h₀.get? a with
    | none => rfl
    | some o' => have := F.keep a o' e; rw [fresh a ha] at this; cases this
  have hD₀ : h₀.get? s₂.heap.objs.size = none := fresh₀ _ (Nat.le_refl _)
  have hC₀ : h₀.get? H2.objs.size = none := fresh₀ _ (by rw [hC]; exact Nat.le_succ _)
  have hLlt : L < s₂.heap.objs.size := F.ns.lt
  have hDL : s₂.heap.objs.size ≠ L := Ne.symm (below L hLlt).2
  have hCL : H2.objs.size ≠ L := Ne.symm (below L hLlt).1
  have hCI : I ≠ H2.objs.size := (below I hIlt).1
  have hDI : I ≠ s₂.heap.objs.size := (below I hIlt).2
  have go := run H2.objs.size s₂.heap.objs.size _ h₁ (s₂.toks + ([] : List (Str × Value)).length)
    ⟨F.keeps old, fun p hp => ⟨old _ _ (N p hp).1, (N p hp).2⟩, hacc, hns₁, hDC.symm, hCL, hDL, hC₀, hD₀, fun p hp => ⟨(below _ (Heap.lt_size (N p hp).1)).1, (below _ (Heap.lt_size (N p hp).1)).2⟩⟩ hst₁ hCI hDI
  refine start_any (d := 0) rfl go ?_
  have W := range_walks (prog := prog) (w := w) (A := A) (I := I) hh a n
  exact W.self 0 _ _ _ (by simpa using hst₁) go
end
end Mine
end
section
open PySem PySem.W PyProof.Rows PySem.Calls PySem.Spec PyProof.Rows.LCg
set_option maxRecDepth 100000
namespace Mine
noncomputable def valueOf : Stmt → PySem.Expr
  | .Assign _ v _ => v
  | _ => default
noncomputable def gensOf : PySem.Expr → List Comprehension
  | .ListComp _ g _ _ => g
  | _ => []
noncomputable def eltOf : PySem.Expr → PySem.Expr
  | .ListComp e _ _ _ => e
  | _ => default
noncomputable def lcScope : PySem.Expr → Scope
  | .ListComp _ _ s _ => s
  | _ => default
noncomputable def iterOf (e : PySem.Expr) (i : Nat) : PySem.Expr := ((gensOf e)[i]?.map (·.iter)).getD default
noncomputable def triE : PySem.Expr := valueOf (lawS 1)
local macro_rules | `(tactic| k_all) => `(tactic| assumption)
example (w : World) (h : Heap) : (Mine.hd.heap_39 w.params).In h → rprog = PySem.Challenge.rw_wy0014_01.prog → True := by
  k_fill
  intros; trivial
section
variable {w : World} {mean : ExcName → Option Value} {mg mb : Str → Option Value} {g : Heap} {L a : Addr} {ccd : Value} {s : Shared} {m : Str → Option Value} {news : List (Addr × Obj)} {Q E : Value → Shared → Prop}
set_option maxHeartbeats 4000000 in
theorem tri_i0 (X : (Mine.hd.heap_39 w.params).In g) (T : Top Mine.hd.view_39 lo mean mg mb g) (F : Fr g L s.heap m) (N : News g L s.heap news)
   (hQ : ∀ r t u v h' tk', IsRange h' r 0 6 1 t u v → Fr g L h' m → News g L h' news → Q (.ref r) { s with heap := h', toks := tk' }) :
   wpAny (model rprog w) (callerA.deeper (envOfC (Str.ofString "law") lawScope L a ccd)) (eval (iterOf triE 0) (envOfC (Str.ofString "law") lawScope L a ccd)) Q E s := by
  show wpAny _ _ (eval (.Call _ _ _ _) _) _ _ _
  w_strict (k_steps)
  exact hQ _ _ _ _ _ _ (by assumption) (by assumption) (by assumption)
set_option maxHeartbeats 4000000 in
theorem tri_i1 {C D : Addr} {oC : Obj} {mC : Str → Option Value} {ys : List Value} {c : Int} {t : Tok} {cl : List (Str × Addr)} (X : (Mine.hd.heap_39 w.params).In g) (T : Top Mine.hd.view_39 lo mean mg mb g) (F : Fr g L s.heap m) (N : News g L s.heap ((C, oC) :: (D, lst ys) :: news))
   (hC : NsObj oC mC) (hx : mC (Str.ofString "c") = some (.int c t)) (h0 : 0 ≤ c) (h1 : c < 6)
   (hQ : ∀ r t u v h' tk', IsRange h' r 0 c 1 t u v → Fr g L h' m → News g L h' ((C, oC) :: (D, lst ys) :: news) → Q (.ref r) { s with heap := h', toks := tk' }) :
   wpAny (model rprog w) (callerA.deeper (envOfC (Str.ofString "law") lawScope L a ccd)) (eval (iterOf triE 1) (compEnvC (lcScope triE) cl C (envOfC (Str.ofString "law") lawScope L a ccd))) Q E s := by
  show wpAny _ _ (eval (.Call _ _ _ _) _) _ _ _
  w_strict (k_steps)
  exact hQ _ _ _ _ _ _ (by assumption) (by assumption) (by assumption)
set_option maxHeartbeats 4000000 in
theorem tri_i2 {C D : Addr} {oC : Obj} {mC : Str → Option Value} {ys : List Value} {c : Int} {t : Tok} {cl : List (Str × Addr)} (X : (Mine.hd.heap_39 w.params).In g) (T : Top Mine.hd.view_39 lo mean mg mb g) (F : Fr g L s.heap m) (N : News g L s.heap ((C, oC) :: (D, lst ys) :: news))
   (hC : NsObj oC mC) (hx : mC (Str.ofString "b") = some (.int c t)) (h0 : 0 ≤ c) (h1 : c < 6)
   (hQ : ∀ r t u v h' tk', IsRange h' r 0 c 1 t u v → Fr g L h' m → News g L h' ((C, oC) :: (D, lst ys) :: news) → Q (.ref r) { s with heap := h', toks := tk' }) :
   wpAny (model rprog w) (callerA.deeper (envOfC (Str.ofString "law") lawScope L a ccd)) (eval (iterOf triE 2) (compEnvC (lcScope triE) cl C (envOfC (Str.ofString "law") lawScope L a ccd))) Q E s := by
  show wpAny _ _ (eval (.Call _ _ _ _) _) _ _ _
  w_strict (k_steps)
  exact hQ _ _ _ _ _ _ (by assumption) (by assumption) (by assumption)
set_option maxHeartbeats 4000000 in
theorem tri_elt {C D : Addr} {oC : Obj} {mC : Str → Option Value} {ys : List Value} {c b z : Int} {tc tb tz : Tok} {cl : List (Str × Addr)} (X : (Mine.hd.heap_39 w.params).In g) (T : Top Mine.hd.view_39 lo mean mg mb g) (F : Fr g L s.heap m) (N : News g L s.heap ((C, oC) :: (D, lst ys) :: news))
   (hC : NsObj oC mC) (hx : mC (Str.ofString "c") = some (.int c tc)) (hx : mC (Str.ofString "b") = some (.int b tb)) (hx : mC (Str.ofString "a") = some (.int z tz))
   (hQ : ∀ q h' tk', Fr g L h' m → News g L h' ((q, ({ cls := .type "tuple", data := .seq #[.int c tc, .int b tb, .int z tz] } : Obj)) :: (C, oC) :: (D, lst ys) :: news) → C < q ∧ D < q ∧ AllLt q news → Q (.ref q) { s with heap := h', toks := tk' }) :
   wpAny (model rprog w) (callerA.deeper (envOfC (Str.ofString "law") lawScope L a ccd)) (eval (eltOf triE) (compEnvC (lcScope triE) cl C (envOfC (Str.ofString "law") lawScope L a ccd))) Q E s := by
  show wpAny _ _ (eval (.Tuple _ _ _) _) _ _ _
  w_strict (k_steps)
  exact hQ _ _ _ (by assumption) (by assumption) (by assumption)
end
/-- the values are tuples of these numbers, kept in a ledger -/
noncomputable def TriAre (extra : List (Addr × Obj)) (ys : List Value) (l : List (Int × Int × Int)) : Prop :=
  Paired (fun y p => ∃ q t1 t2 t3, y = Value.ref q ∧ (q, ({ cls := .type "tuple", data := .seq #[.int p.1 t1, .int p.2.1 t2, .int p.2.2 t3] } : Obj)) ∈ extra) ys l
theorem TriAre.more {extra extra' : List (Addr × Obj)} {ys : List Value} {l : List (Int × Int × Int)} (h : TriAre extra ys l) (k : ∀ p ∈ extra, p ∈ extra') : TriAre extra' ys l := by
  induction h with
  | nil => exact .nil
  | cons hh _ ih =>
    obtain ⟨q, t1, t2, t3, e, hm⟩ := hh
    exact .cons ⟨q, t1, t2, t3, e, k _ hm⟩ ih
noncomputable def rowA (c b i : Nat) : List (Int × Int × Int) := (List.range i).map fun (z : Nat) => ((c : Int), (b : Int), (z : Int))
noncomputable def rowB (c i : Nat) : List (Int × Int × Int) := (List.range i).flatMap fun (b : Nat) => rowA c b b
noncomputable def rowC (i : Nat) : List (Int × Int × Int) := (List.range i).flatMap fun (c : Nat) => rowB c c
theorem rowA_succ (c b i : Nat) : rowA c b (i + 1) = rowA c b i ++ [((c : Int), (b : Int), (i : Int))] := by unfold rowA; rw [List.range_succ, List.map_append]; rfl
theorem rowB_succ (c i : Nat) : rowB c (i + 1) = rowB c i ++ rowA c i i := by unfold rowB; rw [List.range_succ, List.flatMap_append]; simp
theorem rowC_succ (i : Nat) : rowC (i + 1) = rowC i ++ rowB i i := by unfold rowC; rw [List.range_succ, List.flatMap_append]; simp
theorem rowC_len : (rowC 6).length = 20 := by decide
theorem CSt.ledger {h₀ h : Heap} {L C D : Addr} {m mC : Str → Option Value} {ys : List Value} {extra : List (Addr × Obj)} (st : CSt h₀ L m C D mC ys extra h) : ∃ oC, NsObj oC mC ∧ News h₀ L h ((C, oC) :: (D, lst ys) :: extra) := by
  obtain ⟨oC, heC, hoC⟩ := ns_obj st.ns
  refine ⟨oC, hoC, fun p hp => ?_⟩
  rcases List.mem_cons.mp hp with rfl | hp
  · exact ⟨heC, st.cl, st.c0⟩
  · rcases List.mem_cons.mp hp with rfl | hp
    · exact ⟨st.dl, st.dL, st.d0⟩
    · exact st.led p hp
theorem CSt.back {h₀ h h' : Heap} {L C D : Addr} {m mC : Str → Option Value} {ys : List Value} {extra : List (Addr × Obj)} {oC : Obj} (st : CSt h₀ L m C D mC ys extra h) (hC : NsObj oC mC) (F : Fr h₀ L h' m) (N : News h₀ L h' ((C, oC) :: (D, lst ys) :: extra)) : CSt h₀ L m C D mC ys extra h' :=
  ⟨F, fun p hp => N p (List.mem_cons_of_mem _ (List.mem_cons_of_mem _ hp)), (N _ (List.mem_cons_of_mem _ List.mem_cons_self)).1, hC.ns (N _ List.mem_cons_self).1, st.cd, st.cl, st.dL, st.c0, st.d0, st.offs⟩
theorem CSt.push {h₀ h : Heap} {L C D : Addr} {m mC : Str → Option Value} {ys : List Value} {extra : List (Addr × Obj)} (st : CSt h₀ L m C D mC ys extra h) (o : Obj) : CSt h₀ L m C D mC ys extra (h.push o) :=
  ⟨st.fr.push o, fun p hp => ⟨Heap.get?_push_of_some _ (st.led p hp).1, (st.led p hp).2⟩, Heap.get?_push_of_some _ st.dl, st.ns.push o, st.cd, st.cl, st.dL, st.c0, st.d0, st.offs⟩
end Mine
end
section
open PySem PySem.W PyProof.Rows PySem.Calls PySem.Spec PyProof.Rows.LCg
set_option maxRecDepth 100000
namespace Mine
section
variable {prog : Program} {w : World} {A : Around} {E : Value → Shared → Prop} {s : Shared} {h₀ : Heap} {L : Addr} {m : Str → Option Value} {env : Env}
/-- a tuple of the ledger -/
noncomputable def TupIn (ax : Addr) (its : Array Value) (news : List (Addr × Obj)) : Prop := ∃ o, (ax, o) ∈ news ∧ o.cls = .type "tuple" ∧ ∃ n, o.data = .seq its n
theorem TupIn.tup {ax : Addr} {its : Array Value} {news : List (Addr × Obj)} {h : Heap} (x : TupIn ax its news) (N : News h₀ L h news) : h.IsTuple ax its := by
  obtain ⟨o, hm, r⟩ := x
  exact ⟨o, (N _ hm).1, r⟩
theorem tuple_st {ax I : Addr} {its : Array Value} : ∀ i (h h' : Heap) (o : Obj) (nw : List (Addr × Obj)), (h.IsTupleIter I ax i ∧ h.IsTuple ax its) → h.get? I = some o → h'.get? I = some o → (∀ b o, h₀.get? b = some o → h'.get? b = some o) → News h₀ L h' nw → TupIn ax its nw → (h'.IsTupleIter I ax i ∧ h'.IsTuple ax its) :=
  fun i h h' o nw st e e' k N S => ⟨by obtain ⟨o', q, r⟩ := st.1; rw [e] at q; cases q; exact ⟨o, e', r⟩, S.tup N⟩
noncomputable def SrcT (prog : Program) (w : World) (A : Around) (h₀ : Heap) (L : Addr) (m : Str → Option Value) (env : Env) (elt : PySem.Expr) (x : Str) (scope : Scope) (cl : List (Str × Addr)) (Fin : Shared → List Value → List (Addr × Obj) → Prop) (xv : Value) (s₁ : Shared) : Prop :=
  ∃ ax its news, xv = .ref ax ∧ A.handled = none ∧ Fr h₀ L s₁.heap m ∧ News h₀ L s₁.heap news ∧ TupIn ax its news ∧ its.size ≤ sizeLine ∧
    ∀ s₂ : Shared, (∃ h, s₂ = { s₁ with heap := h }) → CompRest prog w A h₀ L m env elt x scope cl s₂ (TupIn ax its) (fun i v => its[i]? = some v) (Fin s₂) its.size 0 [] news
theorem ListComp_Tp {elt iter : PySem.Expr} {x : Str} {px : Pos} {scope : Scope} {cl : List (Str × Addr)} {pos : Pos} {Q : Value → Shared → Prop}
    (hclos : closureFor scope env = pure cl) (hcell : ∀ y ∈ scope.names, y.2 ≠ .cell) (hkind : scope.kind = .function)
    (hnames : ∀ y ∈ scope.names, y.2 = .local → scope.names.lookup y.1 = some .local) (hx : scope.names.lookup x = some .local)
    (h : wpAny (model prog w) A (eval iter env) (SrcT prog w A h₀ L m env elt x scope cl (fun s₂ => FinE h₀ L m s₂ Q)) E s)
    (hs : ∀ x, foldedSetIterable iter env x = pure x := by intro _; rfl) :
    wpAny (model prog w) A (eval (.ListComp elt [⟨.Name x px, iter, [], 0⟩] scope pos) env) Q E s := by
  rw [eval_ListComp]
  refine wpAny_comprehension_free (use := none) rfl hs hclos hkind hnames (wpAny_mono h (fun xv s₁ h₁ => ?_) fun _ _ e => e)
  obtain ⟨ax, its, news, rfl, hh, F, N, S, hsz, R⟩ := h₁
  have hl := S.tup N
  have hlt : ax < s₁.heap.objs.size := by obtain ⟨_, e, _⟩ := hl; exact Heap.lt_size e
  refine wpAny_pyIter_tuple hl ?_
  have up : ∀ b o, s₁.heap.get? b = some o → (s₁.heap.push { cls := .type "tuple_iterator", data := .fields #[.ref ax, .int 0 0] }).get? b = some o := fun b o e => Heap.get?_push_of_some _ e
  refine block_U (Walks.tuple hh s₁.heap.objs.size ax (Nat.ne_of_lt hlt) its) hsz (fun i h st => by obtain ⟨o, e, _⟩ := st.1; exact ⟨o, e⟩) tuple_st hcell hkind hx ⟨⟨_, Heap.get?_push_size _ rfl, rfl, rfl⟩, hl.push _⟩ (fun b hb => ?_)
    (F.keeps up) (N.grown up) (Nat.ne_of_lt F.ns.lt) (next_is_new F) (fun p hp => Nat.ne_of_lt (Heap.lt_size (N p hp).1)) S (R _ ⟨_, rfl⟩) ?_
  · show b < (s₁.heap.push _).objs.size
    rw [Heap.size_push]
    rcases List.mem_cons.mp hb with rfl | hb
    · exact Nat.lt_succ_self _
    · rw [List.mem_singleton.mp hb]; exact Nat.lt_succ_of_lt hlt
  · intro D C h tk m' ys news' F' N' o1 hn hC₀ hD₀ hCL hDL hCD offC fin
    refine ⟨m', hn, fun h'' hs'' => fin D h'' tk (F'.change hs'' hCL hC₀) (fun p hp => ?_) o1⟩
    refine ⟨hs''.extBut _ _ ?_ (N' p hp).1, (N' p hp).2⟩
    rcases List.mem_cons.mp hp with rfl | hp
    · exact Ne.symm hCD
    · exact offC p hp
theorem Assign_ListComp_Tp {elt iter : PySem.Expr} {x y : Str} {px py : Pos} {scope : Scope} {cl : List (Str × Addr)} {pos spos : Pos} {Q : Flow → Shared → Prop} (hLe : env.locals = L)
    (hsw : swapsWith (.ListComp elt [⟨.Name x px, iter, [], 0⟩] scope pos) (some (.Name y py)) spos.line env = pure true)
    (hclos : closureFor scope env = pure cl) (hcell : ∀ z ∈ scope.names, z.2 ≠ .cell) (hkind : scope.kind = .function)
    (hnames : ∀ z ∈ scope.names, z.2 = .local → scope.names.lookup z.1 = some .local) (hx : scope.names.lookup x = some .local)
    (hy : env.kindOf y = some .local) (hp : (env.scope.kind == .class || (env.scope.kind == .module && env.locals != env.globals)) = false)
    (h : wpAny (model prog w) A (eval iter env) (SrcT prog w A h₀ L m env elt x scope cl (fun s₂ => FinA h₀ L m s₂ y Q)) E s)
    (hs : ∀ x, foldedSetIterable iter env x = pure x := by intro _; rfl) :
    wpAny (model prog w) A (exec (.Assign [.Name y py] (.ListComp elt [⟨.Name x px, iter, [], 0⟩] scope pos) spos) env) Q E s := by
  subst hLe
  rw [exec_Assign_Name_used _ _ _ _ hsw]
  refine wpAny_bind (wpAny_standAt (wpAny_bind ?_))
  show wpAny _ A (do let _ ← comprehension (.ListComp elt [⟨.Name x px, iter, [], 0⟩] scope pos) scope env _ (newList []) false (eval iter env) (some (assign (.Name y py) env))) _ _ s
  refine wpAny_bind (wpAny_mono (wpAny_comprehension_free (use := some (assign (.Name y py) env)) (Q := fun _ s' => Q .next s') rfl hs hclos hkind hnames
    (wpAny_mono h (fun xv s₁ h₁ => ?_) fun _ _ e => e)) (fun _ s' hq => wpAny_pure (wpAny_pure hq)) fun _ _ e => e)
  obtain ⟨ax, its, news, rfl, hh, F, N, S, hsz, R⟩ := h₁
  have hl := S.tup N
  have hlt : ax < s₁.heap.objs.size := by obtain ⟨_, e, _⟩ := hl; exact Heap.lt_size e
  refine wpAny_pyIter_tuple hl ?_
  have up : ∀ b o, s₁.heap.get? b = some o → (s₁.heap.push { cls := .type "tuple_iterator", data := .fields #[.ref ax, .int 0 0] }).get? b = some o := fun b o e => Heap.get?_push_of_some _ e
  refine block_U (Walks.tuple hh s₁.heap.objs.size ax (Nat.ne_of_lt hlt) its) hsz (fun i h st => by obtain ⟨o, e, _⟩ := st.1; exact ⟨o, e⟩) tuple_st hcell hkind hx ⟨⟨_, Heap.get?_push_size _ rfl, rfl, rfl⟩, hl.push _⟩ (fun b hb => ?_)
    (F.keeps up) (N.grown up) (Nat.ne_of_lt F.ns.lt) (next_is_new F) (fun p hp => Nat.ne_of_lt (Heap.lt_size (N p hp).1)) S (R _ ⟨_, rfl⟩) ?_
  · show b < (s₁.heap.push _).objs.size
    rw [Heap.size_push]
    rcases List.mem_cons.mp hb with rfl | hb
    · exact Nat.lt_succ_self _
    · rw [List.mem_singleton.mp hb]; exact Nat.lt_succ_of_lt hlt
  · intro D C h' tk m' ys news' F' N' o1 hn hC₀ hD₀ hCL hDL hCD offC fin
    show wpAny _ A (assign (.Name y py) env (.ref D)) _ _ _
    refine wpAny_assign_Name (wpAny_storeName_local hy F'.ns (fun h₂ hn₂ hs₂ => ?_) hp)
    have hL₀ : h₀.get? env.locals = none := Heap.get?_none_of_le F'.above
    have F₂ : Fr h₀ env.locals h₂ (fun z => if z = y then some (.ref D) else m z) := ⟨hn₂, fun b o e => hs₂.extBut b o (fun q => by rw [q, hL₀] at e; cases e) (F'.keep b o e), F'.above⟩
    refine ⟨m', hn.sameBut hs₂ hCL, fun h'' hs'' => fin D h'' _ (F₂.change hs'' hCL hC₀) (fun p hp => ?_) o1⟩
    have z : h₂.get? p.1 = some p.2 := hs₂.extBut _ _ (N' p hp).2.1 (N' p hp).1
    refine ⟨hs''.extBut _ _ ?_ z, (N' p hp).2⟩
    rcases List.mem_cons.mp hp with rfl | hp
    · exact Ne.symm hCD
    · exact offC p hp
theorem Off1.mem {D : Addr} : ∀ {l : List (Addr × Obj)}, Off1 D l → ∀ p ∈ l, p.1 ≠ D
  | [], _, _, h => nomatch h
  | _ :: _, x, p, h => by
    rcases List.mem_cons.mp h with rfl | h
    · exact x.1
    · exact Off1.mem x.2 p h
theorem CompEnd.mono {s₁ : Shared} {I C D : Addr} {oI oC oD : Obj} {S : List (Addr × Obj) → Prop} {r r' : Value → List (Addr × Obj) → Prop} {y : Value} {s₂ : Shared} (x : CompEnd h₀ L m s₁ I oI C oC D oD S r y s₂) (k : ∀ n, r y n → r' y n) : CompEnd h₀ L m s₁ I oI C oC D oD S r' y s₂ := by
  obtain ⟨h', tk, news', e, F, N, o, hS, hr⟩ := x
  exact ⟨h', tk, news', e, F, N, o, hS, k _ hr⟩
/-- the turns of a one-clause comprehension, by what holds after i of them -/
theorem compRest_J {elt : PySem.Expr} {x : Str} {scope : Scope} {cl : List (Str × Addr)} {S : List (Addr × Obj) → Prop} {P : Nat → Value → Prop} {Fin : List Value → List (Addr × Obj) → Prop} (J : Nat → List Value → List (Addr × Obj) → Prop) (n : Nat)
    (turn : ∀ i ys news v I oI C oC D m₂ h tk (E' : Value → Shared → Prop), i < n → J i ys news → P i v → NsObj oC m₂ → m₂ x = some v → Fr h₀ L h m → News h₀ L h ((I, oI) :: (C, oC) :: (D, lst ys) :: news) → Off3 I C D news → ((@Ne Nat I C) ∧ (@Ne Nat I D) ∧ (@Ne Nat C D)) →
      wpAny (model prog w) A (eval elt (compEnvC scope cl C env)) (CompEnd h₀ L m { s with heap := h, toks := tk } I oI C oC D (lst ys) S (fun y news' => J (i + 1) (ys ++ [y]) news')) E' { s with heap := h, toks := tk })
    (fin : ∀ ys news, J n ys news → Fin ys news) : ∀ k i ys news, i + k = n → J i ys news → CompRest prog w A h₀ L m env elt x scope cl s S P Fin k i ys news
  | 0, i, ys, news, e, hJ => CompRest.zero (fin _ _ ((show i = n by lia) ▸ hJ))
  | k + 1, i, ys, news, e, hJ => CompRest.succ fun v I oI C oC D m₂ h tk E' hP hC hx F N o ne =>
      wpAny_mono (turn i ys news v I oI C oC D m₂ h tk E' (by lia) hJ hP hC hx F N o ne) (fun y s' c => CompEnd.mono c fun n' hJ' => compRest_J J n turn fin k (i + 1) (ys ++ [y]) n' (by lia) hJ') fun _ _ e => e
/-- the end of a turn that makes nothing -/
theorem CompEnd.same {s₁ : Shared} {I C D : Addr} {oI oC oD : Obj} {S : List (Addr × Obj) → Prop} {r : Value → List (Addr × Obj) → Prop} {y : Value} {h' : Heap} {tk : Nat} {news : List (Addr × Obj)} (F : Fr h₀ L h' m) (N : News h₀ L h' ((I, oI) :: (C, oC) :: (D, oD) :: news)) (o : Off3 I C D news) (hS : S news) (hr : r y news) :
    CompEnd h₀ L m s₁ I oI C oC D oD S r y { s₁ with heap := h', toks := tk } := ⟨h', tk, news, rfl, F, N, o, hS, hr⟩
end
end Mine
end
section
open PySem PySem.W PyProof.Rows PySem.Calls PySem.Spec
open PySem.Builtin
set_option maxRecDepth 100000
namespace Mine
theorem forIn_two {α σ : Type} (f : α → σ → Sem (ForInStep σ)) (a b : σ) (h1 : ∀ x, f x a = pure (.yield b)) (h2 : ∀ x, f x b = pure (.done b)) : ∀ (l : List α), l ≠ [] → forIn l a f = pure b
  | [], h => absurd rfl h
  | [x], _ => by
    rw [List.forIn_cons, h1]
    rfl
  | x :: y :: l, _ => by
    rw [List.forIn_cons, h1]
    show forIn (y :: l) b f = pure b
    rw [List.forIn_cons, h2]
    rfl
theorem bad_none {xs : Array Nat} (hx : ∀ c ∈ xs, c < 128) : xs.findIdx? _codecs.utf8Codec.bad = none := by
  rw [Array.findIdx?_eq_none_iff]
  intro c hc
  have := hx c hc
  simp [_codecs.utf8Codec, PySem.Str.isSurrogate]
  lia
theorem fold_ascii : ∀ (l : List Nat) (acc : Array UInt8), (∀ c ∈ l, c < 128) → l.foldl (fun acc y => acc ++ (_codecs.utf8Codec.bytesOf y).toArray) acc = acc ++ (l.map (·.toUInt8)).toArray
  | [], acc, _ => by simp
  | c :: l, acc, h => by
    have hc := h c List.mem_cons_self
    have e : _codecs.utf8Codec.bytesOf c = [c.toUInt8] := by
      show PySem.Str.utf8Of c = _
      unfold PySem.Str.utf8Of
      simp [hc]
    rw [List.foldl_cons, fold_ascii l _ (fun d hd => h d (List.mem_cons_of_mem _ hd)), e]
    simp
theorem enc_narrow {id : String} {self : Value} {x : Str} (hx : ∀ c ∈ x.cps, c < 128) (hl : x.length ≤ 1000) (h0 : 0 < x.length) : _codecs.encodeNarrow id _codecs.utf8Codec none self x = pure (x.cps.map (·.toUInt8)) := by
  unfold _codecs.encodeNarrow
  have key : ∀ (f : Nat → Nat × Array UInt8 × _codecs.Faults → Sem (ForInStep (Nat × Array UInt8 × _codecs.Faults))) (b : Nat × Array UInt8 × _codecs.Faults), (∀ z, f z (0, #[], {}) = pure (.yield b)) → (∀ z, f z b = pure (.done b)) → forIn [:x.length] (0, #[], {}) f = pure b := by
    intro f b h1 h2
    simp
    refine forIn_two f _ b h1 h2 _ ?_
    intro q
    have := congrArg List.length q
    simp at this
    lia
  dsimp only
  rw [key _ (x.cps.size, x.cps.map (·.toUInt8), {}) ?_ ?_]
  · rfl
  · intro z
    obtain ⟨c, hc⟩ : ∃ c, x.cps[0]? = some c := ⟨x.cps[0]'h0, Array.getElem?_eq_getElem h0⟩
    have hcm : c < 128 := hx c (Array.mem_of_getElem? hc)
    have hb : (!_codecs.utf8Codec.bad c) = true := by
      simp [_codecs.utf8Codec, PySem.Str.isSurrogate]
      lia
    have he : x.cps.extract 0 x.cps.size = x.cps := by simp
    have hf : Array.foldl (fun acc y => acc ++ (_codecs.utf8Codec.bytesOf y).toArray) #[] x.cps = x.cps.map (·.toUInt8) := by
      rw [← Array.foldl_toList, fold_ascii x.cps.toList #[] (fun c hc => hx c (by simpa using hc))]
      apply Array.toList_inj.mp
      simp
    dsimp only
    rw [if_neg (show ¬ (#[] : Array UInt8).size > sizeLine from Nat.not_lt.mpr (Nat.zero_le _)), hc]
    dsimp only
    rw [if_pos hb]
    simp only [he, bad_none hx, Option.getD_none, hf, Nat.zero_add]
  · intro z
    have hn : x.cps[x.cps.size]? = none := by simp
    have hs : ¬ (x.cps.map (·.toUInt8)).size > sizeLine := by
      rw [Array.size_map, sizeLine_eq]
      have : x.cps.size ≤ 1000 := hl
      lia
    dsimp only
    rw [if_neg hs, hn]
theorem enc_road {id : String} {self : Value} {x : Str} : _codecs.encodeRoad id self x (PySem.Str.ofString "utf-8") none = (_codecs.encodeNarrow id _codecs.utf8Codec none self x >>= fun b => mkBytes b) := by kernel_rfl
theorem enc_entry {x : Str} {t : Tok} : Builtin.«str.encode» ⟨[.str x t], []⟩ = (_codecs.encodeRoad "str.encode" (.str x t) x (PySem.Str.ofString "utf-8") none >>= fun v => ret v) := by rfl
section
variable {prog : Program} {w : World} {A : Around} {E : Value → Shared → Prop} {s : Shared} {x : Str} {t : Tok}
theorem getMethod_encode {M : Model} {pl : Sem Bool} {Q : Value × List Value → Shared → Prop} (h : Q (.builtin "str.encode", [.str x t]) s) : wpAny M A (getMethod (.str x t) "encode" pl) Q E s := by
  with_reducible exact GM.of (.str x t) (typeIs_str _ _ _) F.slot_str_encode F.type_str_encode GM.noRef h
theorem call_encode {Q : Value → Shared → Prop} (hx : ∀ c ∈ x.cps, c < 128) (hl : x.length ≤ 1000) (h0 : 0 < x.length) (h : Q (.bytes (x.cps.map (·.toUInt8)) s.toks) { s with toks := s.toks + 1 }) :
    wpAny (model prog w) A (call (.builtin "str.encode") [.str x t]) Q E s := by
  refine wpAny_call_entry F.slot_str_encode (typeIs_str _ _ _) F.entry_str_encode ?_ (F.args_str_encode_1 _)
  rw [enc_entry, enc_road, enc_narrow hx hl h0]
  refine wpAny_bind (wpAny_bind (wpAny_pure (wpAny_mkBytes (wpAny_pure ⟨_, rfl, h⟩) ?_)))
  have : x.cps.size ≤ 1000 := hl
  rw [Array.size_map, sizeLine_eq]
  lia
end
end Mine
end
section
open PySem PySem.W PyProof.Rows PySem.Calls PySem.Spec PyProof.Rows.LCg
set_option maxRecDepth 100000
namespace Mine
local macro_rules | `(tactic| ktr_unf) => `(tactic| first | assumption | (dsimp only; (repeat (first | (rw [if_pos (by decide)]) | (rw [if_neg (by decide)]))); first | rfl | assumption))
local macro_rules | `(tactic| k_all) => `(tactic| assumption)
local macro_rules | `(tactic| k_mem) => `(tactic| assumption)
example (w : World) (h : Heap) : (Mine.hd.heap_39 w.params).In h → rprog = PySem.Challenge.rw_wy0014_01.prog → True := by
  k_fill
  intros; trivial
section
variable {w : World} {mean : ExcName → Option Value} {mg mb : Str → Option Value} {g : Heap} {L a : Addr} {ccd : Value} {s : Shared} {m : Str → Option Value} {news : List (Addr × Obj)} {Q : Flow → Shared → Prop} {E : Value → Shared → Prop}

set_option maxHeartbeats 4000000 in
theorem st_same {n : Int} {tn tp tx ty : Tok} {x : Str} {lw : Addr} {vd : List Value} {nd : Nat} (hn : m (Str.ofString "told") = some (.int n tn)) (hp : m (Str.ofString "port") = some (.int n tp)) (hx : m (Str.ofString "host") = some (.str x tx)) (hw : m (Str.ofString "words") = some (.ref lw)) (hd : (lw, listOf vd.toArray nd) ∈ news) (hv : vd.toArray[(0 : Int).toNat]? = some (.str x ty)) (h0 : 0 ≤ n) (h1 : n < 57600)
   (X : (Mine.hd.heap_39 w.params).In g) (T : Top Mine.hd.view_39 lo mean mg mb g) (F : Fr g L s.heap m) (N : News g L s.heap news)
   (hQ : ∀ h' tk', Fr g L h' m → News g L h' news → Q .next { s with heap := h', toks := tk' }) :
   wpAny (model rprog w) (callerA.deeper (envOfC (Str.ofString "law") lawScope L a ccd)) (exec (loopS 16) (envOfC (Str.ofString "law") lawScope L a ccd)) Q E s := by
  show wpAny _ _ (exec (Stmt.If _ _ _ _) _) _ _ _
  w_strict (repeat' (first | (k_unfold; (try dsimp only)) | (k_end; wrow_close) | ((with_reducible show wpAny _ _ (subscriptTail _ _ _ _) _ _ _); (k_here; k_dflt (refine' item_any ?zzl ?zza ?zzb ?zzx ?_; (case zzl => exact list_at (by k_asm) (by assumption)); (case zza => decide); (case zzb => decide); (case zzx => assumption); k_whole))) | ((with_reducible show wpAny _ _ (eval (Expr.Name ..) _) _ _ _); (k_here; k_dflt (first | (refine' nameX_L ?zzF ?zzv ?_ ?zza ?zzb; (case zzF => k_asm); (case zza => rfl); (case zzb => rfl); (case zzv => ktr_unf); k_whole) | (refine' nameX_C ?zzN ?zzc ?zzm ?zzd ?_ ?zza ?zzb; (case zza => rfl); (case zzb => rfl); (case zzN => k_asm); (case zzc => rfl); (case zzm => first | k_mem | assumption); (case zzd => first | assumption | rfl); k_whole)))) | walk1 | (dsimp only; first | ((with_reducible show wpAny _ _ (subscriptTail _ _ _ _) _ _ _); (k_here; k_dflt (refine' item_any ?zzl ?zza ?zzb ?zzx ?_; (case zzl => exact list_at (by k_asm) (by assumption)); (case zza => decide); (case zzb => decide); (case zzx => assumption); k_whole))) | ((with_reducible show wpAny _ _ (eval (Expr.Name ..) _) _ _ _); (k_here; k_dflt (first | (refine' nameX_L ?zzF ?zzv ?_ ?zza ?zzb; (case zzF => k_asm); (case zza => rfl); (case zzb => rfl); (case zzv => ktr_unf); k_whole) | (refine' nameX_C ?zzN ?zzc ?zzm ?zzd ?_ ?zza ?zzb; (case zza => rfl); (case zzb => rfl); (case zzN => k_asm); (case zzc => rfl); (case zzm => first | k_mem | assumption); (case zzd => first | assumption | rfl); k_whole)))) | walk1) | (leave1; try dsimp only) | fail "no step"))
  · rename (_ != _) = true => q; simp at q
  · rename (_ != _) = true => q; simp at q
  · exact hQ _ _ F N
end
noncomputable def encOf (x : Str) : Array UInt8 := x.cps.map (·.toUInt8)
noncomputable def flE : PySem.Expr := match loopS 17 with | .If (.Compare _ _ (.Call _ (x :: _) _ _ :: _) _) _ _ _ => x | _ => default
theorem bytes_snoc {vs : List Value} {bs : List (Array UInt8)} (h : BytesAre vs bs) (b : Array UInt8) (t : Tok) : BytesAre (vs ++ [.bytes b t]) (bs ++ [b]) := by
  induction h with
  | nil => exact .cons b t .nil
  | cons z u _ ih => exact .cons z u ih
theorem strs_item {its : Array Value} {xs : List Str} (h : StrsAre its.toList xs) {i : Nat} {v : Value} (hv : its[i]? = some v) : ∃ c t, v = .str c t ∧ xs[i]? = some c := by
  rw [← Array.getElem?_toList] at hv
  generalize its.toList = l at h hv
  induction h generalizing i with
  | nil => simp at hv
  | cons k t _ ih =>
    cases i with
    | zero => exact ⟨k, t, by simpa using hv.symm, rfl⟩
    | succ i => simpa using ih (i := i) (by simpa using hv)
theorem strs_len' {vs : List Value} {xs : List Str} (h : StrsAre vs xs) : vs.length = xs.length := by
  induction h with
  | nil => rfl
  | cons _ _ _ ih => rw [List.length_cons, List.length_cons, ih]
section
variable {w : World} {mean : ExcName → Option Value} {mg mb : Str → Option Value} {g : Heap} {L a : Addr} {ccd : Value} {s : Shared} {m : Str → Option Value} {news : List (Addr × Obj)} {Q : Value → Shared → Prop} {E : Value → Shared → Prop}

set_option maxHeartbeats 4000000 in
theorem enc_elt {C D I : Addr} {oC oI : Obj} {mC : Str → Option Value} {ys : List Value} {c : Str} {t : Tok} {cl : List (Str × Addr)} (hC : NsObj oC mC) (hx : mC (Str.ofString "word") = some (.str c t)) (ha : ∀ z ∈ c.cps, z < 128) (hl : c.length ≤ 1000) (h0 : 0 < c.length)
   (X : (Mine.hd.heap_39 w.params).In g) (T : Top Mine.hd.view_39 lo mean mg mb g) (F : Fr g L s.heap m) (N : News g L s.heap ((I, oI) :: (C, oC) :: (D, lst ys) :: news))
   (hQ : ∀ t' h' tk', Fr g L h' m → News g L h' ((I, oI) :: (C, oC) :: (D, lst ys) :: news) → Q (.bytes (c.cps.map (·.toUInt8)) t') { s with heap := h', toks := tk' }) :
   wpAny (model rprog w) (callerA.deeper (envOfC (Str.ofString "law") lawScope L a ccd)) (eval (eltOf flE) (compEnvC (lcScope flE) cl C (envOfC (Str.ofString "law") lawScope L a ccd))) Q E s := by
  show wpAny _ _ (eval (.Call _ _ _ _) _) _ _ _
  w_strict (repeat' (first | (k_unfold; (try dsimp only)) | (k_end; wrow_close) | ((with_reducible show wpAny _ _ (call (Value.builtin "str.encode") _ _) _ _ _); (k_here; k_dflt (refine' call_encode ?zza ?zzb ?zzc ?_; (case zza => assumption); (case zzb => assumption); (case zzc => assumption); k_whole))) | ((with_reducible show wpAny _ _ (getMethod (Value.str ..) _ _) _ _ _); (k_here; (refine getMethod_encode ?_))) | ((with_reducible show wpAny _ _ (subscriptTail _ _ _ _) _ _ _); (k_here; k_dflt (refine' item_any ?zzl ?zza ?zzb ?zzx ?_; (case zzl => exact list_at (by k_asm) (by assumption)); (case zza => decide); (case zzb => decide); (case zzx => assumption); k_whole))) | ((with_reducible show wpAny _ _ (eval (Expr.Name ..) _) _ _ _); (k_here; k_dflt (first | (refine' nameX_L ?zzF ?zzv ?_ ?zza ?zzb; (case zzF => k_asm); (case zza => rfl); (case zzb => rfl); (case zzv => ktr_unf); k_whole) | (refine' nameX_C ?zzN ?zzc ?zzm ?zzd ?_ ?zza ?zzb; (case zza => rfl); (case zzb => rfl); (case zzN => k_asm); (case zzc => rfl); (case zzm => first | k_mem | assumption); (case zzd => first | assumption | rfl); k_whole)))) | walk1 | (dsimp only; first | ((with_reducible show wpAny _ _ (call (Value.builtin "str.encode") _ _) _ _ _); (k_here; k_dflt (refine' call_encode ?zza ?zzb ?zzc ?_; (case zza => assumption); (case zzb => assumption); (case zzc => assumption); k_whole))) | ((with_reducible show wpAny _ _ (getMethod (Value.str ..) _ _) _ _ _); (k_here; (refine getMethod_encode ?_))) | ((with_reducible show wpAny _ _ (subscriptTail _ _ _ _) _ _ _); (k_here; k_dflt (refine' item_any ?zzl ?zza ?zzb ?zzx ?_; (case zzl => exact list_at (by k_asm) (by assumption)); (case zza => decide); (case zzb => decide); (case zzx => assumption); k_whole))) | ((with_reducible show wpAny _ _ (eval (Expr.Name ..) _) _ _ _); (k_here; k_dflt (first | (refine' nameX_L ?zzF ?zzv ?_ ?zza ?zzb; (case zzF => k_asm); (case zza => rfl); (case zzb => rfl); (case zzv => ktr_unf); k_whole) | (refine' nameX_C ?zzN ?zzc ?zzm ?zzd ?_ ?zza ?zzb; (case zza => rfl); (case zzb => rfl); (case zzN => k_asm); (case zzc => rfl); (case zzm => first | k_mem | assumption); (case zzd => first | assumption | rfl); k_whole)))) | walk1) | (leave1; try dsimp only) | fail "no step"))
  exact hQ _ _ _ (by assumption) (by assumption)

set_option maxHeartbeats 4000000 in
theorem enc_list {lw : Addr} {vd : List Value} {nd : Nat} {xs : List Str} (hw : m (Str.ofString "words") = some (.ref lw)) (hd : (lw, listOf vd.toArray nd) ∈ news) (hxs : StrsAre vd xs) (hl : xs.length ≤ 100) (hx : ∀ x ∈ xs, (∀ z ∈ x.cps, z < 128) ∧ x.length ≤ 1000 ∧ 0 < x.length)
   (X : (Mine.hd.heap_39 w.params).In g) (T : Top Mine.hd.view_39 lo mean mg mb g) (F : Fr g L s.heap m) (N : News g L s.heap news)
   (hQ : ∀ D vs h' tk', BytesAre vs (xs.map encOf) → Fr g L h' m → News g L h' ((D, lst vs) :: news) → (∀ p ∈ news, p.1 ≠ D) → Q (.ref D) { s with heap := h', toks := tk' }) :
   wpAny (model rprog w) (callerA.deeper (envOfC (Str.ofString "law") lawScope L a ccd)) (eval flE (envOfC (Str.ofString "law") lawScope L a ccd)) Q E s := by
  show wpAny _ _ (eval (.ListComp _ [⟨PySem.Expr.Name _ _, _, [], 0⟩] _ _) _) _ _ _
  refine LCg.ListComp_U (h₀ := g) (L := L) (m := m) (cl := []) F rfl (by decide) rfl (by decide) rfl ?_
  refine nameX_L F hw ?_ rfl rfl
  refine LCg.CompSrc.ledger rfl F N hd ?_ fun g' => ?_
  · rw [sizeLine_eq, List.size_toArray, strs_len' hxs]; lia
  refine compRest_J (J := fun i ys nw => BytesAre ys ((xs.take i).map encOf) ∧ nw = news) vd.toArray.size ?_ ?_ _ 0 [] news (by lia) ⟨.nil, rfl⟩
  · rintro i ys nw v I oI C oC D m₂ h tk E' hlt ⟨hS, rfl⟩ hv hC hx' F N off ne
    obtain ⟨c, t, rfl, hc'⟩ := strs_item (its := vd.toArray) hxs hv
    have hb := hx c (List.mem_of_getElem? hc')
    refine enc_elt hC hx' hb.1 hb.2.1 hb.2.2 X T F N fun t' h' tk' F' N' => CompEnd.same F' N' off (.inr ⟨_, hd, rfl, _, rfl⟩) ⟨?_, rfl⟩
    rw [show xs.take (i + 1) = xs.take i ++ [c] by simp [List.take_add_one, hc'], List.map_append]
    exact bytes_snoc hS _ _
  · rintro ys nw ⟨hS, rfl⟩
    intro D h' tk F' N' o1
    refine hQ D ys h' tk ?_ F' N' (Off1.mem o1)
    rwa [List.take_of_length_le (by rw [List.size_toArray, strs_len' hxs]; exact Nat.le_refl _)] at hS
end
theorem lst_fits {vs : List Value} {bs : List (Array UInt8)} (h : BytesAre vs bs) (hl : bs.length ≤ 100) : vs.length ≤ sizeLine := by rw [bytes_len h, sizeLine_eq]; lia
theorem tupAt {h₀ h : Heap} {L D : Addr} {its : Array Value} {n : Nat} {news : List (Addr × Obj)} (N : News h₀ L h news) (hm : (D, ({ cls := .type "tuple", data := .seq its n } : Obj)) ∈ news) : h.IsTuple D its := ⟨_, (N _ hm).1, rfl, _, rfl⟩
local macro_rules | `(tactic| k_mem) => `(tactic| first | assumption | exact List.Mem.head _ | (refine List.mem_cons_of_mem _ ?_; k_mem))
section
variable {w : World} {mean : ExcName → Option Value} {mg mb : Str → Option Value} {g : Heap} {L a : Addr} {ccd : Value} {s : Shared} {m : Str → Option Value} {news : List (Addr × Obj)} {Q : Flow → Shared → Prop} {E : Value → Shared → Prop}

set_option maxHeartbeats 4000000 in
theorem st_flagsame {lw lf : Addr} {vd vf : List Value} {nd nf : Nat} {xs : List Str} {bs : List (Array UInt8)} (hw : m (Str.ofString "words") = some (.ref lw)) (hf : m (Str.ofString "flags") = some (.ref lf)) (hd : (lw, listOf vd.toArray nd) ∈ news) (htf : (lf, ({ cls := .type "tuple", data := .seq vf.toArray nf } : Obj)) ∈ news) (hxs : StrsAre vd xs) (hl : xs.length ≤ 100) (hx : ∀ x ∈ xs, (∀ z ∈ x.cps, z < 128) ∧ x.length ≤ 1000 ∧ 0 < x.length) (hbf : BytesAre vf bs) (heq : bs = xs.map encOf)
   (X : (Mine.hd.heap_39 w.params).In g) (T : Top Mine.hd.view_39 lo mean mg mb g) (F : Fr g L s.heap m) (N : News g L s.heap news)
   (hQ : ∀ h' tk', Fr g L h' m → News g L h' news → Q .next { s with heap := h', toks := tk' }) :
   wpAny (model rprog w) (callerA.deeper (envOfC (Str.ofString "law") lawScope L a ccd)) (exec (loopS 17) (envOfC (Str.ofString "law") lawScope L a ccd)) Q E s := by
  show wpAny _ _ (exec (Stmt.If _ _ _ _) _) _ _ _
  w_strict (repeat' (first | (k_unfold; (try dsimp only)) | (k_end; wrow_close) | ((with_reducible show wpAny _ _ (compareOp .NotEq (Value.ref _) (Value.ref _)) _ _ _); (k_here; k_dflt (refine' ne_bytes_same ?zzl ?zzb ?zzv ?zzw ?zze ?zzu ?_; (case zzl => exact tupAt (by k_asm) (by k_mem)); (case zzb => exact tupAt (by k_asm) (by k_mem)); (case zzv => assumption); (case zzw => assumption); (case zze => assumption); (case zzu => first | ktr_units | k_units); k_whole))) | ((with_reducible show wpAny _ _ (call (Value.type "tuple") _ _) _ _ _); (k_here; k_dflt (refine' tuple_ofL ?zzF ?zzN ?zzl ?_ ?zzz; (case zzF => k_asm); (case zzN => k_asm); (case zzl => exact list_at (by k_asm) (List.Mem.head _)); (case zzz => exact lst_fits (by assumption) (by simpa using (by assumption : _ ≤ 100))); k_whole); intro _ _ _ _ _)) | ((with_reducible show wpAny _ _ (eval (Expr.ListComp ..) _) _ _ _); (k_here; k_dflt (refine' enc_list ?zzw ?zzd ?zzxs ?zzl ?zzx ?zzX ?zzT ?zzF ?zzN ?_; (case zzX => k_asm); (case zzT => k_asm); (case zzF => k_asm); (case zzN => k_asm); (case zzw => assumption); (case zzd => assumption); (case zzxs => assumption); (case zzl => lia); (case zzx => assumption); k_whole); intro _ _ _ _ _ _ _ _)) | ((with_reducible show wpAny _ _ (call (Value.builtin "str.encode") _ _) _ _ _); (k_here; k_dflt (refine' call_encode ?zza ?zzb ?zzc ?_; (case zza => assumption); (case zzb => assumption); (case zzc => assumption); k_whole))) | ((with_reducible show wpAny _ _ (getMethod (Value.str ..) _ _) _ _ _); (k_here; (refine getMethod_encode ?_))) | ((with_reducible show wpAny _ _ (subscriptTail _ _ _ _) _ _ _); (k_here; k_dflt (refine' item_any ?zzl ?zza ?zzb ?zzx ?_; (case zzl => exact list_at (by k_asm) (by assumption)); (case zza => decide); (case zzb => decide); (case zzx => assumption); k_whole))) | ((with_reducible show wpAny _ _ (eval (Expr.Name ..) _) _ _ _); (k_here; k_dflt (first | (refine' nameX_L ?zzF ?zzv ?_ ?zza ?zzb; (case zzF => k_asm); (case zza => rfl); (case zzb => rfl); (case zzv => ktr_unf); k_whole) | (refine' nameX_C ?zzN ?zzc ?zzm ?zzd ?_ ?zza ?zzb; (case zza => rfl); (case zzb => rfl); (case zzN => k_asm); (case zzc => rfl); (case zzm => first | k_mem | assumption); (case zzd => first | assumption | rfl); k_whole)))) | walk1 | (dsimp only; first | ((with_reducible show wpAny _ _ (compareOp .NotEq (Value.ref _) (Value.ref _)) _ _ _); (k_here; k_dflt (refine' ne_bytes_same ?zzl ?zzb ?zzv ?zzw ?zze ?zzu ?_; (case zzl => exact tupAt (by k_asm) (by k_mem)); (case zzb => exact tupAt (by k_asm) (by k_mem)); (case zzv => assumption); (case zzw => assumption); (case zze => assumption); (case zzu => first | ktr_units | k_units); k_whole))) | ((with_reducible show wpAny _ _ (call (Value.type "tuple") _ _) _ _ _); (k_here; k_dflt (refine' tuple_ofL ?zzF ?zzN ?zzl ?_ ?zzz; (case zzF => k_asm); (case zzN => k_asm); (case zzl => exact list_at (by k_asm) (List.Mem.head _)); (case zzz => exact lst_fits (by assumption) (by simpa using (by assumption : _ ≤ 100))); k_whole); intro _ _ _ _ _)) | ((with_reducible show wpAny _ _ (eval (Expr.ListComp ..) _) _ _ _); (k_here; k_dflt (refine' enc_list ?zzw ?zzd ?zzxs ?zzl ?zzx ?zzX ?zzT ?zzF ?zzN ?_; (case zzX => k_asm); (case zzT => k_asm); (case zzF => k_asm); (case zzN => k_asm); (case zzw => assumption); (case zzd => assumption); (case zzxs => assumption); (case zzl => lia); (case zzx => assumption); k_whole); intro _ _ _ _ _ _ _ _)) | ((with_reducible show wpAny _ _ (call (Value.builtin "str.encode") _ _) _ _ _); (k_here; k_dflt (refine' call_encode ?zza ?zzb ?zzc ?_; (case zza => assumption); (case zzb => assumption); (case zzc => assumption); k_whole))) | ((with_reducible show wpAny _ _ (getMethod (Value.str ..) _ _) _ _ _); (k_here; (refine getMethod_encode ?_))) | ((with_reducible show wpAny _ _ (subscriptTail _ _ _ _) _ _ _); (k_here; k_dflt (refine' item_any ?zzl ?zza ?zzb ?zzx ?_; (case zzl => exact list_at (by k_asm) (by assumption)); (case zza => decide); (case zzb => decide); (case zzx => assumption); k_whole))) | ((with_reducible show wpAny _ _ (eval (Expr.Name ..) _) _ _ _); (k_here; k_dflt (first | (refine' nameX_L ?zzF ?zzv ?_ ?zza ?zzb; (case zzF => k_asm); (case zza => rfl); (case zzb => rfl); (case zzv => ktr_unf); k_whole) | (refine' nameX_C ?zzN ?zzc ?zzm ?zzd ?_ ?zza ?zzb; (case zza => rfl); (case zzb => rfl); (case zzN => k_asm); (case zzc => rfl); (case zzm => first | k_mem | assumption); (case zzd => first | assumption | rfl); k_whole)))) | walk1) | (leave1; try dsimp only) | fail "no step"))
  exact hQ _ _ (by assumption) (fun p hp => (by assumption : News g L _ (_ :: _ :: news)) p (List.mem_cons_of_mem _ (List.mem_cons_of_mem _ hp)))
end
end Mine
end
section
open PySem PySem.W PyProof.Rows PySem.Calls PySem.Spec PyProof.Rows.LCg
set_option maxRecDepth 100000
namespace Mine
local macro_rules | `(tactic| omega) => `(tactic| lia)
local macro_rules | `(tactic| ktr_unf) => `(tactic| first | assumption | (dsimp only; (repeat (first | (rw [if_pos (by decide)]) | (rw [if_neg (by decide)]))); first | rfl | assumption))
local macro_rules | `(tactic| k_all) => `(tactic| assumption)
local macro_rules | `(tactic| k_mem) => `(tactic| assumption)
example (w : World) (h : Heap) : (Mine.hd.heap_39 w.params).In h → rprog = PySem.Challenge.rw_wy0014_01.prog → True := by
  k_fill
  intros; trivial
/-- a text that encodes sign by sign -/
noncomputable def Asc (x : Str) : Prop := (∀ c ∈ x.cps, c < 128) ∧ x.length ≤ 1000 ∧ 0 < x.length
/-- what ParseFlags tells of a text -/
noncomputable def Fl (x : Str) (ws : List (Array UInt8)) : Prop := Asc x ∧ 8 ≤ x.length ∧ flagWords (encOf x) = ws ∧ ws.length ≤ 1000
theorem Fl.sz {x : Str} {ws : List (Array UInt8)} (h : Fl x ws) : (x.cps.map (·.toUInt8)).size ≤ 1000 := by rw [Array.size_map]; exact h.1.2.1
theorem Fl.s8 {x : Str} {ws : List (Array UInt8)} (h : Fl x ws) : 8 ≤ (x.cps.map (·.toUInt8)).size := by rw [Array.size_map]; exact h.2.1
theorem Fl.ws {x : Str} {ws : List (Array UInt8)} (h : Fl x ws) : (flagWords (x.cps.map (·.toUInt8))).length ≤ 1000 := by
  have e : flagWords (x.cps.map (·.toUInt8)) = ws := h.2.2.1
  rw [e]; exact h.2.2.2
theorem Fl.is {x : Str} {ws : List (Array UInt8)} {vs : List Value} (h : Fl x ws) (b : BytesAre vs (flagWords (x.cps.map (·.toUInt8)))) : BytesAre vs ws := by
  have e : flagWords (x.cps.map (·.toUInt8)) = ws := h.2.2.1
  rwa [e] at b
local macro_rules | `(tactic| k_mem) => `(tactic| first | assumption | exact List.Mem.head _ | (refine List.mem_cons_of_mem _ ?_; k_mem))
noncomputable def vE (i : Nat) : PySem.Expr := match loopS 19 with | .If (.BoolOp _ es _) _ _ _ => es.getD i default | _ => default
section
variable {w : World} {mean : ExcName → Option Value} {mg mb : Str → Option Value} {g : Heap} {L a : Addr} {ccd : Value} {s : Shared} {m : Str → Option Value} {news : List (Addr × Obj)} {Q : Bool → Shared → Prop} {E : Value → Shared → Prop}

set_option maxHeartbeats 4000000 in
theorem is_cut {tx ty : Tok} {x y : Str} (hm : m (Str.ofString "cut") = some (.str x tx)) (hm2 : m (Str.ofString "field") = some (.str y ty)) (hx : x.length ≤ 1000) (f1 : Fl (Txt.slice x (some 5) none) [y.cps.map (·.toUInt8)]) (f2 : Asc y) {base : Heap} (B : Below callerA base [] g)
   (X : (Mine.hd.heap_39 w.params).In g) (T : Top Mine.hd.view_39 lo mean mg mb g) (F : Fr g L s.heap m) (N : News g L s.heap news)
   (hQ : ∀ h' tk', Fr g L h' m → News g L h' news → Q false { s with heap := h', toks := tk' }) :
   wpAny (model rprog w) (callerA.deeper (envOfC (Str.ofString "law") lawScope L a ccd)) (PySem.isTrue (vE 0) (envOfC (Str.ofString "law") lawScope L a ccd) (eval (vE 0) (envOfC (Str.ofString "law") lawScope L a ccd))) Q E s := by
  show wpAny _ _ (PySem.isTrue (.Compare _ _ _ _) _ _) _ _ _
  w_strict (repeat' (first | (k_unfold; (try dsimp only)) | (k_end; wrow_close) | ((with_reducible show wpAny _ _ (compareOp .NotEq (Value.ref _) (Value.ref _)) _ _ _); (k_here; k_dflt (refine' ne_bytes_same ?zzl ?zzb ?zzv ?zzw ?zze ?zzu ?_; (case zzl => exact tupAt (by k_asm) (by k_mem)); (case zzb => exact tupAt (by k_asm) (by k_mem)); (case zzv => exact Fl.is (by assumption) (by assumption)); (case zzw => first | exact BytesAre.cons _ _ .nil | exact BytesAre.nil); (case zze => exact rfl); (case zzu => first | ktr_units | k_units); k_whole))) | ((with_reducible show wpAny _ _ (call (Value.ref _) _ _) _ _ _); (k_here; k_dflt (refine' parseFlags_spec ?zzB ?zzF ?zzX ?zzN ?zzT ?zzhk ?zzhdp ?zzhun ?zzhx ?zzh8 ?zzhw ?_; (case zzB => k_asm); (case zzF => k_asm); (case zzX => k_asm); (case zzN => k_asm); (case zzT => k_asm); (case zzhk => exact rfl); (case zzhx => exact Fl.sz (by assumption)); (case zzh8 => exact Fl.s8 (by assumption)); (case zzhw => exact Fl.ws (by assumption)); (case zzhdp => decide); (case zzhun => decide); k_whole); intro _ _ _ _ _ _ _ _ _)) | ((with_reducible show wpAny _ _ (call (Value.builtin "str.encode") _ _) _ _ _); (k_here; k_dflt (first | (refine' call_encode ?zza ?zzb ?zzc ?_; (case zza => exact And.left (by assumption : Asc _)); (case zzb => exact And.left (And.right (by assumption : Asc _))); (case zzc => exact And.right (And.right (by assumption : Asc _))); k_whole) | (refine' call_encode ?zza ?zzb ?zzc ?_; (case zza => exact And.left (And.left (by assumption : Fl _ _))); (case zzb => exact And.left (And.right (And.left (by assumption : Fl _ _)))); (case zzc => exact And.right (And.right (And.left (by assumption : Fl _ _)))); k_whole)))) | ((with_reducible show wpAny _ _ (getMethod (Value.str ..) _ _) _ _ _); (k_here; (refine getMethod_encode ?_))) | ((with_reducible show wpAny _ _ (eval (Expr.Name ..) _) _ _ _); (k_here; k_dflt (first | (refine' nameX_L ?zzF ?zzv ?_ ?zza ?zzb; (case zzF => k_asm); (case zza => rfl); (case zzb => rfl); (case zzv => ktr_unf); k_whole) | (refine' nameX_C ?zzN ?zzc ?zzm ?zzd ?_ ?zza ?zzb; (case zza => rfl); (case zzb => rfl); (case zzN => k_asm); (case zzc => rfl); (case zzm => first | k_mem | assumption); (case zzd => first | assumption | rfl); k_whole)))) | walk1 | (dsimp only; first | ((with_reducible show wpAny _ _ (compareOp .NotEq (Value.ref _) (Value.ref _)) _ _ _); (k_here; k_dflt (refine' ne_bytes_same ?zzl ?zzb ?zzv ?zzw ?zze ?zzu ?_; (case zzl => exact tupAt (by k_asm) (by k_mem)); (case zzb => exact tupAt (by k_asm) (by k_mem)); (case zzv => exact Fl.is (by assumption) (by assumption)); (case zzw => first | exact BytesAre.cons _ _ .nil | exact BytesAre.nil); (case zze => exact rfl); (case zzu => first | ktr_units | k_units); k_whole))) | ((with_reducible show wpAny _ _ (call (Value.ref _) _ _) _ _ _); (k_here; k_dflt (refine' parseFlags_spec ?zzB ?zzF ?zzX ?zzN ?zzT ?zzhk ?zzhdp ?zzhun ?zzhx ?zzh8 ?zzhw ?_; (case zzB => k_asm); (case zzF => k_asm); (case zzX => k_asm); (case zzN => k_asm); (case zzT => k_asm); (case zzhk => exact rfl); (case zzhx => exact Fl.sz (by assumption)); (case zzh8 => exact Fl.s8 (by assumption)); (case zzhw => exact Fl.ws (by assumption)); (case zzhdp => decide); (case zzhun => decide); k_whole); intro _ _ _ _ _ _ _ _ _)) | ((with_reducible show wpAny _ _ (call (Value.builtin "str.encode") _ _) _ _ _); (k_here; k_dflt (first | (refine' call_encode ?zza ?zzb ?zzc ?_; (case zza => exact And.left (by assumption : Asc _)); (case zzb => exact And.left (And.right (by assumption : Asc _))); (case zzc => exact And.right (And.right (by assumption : Asc _))); k_whole) | (refine' call_encode ?zza ?zzb ?zzc ?_; (case zza => exact And.left (And.left (by assumption : Fl _ _))); (case zzb => exact And.left (And.right (And.left (by assumption : Fl _ _)))); (case zzc => exact And.right (And.right (And.left (by assumption : Fl _ _)))); k_whole)))) | ((with_reducible show wpAny _ _ (getMethod (Value.str ..) _ _) _ _ _); (k_here; (refine getMethod_encode ?_))) | ((with_reducible show wpAny _ _ (eval (Expr.Name ..) _) _ _ _); (k_here; k_dflt (first | (refine' nameX_L ?zzF ?zzv ?_ ?zza ?zzb; (case zzF => k_asm); (case zza => rfl); (case zzb => rfl); (case zzv => ktr_unf); k_whole) | (refine' nameX_C ?zzN ?zzc ?zzm ?zzd ?_ ?zza ?zzb; (case zza => rfl); (case zzb => rfl); (case zzN => k_asm); (case zzc => rfl); (case zzm => first | k_mem | assumption); (case zzd => first | assumption | rfl); k_whole)))) | walk1) | (leave1; try dsimp only) | fail "no step"))
  exact hQ _ _ (by assumption) (fun p hp => (by assumption : News g L _ (_ :: _ :: news)) p (List.mem_cons_of_mem _ (List.mem_cons_of_mem _ hp)))

set_option maxHeartbeats 4000000 in
theorem is_void {tz : Tok} {z : Str} (hm3 : m (Str.ofString "void") = some (.str z tz)) (f3 : Fl z []) {base : Heap} (B : Below callerA base [] g)
   (X : (Mine.hd.heap_39 w.params).In g) (T : Top Mine.hd.view_39 lo mean mg mb g) (F : Fr g L s.heap m) (N : News g L s.heap news)
   (hQ : ∀ h' tk', Fr g L h' m → News g L h' news → Q false { s with heap := h', toks := tk' }) :
   wpAny (model rprog w) (callerA.deeper (envOfC (Str.ofString "law") lawScope L a ccd)) (PySem.isTrue (vE 1) (envOfC (Str.ofString "law") lawScope L a ccd) (eval (vE 1) (envOfC (Str.ofString "law") lawScope L a ccd))) Q E s := by
  show wpAny _ _ (PySem.isTrue (.Compare _ _ _ _) _ _) _ _ _
  w_strict (repeat' (first | (k_unfold; (try dsimp only)) | (k_end; wrow_close) | ((with_reducible show wpAny _ _ (compareOp .NotEq (Value.ref _) (Value.ref _)) _ _ _); (k_here; k_dflt (refine' ne_bytes_same ?zzl ?zzb ?zzv ?zzw ?zze ?zzu ?_; (case zzl => exact tupAt (by k_asm) (by k_mem)); (case zzb => exact tupAt (by k_asm) (by k_mem)); (case zzv => exact Fl.is (by assumption) (by assumption)); (case zzw => first | exact BytesAre.cons _ _ .nil | exact BytesAre.nil); (case zze => exact rfl); (case zzu => first | ktr_units | k_units); k_whole))) | ((with_reducible show wpAny _ _ (call (Value.ref _) _ _) _ _ _); (k_here; k_dflt (refine' parseFlags_spec ?zzB ?zzF ?zzX ?zzN ?zzT ?zzhk ?zzhdp ?zzhun ?zzhx ?zzh8 ?zzhw ?_; (case zzB => k_asm); (case zzF => k_asm); (case zzX => k_asm); (case zzN => k_asm); (case zzT => k_asm); (case zzhk => exact rfl); (case zzhx => exact Fl.sz (by assumption)); (case zzh8 => exact Fl.s8 (by assumption)); (case zzhw => exact Fl.ws (by assumption)); (case zzhdp => decide); (case zzhun => decide); k_whole); intro _ _ _ _ _ _ _ _ _)) | ((with_reducible show wpAny _ _ (call (Value.builtin "str.encode") _ _) _ _ _); (k_here; k_dflt (first | (refine' call_encode ?zza ?zzb ?zzc ?_; (case zza => exact And.left (by assumption : Asc _)); (case zzb => exact And.left (And.right (by assumption : Asc _))); (case zzc => exact And.right (And.right (by assumption : Asc _))); k_whole) | (refine' call_encode ?zza ?zzb ?zzc ?_; (case zza => exact And.left (And.left (by assumption : Fl _ _))); (case zzb => exact And.left (And.right (And.left (by assumption : Fl _ _)))); (case zzc => exact And.right (And.right (And.left (by assumption : Fl _ _)))); k_whole)))) | ((with_reducible show wpAny _ _ (getMethod (Value.str ..) _ _) _ _ _); (k_here; (refine getMethod_encode ?_))) | ((with_reducible show wpAny _ _ (eval (Expr.Name ..) _) _ _ _); (k_here; k_dflt (first | (refine' nameX_L ?zzF ?zzv ?_ ?zza ?zzb; (case zzF => k_asm); (case zza => rfl); (case zzb => rfl); (case zzv => ktr_unf); k_whole) | (refine' nameX_C ?zzN ?zzc ?zzm ?zzd ?_ ?zza ?zzb; (case zza => rfl); (case zzb => rfl); (case zzN => k_asm); (case zzc => rfl); (case zzm => first | k_mem | assumption); (case zzd => first | assumption | rfl); k_whole)))) | walk1 | (dsimp only; first | ((with_reducible show wpAny _ _ (compareOp .NotEq (Value.ref _) (Value.ref _)) _ _ _); (k_here; k_dflt (refine' ne_bytes_same ?zzl ?zzb ?zzv ?zzw ?zze ?zzu ?_; (case zzl => exact tupAt (by k_asm) (by k_mem)); (case zzb => exact tupAt (by k_asm) (by k_mem)); (case zzv => exact Fl.is (by assumption) (by assumption)); (case zzw => first | exact BytesAre.cons _ _ .nil | exact BytesAre.nil); (case zze => exact rfl); (case zzu => first | ktr_units | k_units); k_whole))) | ((with_reducible show wpAny _ _ (call (Value.ref _) _ _) _ _ _); (k_here; k_dflt (refine' parseFlags_spec ?zzB ?zzF ?zzX ?zzN ?zzT ?zzhk ?zzhdp ?zzhun ?zzhx ?zzh8 ?zzhw ?_; (case zzB => k_asm); (case zzF => k_asm); (case zzX => k_asm); (case zzN => k_asm); (case zzT => k_asm); (case zzhk => exact rfl); (case zzhx => exact Fl.sz (by assumption)); (case zzh8 => exact Fl.s8 (by assumption)); (case zzhw => exact Fl.ws (by assumption)); (case zzhdp => decide); (case zzhun => decide); k_whole); intro _ _ _ _ _ _ _ _ _)) | ((with_reducible show wpAny _ _ (call (Value.builtin "str.encode") _ _) _ _ _); (k_here; k_dflt (first | (refine' call_encode ?zza ?zzb ?zzc ?_; (case zza => exact And.left (by assumption : Asc _)); (case zzb => exact And.left (And.right (by assumption : Asc _))); (case zzc => exact And.right (And.right (by assumption : Asc _))); k_whole) | (refine' call_encode ?zza ?zzb ?zzc ?_; (case zza => exact And.left (And.left (by assumption : Fl _ _))); (case zzb => exact And.left (And.right (And.left (by assumption : Fl _ _)))); (case zzc => exact And.right (And.right (And.left (by assumption : Fl _ _)))); k_whole)))) | ((with_reducible show wpAny _ _ (getMethod (Value.str ..) _ _) _ _ _); (k_here; (refine getMethod_encode ?_))) | ((with_reducible show wpAny _ _ (eval (Expr.Name ..) _) _ _ _); (k_here; k_dflt (first | (refine' nameX_L ?zzF ?zzv ?_ ?zza ?zzb; (case zzF => k_asm); (case zza => rfl); (case zzb => rfl); (case zzv => ktr_unf); k_whole) | (refine' nameX_C ?zzN ?zzc ?zzm ?zzd ?_ ?zza ?zzb; (case zza => rfl); (case zzb => rfl); (case zzN => k_asm); (case zzc => rfl); (case zzm => first | k_mem | assumption); (case zzd => first | assumption | rfl); k_whole)))) | walk1) | (leave1; try dsimp only) | fail "no step"))
  exact hQ _ _ (by assumption) (fun p hp => (by assumption : News g L _ (_ :: _ :: news)) p (List.mem_cons_of_mem _ (List.mem_cons_of_mem _ hp)))
end
section
variable {w : World} {mean : ExcName → Option Value} {mg mb : Str → Option Value} {g : Heap} {L a : Addr} {ccd : Value} {s : Shared} {m : Str → Option Value} {news : List (Addr × Obj)} {Q : Flow → Shared → Prop} {E : Value → Shared → Prop}

set_option maxHeartbeats 4000000 in
theorem st_voids {tx ty tz : Tok} {x y z : Str} (hm : m (Str.ofString "cut") = some (.str x tx)) (hm2 : m (Str.ofString "field") = some (.str y ty)) (hm3 : m (Str.ofString "void") = some (.str z tz)) (hx : x.length ≤ 1000) (f1 : Fl (Txt.slice x (some 5) none) [y.cps.map (·.toUInt8)]) (f2 : Asc y) (f3 : Fl z []) {base : Heap} (B : Below callerA base [] g)
   (X : (Mine.hd.heap_39 w.params).In g) (T : Top Mine.hd.view_39 lo mean mg mb g) (F : Fr g L s.heap m) (N : News g L s.heap news)
   (hQ : ∀ h' tk', Fr g L h' m → News g L h' news → Q .next { s with heap := h', toks := tk' }) :
   wpAny (model rprog w) (callerA.deeper (envOfC (Str.ofString "law") lawScope L a ccd)) (exec (loopS 19) (envOfC (Str.ofString "law") lawScope L a ccd)) Q E s := by
  show wpAny _ _ (exec (Stmt.If _ _ _ _) _) _ _ _
  w_strict (repeat' (first | (k_unfold; (try dsimp only)) | (k_end; wrow_close) | ((with_reducible show wpAny _ _ (PySem.isTrue (Expr.Compare ..) _ _) _ _ _); (k_here; k_dflt (first | (refine' is_cut ?zzm1 ?zzm2 ?zzhx ?zzf1 ?zzf2 ?zzB ?zzX ?zzT ?zzF ?zzN ?_; (case zzB => k_asm); (case zzF => k_asm); (case zzX => k_asm); (case zzN => k_asm); (case zzT => k_asm); (case zzm1 => assumption); (case zzm2 => assumption); (case zzhx => assumption); (case zzf1 => assumption); (case zzf2 => assumption); k_whole) | (refine' is_void ?zzm1 ?zzf1 ?zzB ?zzX ?zzT ?zzF ?zzN ?_; (case zzB => k_asm); (case zzF => k_asm); (case zzX => k_asm); (case zzN => k_asm); (case zzT => k_asm); (case zzm1 => assumption); (case zzf1 => assumption); k_whole)); intro _ _ _ _)) | ((with_reducible show wpAny _ _ (compareOp .NotEq (Value.ref _) (Value.ref _)) _ _ _); (k_here; k_dflt (refine' ne_bytes_same ?zzl ?zzb ?zzv ?zzw ?zze ?zzu ?_; (case zzl => exact tupAt (by k_asm) (by k_mem)); (case zzb => exact tupAt (by k_asm) (by k_mem)); (case zzv => exact Fl.is (by assumption) (by assumption)); (case zzw => first | exact BytesAre.cons _ _ .nil | exact BytesAre.nil); (case zze => exact rfl); (case zzu => first | ktr_units | k_units); k_whole))) | ((with_reducible show wpAny _ _ (call (Value.ref _) _ _) _ _ _); (k_here; k_dflt (refine' parseFlags_spec ?zzB ?zzF ?zzX ?zzN ?zzT ?zzhk ?zzhdp ?zzhun ?zzhx ?zzh8 ?zzhw ?_; (case zzB => k_asm); (case zzF => k_asm); (case zzX => k_asm); (case zzN => k_asm); (case zzT => k_asm); (case zzhk => exact rfl); (case zzhx => exact Fl.sz (by assumption)); (case zzh8 => exact Fl.s8 (by assumption)); (case zzhw => exact Fl.ws (by assumption)); (case zzhdp => decide); (case zzhun => decide); k_whole); intro _ _ _ _ _ _ _ _ _)) | ((with_reducible show wpAny _ _ (call (Value.builtin "str.encode") _ _) _ _ _); (k_here; k_dflt (first | (refine' call_encode ?zza ?zzb ?zzc ?_; (case zza => exact And.left (by assumption : Asc _)); (case zzb => exact And.left (And.right (by assumption : Asc _))); (case zzc => exact And.right (And.right (by assumption : Asc _))); k_whole) | (refine' call_encode ?zza ?zzb ?zzc ?_; (case zza => exact And.left (And.left (by assumption : Fl _ _))); (case zzb => exact And.left (And.right (And.left (by assumption : Fl _ _)))); (case zzc => exact And.right (And.right (And.left (by assumption : Fl _ _)))); k_whole)))) | ((with_reducible show wpAny _ _ (getMethod (Value.str ..) _ _) _ _ _); (k_here; (refine getMethod_encode ?_))) | ((with_reducible show wpAny _ _ (eval (Expr.Name ..) _) _ _ _); (k_here; k_dflt (first | (refine' nameX_L ?zzF ?zzv ?_ ?zza ?zzb; (case zzF => k_asm); (case zza => rfl); (case zzb => rfl); (case zzv => ktr_unf); k_whole) | (refine' nameX_C ?zzN ?zzc ?zzm ?zzd ?_ ?zza ?zzb; (case zza => rfl); (case zzb => rfl); (case zzN => k_asm); (case zzc => rfl); (case zzm => first | k_mem | assumption); (case zzd => first | assumption | rfl); k_whole)))) | walk1 | (dsimp only; first | ((with_reducible show wpAny _ _ (PySem.isTrue (Expr.Compare ..) _ _) _ _ _); (k_here; k_dflt (first | (refine' is_cut ?zzm1 ?zzm2 ?zzhx ?zzf1 ?zzf2 ?zzB ?zzX ?zzT ?zzF ?zzN ?_; (case zzB => k_asm); (case zzF => k_asm); (case zzX => k_asm); (case zzN => k_asm); (case zzT => k_asm); (case zzm1 => assumption); (case zzm2 => assumption); (case zzhx => assumption); (case zzf1 => assumption); (case zzf2 => assumption); k_whole) | (refine' is_void ?zzm1 ?zzf1 ?zzB ?zzX ?zzT ?zzF ?zzN ?_; (case zzB => k_asm); (case zzF => k_asm); (case zzX => k_asm); (case zzN => k_asm); (case zzT => k_asm); (case zzm1 => assumption); (case zzf1 => assumption); k_whole)); intro _ _ _ _)) | ((with_reducible show wpAny _ _ (compareOp .NotEq (Value.ref _) (Value.ref _)) _ _ _); (k_here; k_dflt (refine' ne_bytes_same ?zzl ?zzb ?zzv ?zzw ?zze ?zzu ?_; (case zzl => exact tupAt (by k_asm) (by k_mem)); (case zzb => exact tupAt (by k_asm) (by k_mem)); (case zzv => exact Fl.is (by assumption) (by assumption)); (case zzw => first | exact BytesAre.cons _ _ .nil | exact BytesAre.nil); (case zze => exact rfl); (case zzu => first | ktr_units | k_units); k_whole))) | ((with_reducible show wpAny _ _ (call (Value.ref _) _ _) _ _ _); (k_here; k_dflt (refine' parseFlags_spec ?zzB ?zzF ?zzX ?zzN ?zzT ?zzhk ?zzhdp ?zzhun ?zzhx ?zzh8 ?zzhw ?_; (case zzB => k_asm); (case zzF => k_asm); (case zzX => k_asm); (case zzN => k_asm); (case zzT => k_asm); (case zzhk => exact rfl); (case zzhx => exact Fl.sz (by assumption)); (case zzh8 => exact Fl.s8 (by assumption)); (case zzhw => exact Fl.ws (by assumption)); (case zzhdp => decide); (case zzhun => decide); k_whole); intro _ _ _ _ _ _ _ _ _)) | ((with_reducible show wpAny _ _ (call (Value.builtin "str.encode") _ _) _ _ _); (k_here; k_dflt (first | (refine' call_encode ?zza ?zzb ?zzc ?_; (case zza => exact And.left (by assumption : Asc _)); (case zzb => exact And.left (And.right (by assumption : Asc _))); (case zzc => exact And.right (And.right (by assumption : Asc _))); k_whole) | (refine' call_encode ?zza ?zzb ?zzc ?_; (case zza => exact And.left (And.left (by assumption : Fl _ _))); (case zzb => exact And.left (And.right (And.left (by assumption : Fl _ _)))); (case zzc => exact And.right (And.right (And.left (by assumption : Fl _ _)))); k_whole)))) | ((with_reducible show wpAny _ _ (getMethod (Value.str ..) _ _) _ _ _); (k_here; (refine getMethod_encode ?_))) | ((with_reducible show wpAny _ _ (eval (Expr.Name ..) _) _ _ _); (k_here; k_dflt (first | (refine' nameX_L ?zzF ?zzv ?_ ?zza ?zzb; (case zzF => k_asm); (case zza => rfl); (case zzb => rfl); (case zzv => ktr_unf); k_whole) | (refine' nameX_C ?zzN ?zzc ?zzm ?zzd ?_ ?zza ?zzb; (case zza => rfl); (case zzb => rfl); (case zzN => k_asm); (case zzc => rfl); (case zzm => first | k_mem | assumption); (case zzd => first | assumption | rfl); k_whole)))) | walk1) | (leave1; try dsimp only) | fail "no step"))
  exact hQ _ _ (by assumption) (by assumption)
end
end Mine
end
section
open PySem
set_option maxRecDepth 100000
namespace Mine
open Mine.Re
theorem rl_stop10 {t : Array Nat} (h : lineEnd t < t.size) : t.getD (lineEnd t) 0 = 10 := by
  have := rl_stop (· != 10) t t.size 0 h
  rw [Nat.zero_add] at this
  show t.getD (rl (· != 10) t t.size 0) 0 = 10
  simpa using this
theorem rl_all10 {t : Array Nat} {i : Nat} (h : i < lineEnd t) : t.getD i 0 ≠ 10 := by
  have := rl_all (· != 10) t t.size 0 i (Nat.zero_le _) (by rw [Nat.zero_add]; exact h)
  simpa using this
theorem lineEnd_le (t : Array Nat) : lineEnd t ≤ t.size := rl_le _ _ _ _
theorem lastF_is {t : Array Nat} {q e : Nat} (hq : closed t q = some e) : ∀ n, q ≤ n → (∀ p, q < p → p ≤ n → closed t p = none) → lastF t n = some (q, e)
  | 0, hle, _ => by
    obtain rfl : q = 0 := by lia
    unfold lastF
    rw [hq]; rfl
  | n + 1, hle, hno => by
    unfold lastF
    by_cases h : q = n + 1
    · subst h; rw [hq]
    · rw [hno (n + 1) (by lia) (Nat.le_refl _)]
      exact lastF_is hq n (by lia) fun p h1 h2 => hno p h1 (by lia)
theorem lastF_none {t : Array Nat} : ∀ n, (∀ p, p ≤ n → closed t p = none) → lastF t n = none
  | 0, hno => by unfold lastF; rw [hno 0 (Nat.le_refl _)]; rfl
  | n + 1, hno => by
    unfold lastF
    rw [hno (n + 1) (Nat.le_refl _)]
    exact lastF_none n fun p h => hno p (by lia)
theorem closed_no70 {t : Array Nat} {q : Nat} (h : t.getD q 0 ≠ 70) : closed t q = none := by
  unfold closed has7
  rw [if_neg]
  simp only [Bool.and_eq_true, decide_eq_true_eq]
  intro h'
  exact h h'.1.1.1.1.1.1.2
theorem closed_no41 {t : Array Nat} {q : Nat} (h : ∀ i, q + 7 ≤ i → t.getD i 0 ≠ 41) : closed t q = none := by
  unfold closed
  split
  · rw [if_neg]
    intro hlt
    have := rl_stop (· != 41) t (t.size - (q + 7)) (q + 7) (by unfold endOf at hlt; lia)
    exact h (endOf t q) (by unfold endOf; lia) (by simpa [endOf] using this)
  · rfl
theorem closed_is {t : Array Nat} {q k : Nat} (h7 : has7 t q = true) (hlt : q + 7 + k < t.size) (h41 : t.getD (q + 7 + k) 0 = 41) (hno : ∀ i, i < k → t.getD (q + 7 + i) 0 ≠ 41) : closed t q = some (q + 7 + k) := by
  have e : endOf t q = q + 7 + k := by
    have h1 := rl_le (· != 41) t (t.size - (q + 7)) (q + 7)
    have h2 := rl_all (· != 41) t (t.size - (q + 7)) (q + 7)
    have h3 := rl_stop (· != 41) t (t.size - (q + 7)) (q + 7)
    unfold endOf
    generalize rl (· != 41) t (t.size - (q + 7)) (q + 7) = r at *
    by_cases c1 : r < k
    · have := h3 (by lia)
      exact absurd (by simpa using this) (hno r c1)
    · by_cases c2 : k < r
      · have := h2 (q + 7 + k) (by lia) (by lia)
        rw [h41] at this
        exact absurd this (by decide)
      · lia
  unfold closed
  rw [if_pos h7, if_pos (by rw [e]; exact hlt), e]
noncomputable abbrev F7 : List Nat := [70, 76, 65, 71, 83, 32, 40]
noncomputable def TailOk (tl : List Nat) : Prop := ∀ p, p < tl.length → (∀ j, j < p → tl.getD j 0 ≠ 10) → tl.getD p 0 = 70 → ∀ i, i < tl.length → p + 7 ≤ i → tl.getD i 0 ≠ 41
theorem getD_arr (l : List Nat) (i : Nat) : l.toArray.getD i 0 = l.getD i 0 := by simp [Array.getD_eq_getD_getElem?, List.getD_eq_getElem?_getD]
theorem getD_right (a b : List Nat) (i : Nat) : (a ++ b).getD (a.length + i) 0 = b.getD i 0 := by simp [List.getD_eq_getElem?_getD, List.getElem?_append_right]
theorem getD_left {a b : List Nat} {i : Nat} (h : i < a.length) : (a ++ b).getD i 0 = a.getD i 0 := by simp [List.getD_eq_getElem?_getD, List.getElem?_append_left h]
theorem getD_mem {a : List Nat} {i : Nat} (h : i < a.length) : a.getD i 0 ∈ a := by rw [List.getD_eq_getElem?_getD, List.getElem?_eq_getElem h]; exact List.getElem_mem h
theorem getD_out {a : List Nat} {i : Nat} (h : a.length ≤ i) : a.getD i 0 = 0 := by rw [List.getD_eq_getElem?_getD, List.getElem?_eq_none h]; rfl
theorem has7_at {l pre rest : List Nat} (e : l = pre ++ (F7 ++ rest)) : has7 l.toArray pre.length = true := by
  subst e
  have g : ∀ i, i < 7 → pre.length + i < (pre ++ (F7 ++ rest)).toArray.size ∧ (pre ++ (F7 ++ rest)).toArray.getD (pre.length + i) 0 = F7.getD i 0 := fun i hi => by
    refine ⟨by simp; lia, ?_⟩
    rw [getD_arr, getD_right, getD_left (by simpa using hi)]
  have g0 := g 0 (by decide)
  have g1 := g 1 (by decide)
  have g2 := g 2 (by decide)
  have g3 := g 3 (by decide)
  have g4 := g 4 (by decide)
  have g5 := g 5 (by decide)
  have g6 := g 6 (by decide)
  unfold has7
  simp only [Bool.and_eq_true, decide_eq_true_eq]
  exact ⟨⟨⟨⟨⟨⟨g0, g1⟩, g2⟩, g3⟩, g4⟩, g5⟩, g6⟩
theorem last_found {l pre W tl : List Nat} (e : l = pre ++ (F7 ++ (W ++ 41 :: tl))) (h10 : 10 ∉ pre) (h41 : 41 ∉ W) (h70 : 70 ∉ W) (htl : TailOk tl) :
    lastF l.toArray (lineEnd l.toArray) = some (pre.length, pre.length + 7 + W.length) := by
  have hlen : l.toArray.size = pre.length + 7 + W.length + 1 + tl.length := by subst e; simp; lia
  have hW : ∀ i, l.toArray.getD (pre.length + 7 + i) 0 = (W ++ 41 :: tl).getD i 0 := fun i => by
    rw [getD_arr, e, Nat.add_assoc, getD_right, show 7 + i = F7.length + i from rfl, getD_right]
  have hT : ∀ i, l.toArray.getD (pre.length + 7 + W.length + 1 + i) 0 = tl.getD i 0 := fun i => by
    rw [show pre.length + 7 + W.length + 1 + i = pre.length + 7 + (W.length + (1 + i)) by lia, hW, getD_right, show 1 + i = i + 1 by lia]; rfl
  have hc : closed l.toArray pre.length = some (pre.length + 7 + W.length) := by
    refine closed_is (has7_at e) (by lia) ?_ fun i hi => ?_
    · have := hW W.length
      rw [this, show W.length = W.length + 0 from rfl, getD_right]; rfl
    · rw [hW, getD_left hi]
      exact fun q => h41 (q ▸ getD_mem hi)
  refine lastF_is hc _ ?_ fun p h1 h2 => ?_
  · refine Nat.le_of_not_lt fun hlt => ?_
    have := rl_stop10 (t := l.toArray) (by lia)
    rw [getD_arr] at this
    generalize lineEnd l.toArray = n at hlt this
    rw [e, getD_left hlt] at this
    exact h10 (this ▸ getD_mem hlt)
  · by_cases c1 : p < pre.length + 7
    · refine closed_no70 ?_
      obtain ⟨j, rfl⟩ : ∃ j, p = pre.length + j := ⟨p - pre.length, by lia⟩
      rw [getD_arr, e, getD_right, getD_left (by show j < 7; lia)]
      have : ∀ j, j < 7 → 0 < j → F7.getD j 0 ≠ 70 := by decide
      exact this j (by lia) (by lia)
    · by_cases c2 : p < pre.length + 7 + W.length + 1
      · refine closed_no70 ?_
        obtain ⟨j, rfl⟩ : ∃ j, p = pre.length + 7 + j := ⟨p - (pre.length + 7), by lia⟩
        rw [hW]
        by_cases c3 : j < W.length
        · rw [getD_left c3]
          exact fun q => h70 (q ▸ getD_mem c3)
        · obtain rfl : j = W.length + 0 := by lia
          rw [getD_right]; exact (by decide : (41 : Nat) ≠ 70)
      · obtain ⟨j, rfl⟩ : ∃ j, p = pre.length + 7 + W.length + 1 + j := ⟨p - (pre.length + 7 + W.length + 1), by lia⟩
        by_cases c3 : tl.getD j 0 = 70
        · have hj : j < tl.length := Nat.lt_of_not_le fun hle => by rw [getD_out hle] at c3; exact absurd c3 (by decide)
          have no10 : ∀ i, i < j → tl.getD i 0 ≠ 10 := fun i hi => by
            rw [← hT]
            exact rl_all10 (by lia)
          refine closed_no41 fun i hi => ?_
          obtain ⟨k, rfl⟩ : ∃ k, i = pre.length + 7 + W.length + 1 + k := ⟨i - (pre.length + 7 + W.length + 1), by lia⟩
          rw [hT]
          by_cases c4 : k < tl.length
          · exact htl j hj no10 c3 k c4 (by lia)
          · rw [getD_out (by lia)]; decide
        · refine closed_no70 ?_
          rw [hT]
          exact c3
/-- no close mark after the first few signs -/
theorem last_open {l pre rest : List Nat} (e : l = pre ++ rest) (hp : pre.length ≤ 7) (h41 : 41 ∉ rest) : lastF l.toArray (lineEnd l.toArray) = none :=
  lastF_none _ fun p _ => closed_no41 fun i hi => by
    obtain ⟨j, rfl⟩ : ∃ j, i = pre.length + j := ⟨i - pre.length, by lia⟩
    rw [getD_arr, e, getD_right]
    by_cases c : j < rest.length
    · exact fun q => h41 (q ▸ getD_mem c)
    · rw [getD_out (by lia)]; decide
/-- a first line without the letter -/
theorem last_line {l pre rest : List Nat} (e : l = pre ++ 10 :: rest) (h70 : 70 ∉ pre) : lastF l.toArray (lineEnd l.toArray) = none := by
  have hle : lineEnd l.toArray ≤ pre.length := Nat.le_of_not_lt fun h => by
    have := rl_all10 h
    rw [getD_arr, e, show pre.length = pre.length + 0 from rfl, getD_right] at this
    exact this rfl
  refine lastF_none _ fun p hp => closed_no70 ?_
  rw [getD_arr, e]
  by_cases c : p < pre.length
  · rw [getD_left c]
    exact fun q => h70 (q ▸ getD_mem c)
  · obtain rfl : p = pre.length + 0 := by lia
    rw [getD_right]; exact (by decide : (10 : Nat) ≠ 70)
theorem flagsOf_enc {x : Str} (ha : ∀ c ∈ x.cps, c < 128) : flagsOf (encOf x) = lastF x.cps.toList.toArray (lineEnd x.cps.toList.toArray) := by
  have e : (encOf x).map (·.toNat) = x.cps.toList.toArray := by
    unfold encOf
    rw [Array.map_map, Array.toArray_toList]
    refine Array.ext (by simp) fun i h1 h2 => ?_
    have := ha (x.cps[i]'(by simpa using h2)) (Array.getElem_mem _)
    simp
    lia
  unfold flagsOf
  rw [e]
theorem enc_cut {x : Str} {pre W post : List Nat} (e : x.cps.toList = pre ++ (W ++ post)) : (encOf x).extract pre.length (pre.length + W.length) = (W.map (·.toUInt8)).toArray := by
  unfold encOf
  obtain ⟨⟨l⟩⟩ := x
  obtain rfl : l = pre ++ (W ++ post) := e
  apply Array.ext'
  simp
theorem words_found {x : Str} {pre W tl : List Nat} (ha : ∀ c ∈ x.cps, c < 128) (e : x.cps.toList = pre ++ (F7 ++ (W ++ 41 :: tl))) (h10 : 10 ∉ pre) (h41 : 41 ∉ W) (h70 : 70 ∉ W) (htl : TailOk tl) :
    flagWords (encOf x) = wsOf (W.map (·.toUInt8)).toArray := by
  rw [flagWords_some (q := pre.length) (e := pre.length + 7 + W.length) (by rw [flagsOf_enc ha]; exact last_found e h10 h41 h70 htl)]
  have := enc_cut (x := x) (pre := pre ++ F7) (W := W) (post := 41 :: tl) (by rw [e]; simp)
  simp only [List.length_append, List.length_cons, List.length_nil] at this
  rw [← this]
theorem words_none {x : Str} (ha : ∀ c ∈ x.cps, c < 128) (h : lastF x.cps.toList.toArray (lineEnd x.cps.toList.toArray) = none) : flagWords (encOf x) = [] := flagWords_none (by rw [flagsOf_enc ha]; exact h)
end Mine
end
section
open PySem PySem.W PyProof.Rows PySem.Calls PySem.Spec PyProof.Rows.LCg
set_option maxRecDepth 100000
namespace Mine
local macro_rules | `(tactic| ktr_unf) => `(tactic| first | assumption | (dsimp only; (repeat (first | (rw [if_pos (by decide)]) | (rw [if_neg (by decide)]))); first | rfl | assumption))
local macro_rules | `(tactic| k_all) => `(tactic| assumption)
local macro_rules | `(tactic| k_mem) => `(tactic| assumption)
example (w : World) (h : Heap) : (Mine.hd.heap_39 w.params).In h → rprog = PySem.Challenge.rw_wy0014_01.prog → True := by
  k_fill
  intros; trivial
noncomputable def toE : PySem.Expr := match loopS 24 with | .If (.BoolOp _ (.Compare _ _ (.Call _ (x :: _) _ _ :: _) _ :: _) _) _ _ _ => x | _ => default
section
variable {prog : Program} {w : World} {A : Around} {E : Value → Shared → Prop} {s : Shared} {h₀ : Heap} {L : Addr} {m : Str → Option Value} {news : List (Addr × Obj)}
theorem item_last2 {value slice : PySem.Expr} {b : Array UInt8} {c : Int} {t ui : Tok} {Q : Value → Shared → Prop} (hb : KBw.bInts b = [92, c]) (h : ∀ t' k, Q (.int c t') { s with toks := k })
    (hs : subscripted slice false (.bytes b t) (.int (-1) ui) = operate [.bytes b t, .int (-1) ui] (getItem (.bytes b t) (.int (-1) ui)) := by with_unfolding_all rfl)
    (ht : ∀ r, letTemporaryGo value (.bytes b t) r = pure () := by intro _; with_unfolding_all rfl) : wpAny (model prog w) A (subscriptTail value slice (.bytes b t) (.int (-1) ui)) Q E s :=
  KBc.itemR_K hb (by simp) (by simp) (by decide) (fun t' k _ _ => h t' k) hs ht
theorem slice_tupN {value slice : PySem.Expr} {t : Addr} {vs : List Value} {u : Tok} {Q : Value → Shared → Prop}
    (F : Fr h₀ L s.heap m) (N : News h₀ L s.heap news) (ht : IsTup s.heap t vs.toArray) (h1 : 1 ≤ vs.length) (hz : vs.length ≤ 100)
    (h : ∀ D h', Fr h₀ L h' m → News h₀ L h' ((D, { cls := .type "tuple", data := .seq (vs.drop 1).toArray }) :: news) → (∀ p ∈ news, p.1 ≠ D) → Q (.ref D) { s with heap := h' })
    (hs : subscripted slice false (.ref t) (.ref s.heap.objs.size) = operate [.ref s.heap.objs.size, .ref t] (getItem (.ref t) (.ref s.heap.objs.size)) := by with_unfolding_all rfl)
    (hg : ∀ r, letTemporaryGo value (.ref t) r = pure () := by intro _; with_unfolding_all rfl) :
    wpAny (model prog w) A (subscriptTail value slice (.ref t) (.ref s.heap.objs.size)) Q E { s with heap := s.heap.push { cls := .type "slice", data := .fields #[.int 1 u, .none, .none] } } :=
  slice_tuple_from (a := 1) F N ht (Nat.le_refl _) (by simpa using h1) (fun h' F' N' => h _ h' F' N' fun p hp => Nat.ne_of_lt (Nat.lt_succ_of_lt (Heap.lt_size (N p hp).1))) hs hg (by rw [sizeLine_eq, List.size_toArray]; lia)
end
section
variable {w : World} {mean : ExcName → Option Value} {mg mb : Str → Option Value} {g : Heap} {L a : Addr} {ccd : Value} {s : Shared} {m : Str → Option Value} {news : List (Addr × Obj)} {Q : Value → Shared → Prop} {E : Value → Shared → Prop}

set_option maxHeartbeats 4000000 in
theorem fl_slice {lf : Addr} {vf : List Value} {nf : Nat} (hf : m (Str.ofString "flags") = some (.ref lf)) (htf : (lf, ({ cls := .type "tuple", data := .seq vf.toArray nf } : Obj)) ∈ news) (h1 : 1 ≤ vf.length) (h2 : vf.length ≤ 100)
   (X : (Mine.hd.heap_39 w.params).In g) (T : Top Mine.hd.view_39 lo mean mg mb g) (F : Fr g L s.heap m) (N : News g L s.heap news)
   (hQ : ∀ D h' tk', Fr g L h' m → News g L h' ((D, { cls := .type "tuple", data := .seq (vf.drop 1).toArray }) :: news) → (∀ p ∈ news, p.1 ≠ D) → Q (.ref D) { s with heap := h', toks := tk' }) :
   wpAny (model rprog w) (callerA.deeper (envOfC (Str.ofString "law") lawScope L a ccd)) (eval (iterOf toE 0) (envOfC (Str.ofString "law") lawScope L a ccd)) Q E s := by
  show wpAny _ _ (eval (.Subscript _ _ _) _) _ _ _
  w_strict (repeat' (first | (k_unfold; (try dsimp only)) | (k_end; wrow_close) | ((with_reducible show wpAny _ _ (subscriptTail _ _ _ _) _ _ _); (k_here; k_dflt (refine' slice_tupN ?zzF ?zzN ?zzl ?zza ?zzz ?_ ?zzs ?zzt; (case zzF => k_asm); (case zzN => k_asm); (case zzl => exact tup_at (by k_asm) (by k_mem)); (case zza => assumption); (case zzz => assumption); (case zzs => with_unfolding_all rfl); (case zzt => kmk_pure); k_whole); intro _ _ _ _ _)) | ((with_reducible show wpAny _ _ (subscriptTail _ _ _ _) _ _ _); (k_here; k_dflt (refine' item_last2 ?zzb ?_; (case zzb => assumption); k_whole); intro _ _)) | ((with_reducible show wpAny _ _ (eval (Expr.Name ..) _) _ _ _); (k_here; k_dflt (first | (refine' nameX_L ?zzF ?zzv ?_ ?zza ?zzb; (case zzF => k_asm); (case zza => rfl); (case zzb => rfl); (case zzv => ktr_unf); k_whole) | (refine' nameX_C ?zzN ?zzc ?zzm ?zzd ?_ ?zza ?zzb; (case zza => rfl); (case zzb => rfl); (case zzN => k_asm); (case zzc => rfl); (case zzm => first | k_mem | assumption); (case zzd => first | assumption | rfl); k_whole)))) | walk1 | (dsimp only; first | ((with_reducible show wpAny _ _ (subscriptTail _ _ _ _) _ _ _); (k_here; k_dflt (refine' slice_tupN ?zzF ?zzN ?zzl ?zza ?zzz ?_ ?zzs ?zzt; (case zzF => k_asm); (case zzN => k_asm); (case zzl => exact tup_at (by k_asm) (by k_mem)); (case zza => assumption); (case zzz => assumption); (case zzs => with_unfolding_all rfl); (case zzt => kmk_pure); k_whole); intro _ _ _ _ _)) | ((with_reducible show wpAny _ _ (subscriptTail _ _ _ _) _ _ _); (k_here; k_dflt (refine' item_last2 ?zzb ?_; (case zzb => assumption); k_whole); intro _ _)) | ((with_reducible show wpAny _ _ (eval (Expr.Name ..) _) _ _ _); (k_here; k_dflt (first | (refine' nameX_L ?zzF ?zzv ?_ ?zza ?zzb; (case zzF => k_asm); (case zza => rfl); (case zzb => rfl); (case zzv => ktr_unf); k_whole) | (refine' nameX_C ?zzN ?zzc ?zzm ?zzd ?_ ?zza ?zzb; (case zza => rfl); (case zzb => rfl); (case zzN => k_asm); (case zzc => rfl); (case zzm => first | k_mem | assumption); (case zzd => first | assumption | rfl); k_whole)))) | walk1) | (leave1; try dsimp only) | fail "no step"))
  exact hQ _ _ _ (by assumption) (by assumption) (by assumption)

set_option maxHeartbeats 4000000 in
theorem fl_elt {C D I : Addr} {oC oI : Obj} {mC : Str → Option Value} {ys : List Value} {b : Array UInt8} {c : Int} {t : Tok} {cl : List (Str × Addr)} (hC : NsObj oC mC) (hx : mC (Str.ofString "flag") = some (.bytes b t)) (hb : KBw.bInts b = [92, c]) (h0 : 0 ≤ c) (h1 : c < 256)
   (X : (Mine.hd.heap_39 w.params).In g) (T : Top Mine.hd.view_39 lo mean mg mb g) (F : Fr g L s.heap m) (N : News g L s.heap ((I, oI) :: (C, oC) :: (D, lst ys) :: news))
   (hQ : ∀ t' h' tk', Fr g L h' m → News g L h' ((I, oI) :: (C, oC) :: (D, lst ys) :: news) → Q (.int (c - 97) t') { s with heap := h', toks := tk' }) :
   wpAny (model rprog w) (callerA.deeper (envOfC (Str.ofString "law") lawScope L a ccd)) (eval (eltOf toE) (compEnvC (lcScope toE) cl C (envOfC (Str.ofString "law") lawScope L a ccd))) Q E s := by
  show wpAny _ _ (eval (.BinOp _ _ _ _) _) _ _ _
  w_strict (repeat' (first | (k_unfold; (try dsimp only)) | (k_end; wrow_close) | ((with_reducible show wpAny _ _ (subscriptTail _ _ _ _) _ _ _); (k_here; k_dflt (refine' slice_tupN ?zzF ?zzN ?zzl ?zza ?zzz ?_ ?zzs ?zzt; (case zzF => k_asm); (case zzN => k_asm); (case zzl => exact tup_at (by k_asm) (by k_mem)); (case zza => assumption); (case zzz => assumption); (case zzs => with_unfolding_all rfl); (case zzt => kmk_pure); k_whole); intro _ _ _ _ _)) | ((with_reducible show wpAny _ _ (subscriptTail _ _ _ _) _ _ _); (k_here; k_dflt (refine' item_last2 ?zzb ?_; (case zzb => assumption); k_whole); intro _ _)) | ((with_reducible show wpAny _ _ (eval (Expr.Name ..) _) _ _ _); (k_here; k_dflt (first | (refine' nameX_L ?zzF ?zzv ?_ ?zza ?zzb; (case zzF => k_asm); (case zza => rfl); (case zzb => rfl); (case zzv => ktr_unf); k_whole) | (refine' nameX_C ?zzN ?zzc ?zzm ?zzd ?_ ?zza ?zzb; (case zza => rfl); (case zzb => rfl); (case zzN => k_asm); (case zzc => rfl); (case zzm => first | k_mem | assumption); (case zzd => first | assumption | rfl); k_whole)))) | walk1 | (dsimp only; first | ((with_reducible show wpAny _ _ (subscriptTail _ _ _ _) _ _ _); (k_here; k_dflt (refine' slice_tupN ?zzF ?zzN ?zzl ?zza ?zzz ?_ ?zzs ?zzt; (case zzF => k_asm); (case zzN => k_asm); (case zzl => exact tup_at (by k_asm) (by k_mem)); (case zza => assumption); (case zzz => assumption); (case zzs => with_unfolding_all rfl); (case zzt => kmk_pure); k_whole); intro _ _ _ _ _)) | ((with_reducible show wpAny _ _ (subscriptTail _ _ _ _) _ _ _); (k_here; k_dflt (refine' item_last2 ?zzb ?_; (case zzb => assumption); k_whole); intro _ _)) | ((with_reducible show wpAny _ _ (eval (Expr.Name ..) _) _ _ _); (k_here; k_dflt (first | (refine' nameX_L ?zzF ?zzv ?_ ?zza ?zzb; (case zzF => k_asm); (case zza => rfl); (case zzb => rfl); (case zzv => ktr_unf); k_whole) | (refine' nameX_C ?zzN ?zzc ?zzm ?zzd ?_ ?zza ?zzb; (case zza => rfl); (case zzb => rfl); (case zzN => k_asm); (case zzc => rfl); (case zzm => first | k_mem | assumption); (case zzd => first | assumption | rfl); k_whole)))) | walk1) | (leave1; try dsimp only) | fail "no step"))
  exact hQ _ _ _ (by assumption) (by assumption)
end
theorem bytes_item {its : Array Value} {bs : List (Array UInt8)} (h : BytesAre its.toList bs) {i : Nat} {v : Value} (hv : its[i]? = some v) : ∃ c t, v = .bytes c t ∧ bs[i]? = some c := by
  rw [← Array.getElem?_toList] at hv
  generalize its.toList = l at h hv
  induction h generalizing i with
  | nil => simp at hv
  | cons k t _ ih =>
    cases i with
    | zero => exact ⟨k, t, by simpa using hv.symm, rfl⟩
    | succ i => simpa using ih (i := i) (by simpa using hv)
theorem bytes_drop {vs : List Value} {bs : List (Array UInt8)} (h : BytesAre vs bs) (n : Nat) : BytesAre (vs.drop n) (bs.drop n) := by
  induction h generalizing n with
  | nil => rw [List.drop_nil, List.drop_nil]; exact .nil
  | cons b t r ih =>
    cases n with
    | zero => exact .cons b t r
    | succ n => exact ih n
theorem ints_snoc {vs : List Value} {ns : List Int} (h : IntsAre vs ns) (n : Int) (t : Tok) : IntsAre (vs ++ [.int n t]) (ns ++ [n]) := h.append (.cons n t .nil)
section
variable {w : World} {mean : ExcName → Option Value} {mg mb : Str → Option Value} {g : Heap} {L a : Addr} {ccd : Value} {s : Shared} {m : Str → Option Value} {news : List (Addr × Obj)} {Q : Value → Shared → Prop} {E : Value → Shared → Prop}

set_option maxHeartbeats 4000000 in
theorem to_list {lf : Addr} {vf : List Value} {nf : Nat} {bs : List (Array UInt8)} {ns : List Int} (hf : m (Str.ofString "flags") = some (.ref lf)) (htf : (lf, ({ cls := .type "tuple", data := .seq vf.toArray nf } : Obj)) ∈ news) (hB : BytesAre vf bs) (h1 : 1 ≤ bs.length) (h2 : bs.length ≤ 100) (hL : (bs.drop 1).map KBw.bInts = ns.map (fun k => [92, 97 + k])) (hb : ∀ k ∈ ns, 0 ≤ k ∧ k < 6)
   (X : (Mine.hd.heap_39 w.params).In g) (T : Top Mine.hd.view_39 lo mean mg mb g) (F : Fr g L s.heap m) (N : News g L s.heap news)
   (hQ : ∀ D D1 o1 vs h' tk', IntsAre vs ns → Fr g L h' m → News g L h' ((D, lst vs) :: (D1, o1) :: news) → (∀ p ∈ news, p.1 ≠ D) → Q (.ref D) { s with heap := h', toks := tk' }) :
   wpAny (model rprog w) (callerA.deeper (envOfC (Str.ofString "law") lawScope L a ccd)) (eval toE (envOfC (Str.ofString "law") lawScope L a ccd)) Q E s := by
  show wpAny _ _ (eval (.ListComp _ [⟨PySem.Expr.Name _ _, _, [], 0⟩] _ _) _) _ _ _
  have hln : ns.length = bs.length - 1 := by
    have := congrArg List.length hL
    simpa using this.symm
  refine ListComp_Tp (h₀ := g) (L := L) (m := m) (cl := []) rfl (by decide) rfl (by decide) rfl ?_
  refine fl_slice hf htf (by rw [bytes_len hB]; exact h1) (by rw [bytes_len hB]; exact h2) X T F N fun D1 h1' tk1 F1 N1 off1 => ?_
  refine ⟨D1, (vf.drop 1).toArray, _, rfl, rfl, F1, N1, ⟨_, List.mem_cons_self, rfl, _, rfl⟩, ?_, ?_⟩
  · rw [sizeLine_eq, List.size_toArray, List.length_drop, bytes_len hB]; lia
  rintro s₂ ⟨h₂, rfl⟩
  refine compRest_J (J := fun i ys nw => IntsAre ys (ns.take i) ∧ nw = (D1, ({ cls := .type "tuple", data := .seq (vf.drop 1).toArray } : Obj)) :: news) (vf.drop 1).toArray.size ?_ ?_ _ 0 [] _ (by lia) ⟨.nil, rfl⟩
  · rintro i ys nw v I oI C oC D m₂ h tk E' hlt ⟨hS, rfl⟩ hv hC hx' F N off ne
    obtain ⟨c, t, rfl, hc'⟩ := bytes_item (its := (vf.drop 1).toArray) (bytes_drop hB 1) hv
    have e1 : ((bs.drop 1).map KBw.bInts)[i]? = some (KBw.bInts c) := by rw [List.getElem?_map, hc']; rfl
    rw [hL, List.getElem?_map] at e1
    obtain ⟨k, hk, e2⟩ := Option.map_eq_some_iff.mp e1
    have hkb := hb k (List.mem_of_getElem? hk)
    refine fl_elt hC hx' e2.symm (by lia) (by lia) X T F N fun t' h' tk' F' N' => CompEnd.same F' N' off ⟨_, List.mem_cons_self, rfl, _, rfl⟩ ⟨?_, rfl⟩
    rw [show ns.take (i + 1) = ns.take i ++ [k] by simp [List.take_add_one, hk], show 97 + k - 97 = k by lia]
    exact ints_snoc hS _ _
  · rintro ys nw ⟨hS, rfl⟩
    intro D h' tk F' N' o1
    refine hQ D _ _ ys h' tk ?_ F' N' fun p hp => Off1.mem o1 p (List.mem_cons_of_mem _ hp)
    rwa [List.take_of_length_le (by rw [List.size_toArray, List.length_drop, bytes_len hB]; lia)] at hS
end
section
variable {prog : Program} {w : World} {A : Around} {E : Value → Shared → Prop} {s : Shared} {h₀ : Heap} {L : Addr} {news : List (Addr × Obj)}
theorem ne_ints_same {a b : Addr} {vs us : List Value} {ns ms : List Int} {Q : Value → Shared → Prop} (hl : s.heap.IsList a vs.toArray) (hi : IntsAre vs ns) (hl' : s.heap.IsList b us.toArray) (hi' : IntsAre us ms) (e : ns = ms) (hu : A.units + 64 < cLine)
    (h : Q (.bool false) s) : wpAny (model prog w) A (compareOp .NotEq (.ref a) (.ref b)) Q E s := ne_intsK hl hi hl' hi' hu (by subst e; simpa using h)
theorem News.drop1 {h : Heap} {a : Addr × Obj} (N : News h₀ L h (a :: news)) : News h₀ L h news := fun p hp => N p (List.mem_cons_of_mem _ hp)
theorem News.drop2 {h : Heap} {a b : Addr × Obj} (N : News h₀ L h (a :: b :: news)) : News h₀ L h news := News.drop1 (News.drop1 N)
theorem News.drop3 {h : Heap} {a b c : Addr × Obj} (N : News h₀ L h (a :: b :: c :: news)) : News h₀ L h news := News.drop1 (News.drop2 N)
end
/-- the one list that is sorted downwards -/
noncomputable def Downs (ns ts : List Int) : Prop := ∀ ns' : List Int, ns'.Perm ns → ns'.Pairwise (fun x y => y ≤ x) → ts = ns'
section
variable {w : World} {mean : ExcName → Option Value} {mg mb : Str → Option Value} {g : Heap} {L a : Addr} {ccd : Value} {s : Shared} {m : Str → Option Value} {news : List (Addr × Obj)} {Q : Flow → Shared → Prop} {E : Value → Shared → Prop}

set_option maxHeartbeats 4000000 in
theorem st_last {lf lt lfam : Addr} {vf vt vm : List Value} {nf nt nm : Nat} {bs : List (Array UInt8)} {ns ts fam : List Int} {n : Int} {tn : Tok} (hf : m (Str.ofString "flags") = some (.ref lf)) (htf : (lf, ({ cls := .type "tuple", data := .seq vf.toArray nf } : Obj)) ∈ news) (hB : BytesAre vf bs) (h1 : 1 ≤ bs.length) (h2 : bs.length ≤ 100) (hL : (bs.drop 1).map KBw.bInts = ns.map (fun k => [92, 97 + k])) (hb : ∀ k ∈ ns, 0 ≤ k ∧ k < 6) (h64 : ns.length < 64) (ht : m (Str.ofString "tops") = some (.ref lt)) (htm : (lt, listOf vt.toArray nt) ∈ news) (hti : IntsAre vt ts) (hD : Downs ns ts) (hlf : m (Str.ofString "family") = some (.ref lfam)) (hfi : IntsAre vm fam) (hfl : fam.length ≤ 99) (hfs : fam.Pairwise (· < ·)) (hne : ∀ p ∈ news, p.1 ≠ lfam) (hp : m (Str.ofString "port") = some (.int n tn)) {base : Heap} (B : Below callerA base [] g)
   (X : (Mine.hd.heap_39 w.params).In g) (T : Top Mine.hd.view_39 lo mean mg mb g) (F : Fr g L s.heap m) (N : News g L s.heap ((lfam, listOf vm.toArray nm) :: news))
   (hQ : ∀ vm' fam' nm' h' tk', IntsAre vm' fam' → PutTo (n.fmod 20) fam fam' → Fr g L h' m → News g L h' ((lfam, listOf vm'.toArray nm') :: news) → Q .next { s with heap := h', toks := tk' }) :
   wpAny (model rprog w) (callerA.deeper (envOfC (Str.ofString "law") lawScope L a ccd)) (exec (loopS 24) (envOfC (Str.ofString "law") lawScope L a ccd)) Q E s := by
  show wpAny _ _ (exec (Stmt.If _ _ _ _) _) _ _ _
  w_strict (repeat' (first | (k_unfold; (try dsimp only)) | (k_end; wrow_close) | ((with_reducible show wpAny _ _ (call (Value.ref _) _ _) _ _ _); (k_here; k_dflt (refine' law_put_spec ?zzB ?zzF ?zzX ?zzN ?zzT ?zzhk ?zzhdp ?zzhun ?zzhne ?zzhI ?zzhlen ?zzhS ?_; (case zzB => k_asm); (case zzF => k_asm); (case zzX => k_asm); (case zzN => exact News.drop3 (by k_asm)); (case zzT => k_asm); (case zzhk => exact rfl); (case zzhne => assumption); (case zzhI => assumption); (case zzhlen => assumption); (case zzhS => assumption); (case zzhdp => decide); (case zzhun => decide); k_whole); intro _ _ _ _ _ _ _ _ _)) | ((with_reducible show wpAny _ _ (compareOp .NotEq (Value.ref _) (Value.ref _)) _ _ _); (k_here; k_dflt (refine' ne_ints_same ?zzl ?zzi ?zzl2 ?zzi2 ?zze ?zzu ?_; (case zzl => exact list_at (by k_asm) (by k_mem)); (case zzl2 => exact list_at (by k_asm) (by k_mem)); (case zzi => assumption); (case zzi2 => assumption); (case zze => exact (by assumption : Downs _ _) _ (by assumption) (by simpa using (by assumption : List.Pairwise _ _))); (case zzu => first | ktr_units | k_units); k_whole))) | ((with_reducible show wpAny _ _ (call (Value.builtin "sorted") _ _) _ _ _); (k_here; (show wpAny _ _ (call (Value.builtin _) [Value.ref _] [(PySem.Str.ofString "reverse", Value.bool _)]) _ _ _); k_dflt (refine' ksk_rev ?zzk1 ?zzk2 ?zzk3 ?zzk4 ?zzk5 ?_; (case zzk1 => k_asm); (case zzk2 => k_asm); (case zzk3 => exact list_at (by k_asm) (by k_mem)); (case zzk4 => assumption); (case zzk5 => assumption); k_whole); intro _ _ _ _ _ _ _ _ _ _ _ _ _)) | ((with_reducible show wpAny _ _ (eval (Expr.ListComp ..) _) _ _ _); (k_here; k_dflt (refine' to_list ?zzw ?zzd ?zzB ?zzh1 ?zzh2 ?zzhL ?zzhb ?zzX ?zzT ?zzF ?zzN ?_; (case zzX => k_asm); (case zzT => k_asm); (case zzF => k_asm); (case zzN => k_asm); (case zzw => assumption); (case zzd => k_mem); (case zzB => assumption); (case zzh1 => assumption); (case zzh2 => assumption); (case zzhL => assumption); (case zzhb => assumption); k_whole); intro _ _ _ _ _ _ _ _ _ _)) | ((with_reducible show wpAny _ _ (subscriptTail _ _ _ _) _ _ _); (k_here; k_dflt (refine' slice_tupN ?zzF ?zzN ?zzl ?zza ?zzz ?_ ?zzs ?zzt; (case zzF => k_asm); (case zzN => k_asm); (case zzl => exact tup_at (by k_asm) (by k_mem)); (case zza => assumption); (case zzz => assumption); (case zzs => with_unfolding_all rfl); (case zzt => kmk_pure); k_whole); intro _ _ _ _ _)) | ((with_reducible show wpAny _ _ (subscriptTail _ _ _ _) _ _ _); (k_here; k_dflt (refine' item_last2 ?zzb ?_; (case zzb => assumption); k_whole); intro _ _)) | ((with_reducible show wpAny _ _ (eval (Expr.Name ..) _) _ _ _); (k_here; k_dflt (first | (refine' nameX_L ?zzF ?zzv ?_ ?zza ?zzb; (case zzF => k_asm); (case zza => rfl); (case zzb => rfl); (case zzv => ktr_unf); k_whole) | (refine' nameX_C ?zzN ?zzc ?zzm ?zzd ?_ ?zza ?zzb; (case zza => rfl); (case zzb => rfl); (case zzN => k_asm); (case zzc => rfl); (case zzm => first | k_mem | assumption); (case zzd => first | assumption | rfl); k_whole)))) | walk1 | (dsimp only; first | ((with_reducible show wpAny _ _ (call (Value.ref _) _ _) _ _ _); (k_here; k_dflt (refine' law_put_spec ?zzB ?zzF ?zzX ?zzN ?zzT ?zzhk ?zzhdp ?zzhun ?zzhne ?zzhI ?zzhlen ?zzhS ?_; (case zzB => k_asm); (case zzF => k_asm); (case zzX => k_asm); (case zzN => exact News.drop3 (by k_asm)); (case zzT => k_asm); (case zzhk => exact rfl); (case zzhne => assumption); (case zzhI => assumption); (case zzhlen => assumption); (case zzhS => assumption); (case zzhdp => decide); (case zzhun => decide); k_whole); intro _ _ _ _ _ _ _ _ _)) | ((with_reducible show wpAny _ _ (compareOp .NotEq (Value.ref _) (Value.ref _)) _ _ _); (k_here; k_dflt (refine' ne_ints_same ?zzl ?zzi ?zzl2 ?zzi2 ?zze ?zzu ?_; (case zzl => exact list_at (by k_asm) (by k_mem)); (case zzl2 => exact list_at (by k_asm) (by k_mem)); (case zzi => assumption); (case zzi2 => assumption); (case zze => exact (by assumption : Downs _ _) _ (by assumption) (by simpa using (by assumption : List.Pairwise _ _))); (case zzu => first | ktr_units | k_units); k_whole))) | ((with_reducible show wpAny _ _ (call (Value.builtin "sorted") _ _) _ _ _); (k_here; (show wpAny _ _ (call (Value.builtin _) [Value.ref _] [(PySem.Str.ofString "reverse", Value.bool _)]) _ _ _); k_dflt (refine' ksk_rev ?zzk1 ?zzk2 ?zzk3 ?zzk4 ?zzk5 ?_; (case zzk1 => k_asm); (case zzk2 => k_asm); (case zzk3 => exact list_at (by k_asm) (by k_mem)); (case zzk4 => assumption); (case zzk5 => assumption); k_whole); intro _ _ _ _ _ _ _ _ _ _ _ _ _)) | ((with_reducible show wpAny _ _ (eval (Expr.ListComp ..) _) _ _ _); (k_here; k_dflt (refine' to_list ?zzw ?zzd ?zzB ?zzh1 ?zzh2 ?zzhL ?zzhb ?zzX ?zzT ?zzF ?zzN ?_; (case zzX => k_asm); (case zzT => k_asm); (case zzF => k_asm); (case zzN => k_asm); (case zzw => assumption); (case zzd => k_mem); (case zzB => assumption); (case zzh1 => assumption); (case zzh2 => assumption); (case zzhL => assumption); (case zzhb => assumption); k_whole); intro _ _ _ _ _ _ _ _ _ _)) | ((with_reducible show wpAny _ _ (subscriptTail _ _ _ _) _ _ _); (k_here; k_dflt (refine' slice_tupN ?zzF ?zzN ?zzl ?zza ?zzz ?_ ?zzs ?zzt; (case zzF => k_asm); (case zzN => k_asm); (case zzl => exact tup_at (by k_asm) (by k_mem)); (case zza => assumption); (case zzz => assumption); (case zzs => with_unfolding_all rfl); (case zzt => kmk_pure); k_whole); intro _ _ _ _ _)) | ((with_reducible show wpAny _ _ (subscriptTail _ _ _ _) _ _ _); (k_here; k_dflt (refine' item_last2 ?zzb ?_; (case zzb => assumption); k_whole); intro _ _)) | ((with_reducible show wpAny _ _ (eval (Expr.Name ..) _) _ _ _); (k_here; k_dflt (first | (refine' nameX_L ?zzF ?zzv ?_ ?zza ?zzb; (case zzF => k_asm); (case zza => rfl); (case zzb => rfl); (case zzv => ktr_unf); k_whole) | (refine' nameX_C ?zzN ?zzc ?zzm ?zzd ?_ ?zza ?zzb; (case zza => rfl); (case zzb => rfl); (case zzN => k_asm); (case zzc => rfl); (case zzm => first | k_mem | assumption); (case zzd => first | assumption | rfl); k_whole)))) | walk1) | (leave1; try dsimp only) | fail "no step"))
  exact hQ _ _ _ _ _ (by assumption) (by assumption) (by assumption) (by assumption)
end
end Mine
end
section
open PySem PySem.W PyProof.Rows
open PySem.NumText
set_option maxRecDepth 100000
namespace Mine
theorem str_of {x : Str} {l : List Nat} (h : x.cps.toList = l) : x = ⟨l.toArray⟩ := by
  obtain ⟨⟨q⟩⟩ := x
  obtain rfl : q = l := h
  rfl
theorem cat_list (x y : Str) : (x ++ y).cps.toList = x.cps.toList ++ y.cps.toList := by simp [Str.cps_append]
theorem item_is {x : Str} {l : List Nat} {i : Int} {k : Nat} (h : x.cps.toList = l) (hi : i = k) (hk : k < l.length) : Txt.item x i = ⟨#[l.getD k 0]⟩ := by
  have hl : l.length = x.length := by rw [← h]; exact Array.length_toList
  have := eq_of_beq (item_closes (x := x) (i := i) (by lia))
  rw [this, hi, ← h]
  simp [Array.getD_eq_getD_getElem?, List.getD_eq_getElem?_getD]
theorem slice_is {x : Str} {a b c : List Nat} {i j : Int} (h : x.cps.toList = a ++ (b ++ c)) (hi : i = a.length) (hj : j = (a.length + b.length : Nat)) : Txt.slice x (some i) (some j) = ⟨b.toArray⟩ := by
  have := eq_of_beq (slice_closes (x := x) (i := i) (j := j) (by rw [h]; simp; lia))
  rw [this, h]
  have e1 : i.toNat = a.length := by lia
  have e2 : (j - i).toNat = b.length := by lia
  rw [e1, e2]
  simp
theorem slice_to {x : Str} {a b : List Nat} {j : Int} (h : x.cps.toList = a ++ b) (hj : j = a.length) : Txt.slice x none (some j) = ⟨a.toArray⟩ := by
  have := eq_of_beq (slice_closes_to (x := x) (j := j) (by rw [h]; simp; lia))
  rw [this, h]
  have e2 : (j - 0).toNat = a.length := by lia
  rw [e2]
  simp
theorem slice_from {x : Str} {a b : List Nat} {i : Int} (h : x.cps.toList = a ++ b) (hi : i = a.length) : Txt.slice x (some i) none = ⟨b.toArray⟩ := by
  have := eq_of_beq (slice_closes_from (x := x) (i := i) (by rw [h]; simp; lia))
  rw [this, h]
  have e1 : i.toNat = a.length := by lia
  rw [e1]
  have e2 : (((a ++ b).length : Int) - i).toNat = b.length := by simp; lia
  rw [e2]
  simp
/-- 229) FLAGS ( -/
noncomputable abbrev H12 : List Nat := [50, 50, 57, 41, 32, 70, 76, 65, 71, 83, 32, 40]
theorem h12_str : (Str.ofString "229) FLAGS (").cps.toList = H12 := by decide
theorem op_str : Str.ofString "(" = ⟨#[40]⟩ := by decide
theorem cl_str : Str.ofString ")" = ⟨#[41]⟩ := by decide
section
variable {x : Str} {body rest : List Nat}
theorem h_find (h : x.cps.toList = H12 ++ (body ++ rest)) : Txt.find x (Str.ofString "(") = 11 := by
  rw [op_str]
  refine find_some (k := 11) (by rw [h]; rfl) fun j hj => ?_
  rw [h, List.getElem?_append_left (by show j < 12; lia)]
  have : ∀ j, j < 11 → H12[j]? ≠ some 40 := by decide
  exact this j hj
theorem h_find3 (h : x.cps.toList = H12 ++ (body ++ 41 :: rest)) (hb : 41 ∉ body) : Txt.find3 x (Str.ofString ")") (11 + 1) = (12 + body.length : Nat) := by
  rw [cl_str]
  refine find3_some (lo := 12) (k := 12 + body.length) ?_ (by lia) fun j h1 h2 => ?_
  · rw [h, List.getElem?_append_right (by simp)]
    simp
  · rw [h, List.getElem?_append_right (by simpa using h1), List.getElem?_append_left (by simp; lia)]
    exact fun q => hb (List.mem_of_getElem? q)
theorem h_none (h : x.cps.toList = H12 ++ body) (hb : 41 ∉ body) : Txt.find3 x (Str.ofString ")") (11 + 1) = -1 := by
  rw [cl_str]
  refine find3_none (lo := 12) fun j h1 => ?_
  rw [h, List.getElem?_append_right (by simpa using h1)]
  exact fun q => hb (List.mem_of_getElem? q)
theorem h_item (h : x.cps.toList = H12 ++ (body ++ rest)) {i : Int} {k : Nat} (hi : i = (12 + k : Nat)) (hk : k < body.length) : Txt.item x i = ⟨#[body.getD k 0]⟩ := by
  rw [item_is h hi (by simp; lia), show 12 + k = H12.length + k from rfl, getD_right, getD_left hk]
theorem h_slice (h : x.cps.toList = H12 ++ (body ++ rest)) {i j : Int} (hi : i = 12) (hj : j = (12 + body.length : Nat)) : Txt.slice x (some i) (some j) = ⟨body.toArray⟩ := slice_is h hi hj
theorem h_229 (h : x.cps.toList = H12 ++ body) : (Txt.slice x none (some 3) != Str.ofString "229") = false := by
  rw [slice_to (x := x) (j := 3) (a := [50, 50, 57]) (b := [41, 32, 70, 76, 65, 71, 83, 32, 40] ++ body) h rfl]
  decide
end
/-- the digits of a number -/
theorem num_digits {n : Int} (h0 : 0 ≤ n) : AllDigits (Str.ofString (toString n)).cps.toList ∧ (Str.ofString (toString n)).cps.toList ≠ [] ∧ ((NumText.digitsVal (Str.ofString (toString n)).cps.toList : Nat) : Int) = n := by
  obtain ⟨m, rfl⟩ := Int.eq_ofNat_of_zero_le h0
  have hd : AllDigits (PySem.Str.ofString (toString ((m : Nat) : Int))).cps.toList := by
    intro c hc
    rw [PySem.W.KIN.signs_num] at hc
    obtain ⟨ch, hch, e⟩ := List.mem_map.mp hc
    have r := digit_range (Nat.isDigit_of_mem_toDigits (by decide) (by decide) hch)
    rw [← e]
    exact r
  have hne : (PySem.Str.ofString (toString ((m : Nat) : Int))).cps.toList ≠ [] := by
    rw [PySem.W.KIN.signs_num]
    intro e
    have h := toDigits_len_ge 10 m
    rw [List.map_eq_nil_iff.mp e] at h
    exact absurd h (by decide)
  refine ⟨hd, hne, ?_⟩
  rw [PySem.W.KIN.signs_num, PySem.W.KIN.val_back]
end Mine
end
section
open PySem PySem.W PyProof.Rows PySem.Calls PySem.Spec PyProof.Rows.LCg
set_option maxRecDepth 100000
namespace Mine
local macro_rules | `(tactic| omega) => `(tactic| lia)
local macro_rules | `(tactic| ktr_unf) => `(tactic| first | assumption | (dsimp only; (repeat (first | (rw [if_pos (by decide)]) | (rw [if_neg (by decide)]))); first | rfl | assumption))
local macro_rules | `(tactic| k_all) => `(tactic| assumption)
local macro_rules | `(tactic| k_mem) => `(tactic| assumption)
example (w : World) (h : Heap) : (Mine.hd.heap_39 w.params).In h → rprog = PySem.Challenge.rw_wy0014_01.prog → True := by
  k_fill
  intros; trivial
structure Hid (p : Prop) : Prop where
  out : p
theorem Fr.same {g h : Heap} {L : Addr} {m m' : Str → Option Value} (F : Fr g L h m) (e : ∀ z, m z = m' z) : Fr g L h m' := (funext e : m = m') ▸ F
/-- a reply that parse229 refuses with error_proto -/
noncomputable def Spoilt (x : Str) : Prop := x.length ≤ 1000 ∧ (Txt.slice x none (some 3) != Str.ofString "229") = false ∧ (¬ Txt.find x (Str.ofString "(") < 0 → ¬ Txt.find3 x (Str.ofString ")") (Txt.find x (Str.ofString "(") + 1) < 0 → Txt.item x (Txt.find x (Str.ofString "(") + 1) = Txt.item x (Txt.find3 x (Str.ofString ")") (Txt.find x (Str.ofString "(") + 1) - 1) → (Txt.split (Txt.slice x (some (Txt.find x (Str.ofString "(") + 1)) (some (Txt.find3 x (Str.ofString ")") (Txt.find x (Str.ofString "(") + 1)))) (Txt.item x (Txt.find x (Str.ofString "(") + 1))).length ≠ 5)
section
variable {w : World} {mean : ExcName → Option Value} {mg mb : Str → Option Value} {g : Heap} {L a : Addr} {ccd : Value} {s : Shared} {m : Str → Option Value} {news : List (Addr × Obj)} {Q : Flow → Shared → Prop} {E : Value → Shared → Prop}

set_option maxHeartbeats 4000000 in
theorem st_bent {tx ty : Tok} {x y : Str} (hm : m (Str.ofString "mark") = some (.str x tx)) (hm2 : m (Str.ofString "field") = some (.str y ty)) (hx : x.length ≤ 1000) (hy : y.length ≤ 1000) (h1 : Spoilt (Str.ofString "229) FLAGS (" ++ (x ++ y ++ Str.ofString ")"))) (h2 : Spoilt (Str.ofString "229) FLAGS (" ++ (Txt.slice y (some 2) none ++ Str.ofString ")"))) (h3 : Spoilt (Str.ofString "229) FLAGS (" ++ (y ++ Str.ofString "x)"))) (h4 : Spoilt (Str.ofString "229) FLAGS (" ++ (y ++ x))) {base : Heap} (B : Below callerA base [] g) (XB : (Mine.hd.heap_39 w.params).In base) (TB : Top Mine.hd.view_39 lo mean mg mb base) (hE : Hid (PassesOwn (model rprog w) (callerA.deeper (envOfC (Str.ofString "law") lawScope L a ccd)) (envOfC (Str.ofString "law") lawScope L a ccd) E))
   (X : (Mine.hd.heap_39 w.params).In g) (T : Top Mine.hd.view_39 lo mean mg mb g) (F : Fr g L s.heap m) (N : News g L s.heap news)
   (hQ : ∀ v h' tk', Fr g L h' (fun z => if z = (Str.ofString "bent") then some v else m z) → News g L h' news → Q .next { s with heap := h', toks := tk' }) :
   wpAny (model rprog w) (callerA.deeper (envOfC (Str.ofString "law") lawScope L a ccd)) (exec (loopS 20) (envOfC (Str.ofString "law") lawScope L a ccd)) Q E s := by
  show wpAny _ _ (exec (Stmt.For _ _ _ _ _) _) _ _ _
  w_strict (repeat' (first | (k_unfold; (try dsimp only)) | (k_end; wrow_close) | ((with_reducible show wpAny _ _ (call (Value.ref _) _ _) _ _ _); (k_here; k_dflt (refine' law_spoilt_spec ?zzB ?zzF ?zzX ?zzN ?zzT ?zzhk ?zzXB ?zzTB ?zzhdp ?zzhun ?zzhx ?zzh29 ?zzhD ?_; (case zzB => k_asm); (case zzF => k_asm); (case zzX => k_asm); (case zzN => k_asm); (case zzT => k_asm); (case zzhk => exact rfl); (case zzXB => assumption); (case zzTB => assumption); (case zzhx => exact And.left (by first | with_reducible assumption | assumption : Spoilt _)); (case zzh29 => exact And.left (And.right (by first | with_reducible assumption | assumption : Spoilt _))); (case zzhD => exact And.right (And.right (by first | with_reducible assumption | assumption : Spoilt _))); (case zzhdp => decide); (case zzhun => decide); k_whole); intro _ _ _ _ _)) | ((with_reducible show wpAny _ _ (eval (Expr.Name ..) _) _ _ _); (k_here; k_dflt (first | (refine' nameX_L ?zzF ?zzv ?_ ?zza ?zzb; (case zzF => k_asm); (case zza => rfl); (case zzb => rfl); (case zzv => ktr_unf); k_whole) | (refine' nameX_C ?zzN ?zzc ?zzm ?zzd ?_ ?zza ?zzb; (case zza => rfl); (case zzb => rfl); (case zzN => k_asm); (case zzc => rfl); (case zzm => first | k_mem | assumption); (case zzd => first | assumption | rfl); k_whole)))) | walk1 | (dsimp only; first | ((with_reducible show wpAny _ _ (call (Value.ref _) _ _) _ _ _); (k_here; k_dflt (refine' law_spoilt_spec ?zzB ?zzF ?zzX ?zzN ?zzT ?zzhk ?zzXB ?zzTB ?zzhdp ?zzhun ?zzhx ?zzh29 ?zzhD ?_; (case zzB => k_asm); (case zzF => k_asm); (case zzX => k_asm); (case zzN => k_asm); (case zzT => k_asm); (case zzhk => exact rfl); (case zzXB => assumption); (case zzTB => assumption); (case zzhx => exact And.left (by first | with_reducible assumption | assumption : Spoilt _)); (case zzh29 => exact And.left (And.right (by first | with_reducible assumption | assumption : Spoilt _))); (case zzhD => exact And.right (And.right (by first | with_reducible assumption | assumption : Spoilt _))); (case zzhdp => decide); (case zzhun => decide); k_whole); intro _ _ _ _ _)) | ((with_reducible show wpAny _ _ (eval (Expr.Name ..) _) _ _ _); (k_here; k_dflt (first | (refine' nameX_L ?zzF ?zzv ?_ ?zza ?zzb; (case zzF => k_asm); (case zza => rfl); (case zzb => rfl); (case zzv => ktr_unf); k_whole) | (refine' nameX_C ?zzN ?zzc ?zzm ?zzd ?_ ?zza ?zzb; (case zza => rfl); (case zzb => rfl); (case zzN => k_asm); (case zzc => rfl); (case zzm => first | k_mem | assumption); (case zzd => first | assumption | rfl); k_whole)))) | walk1) | (leave1; try dsimp only) | fail "no step"))
  · rename Fr g _ _ _ => F9
    rename News g _ _ _ => N9
    refine' hQ _ _ _ (Fr.same F9 fun z => ?e) (fun p hp => N9 p (List.mem_cons_of_mem _ hp))
    case e =>
      try dsimp only
      split <;> rename_i q
      · rfl
      · simp only [if_neg q]
  · exact hE.out
end
end Mine
end
section
open PySem PySem.W PyProof.Rows
open PySem.NumText
set_option maxRecDepth 100000
namespace Mine
/-- the marks that are used -/
noncomputable def MarkOk (c : Nat) : Prop := c = 124 ∨ c = 47 ∨ c = 33 ∨ c = 61
noncomputable def fieldL (c : Nat) (ds : List Nat) : List Nat := [c, 49, c, 120, c, 48] ++ ds ++ [c]
theorem MarkOk.ne {c : Nat} (h : MarkOk c) : c ≠ 41 ∧ c ≠ 40 ∧ c ≠ 70 ∧ c ≠ 10 ∧ c ≠ 49 ∧ c ≠ 120 ∧ c ≠ 48 ∧ c < 128 ∧ 13 < c ∧ c ≠ 32 ∧ ¬ (48 ≤ c ∧ c ≤ 57) := by
  rcases h with rfl | rfl | rfl | rfl <;> decide
/-- a sign of the field -/
theorem field_mem {c z : Nat} {ds : List Nat} (hd : AllDigits ds) (h : z ∈ fieldL c ds) : z = c ∨ z = 120 ∨ (48 ≤ z ∧ z ≤ 57) := by
  unfold fieldL at h
  simp only [List.mem_append, List.mem_cons, List.not_mem_nil, or_false] at h
  rcases h with (h | h) | h
  · rcases h with h | h | h | h | h | h
    · exact .inl h
    · exact .inr (.inr (by lia))
    · exact .inl h
    · exact .inr (.inl h)
    · exact .inl h
    · exact .inr (.inr (by lia))
  · exact .inr (.inr (hd z h))
  · exact .inl h
theorem field_not {c z : Nat} {ds : List Nat} (hm : MarkOk c) (hd : AllDigits ds) (hz : z = 41 ∨ z = 40 ∨ z = 70 ∨ z = 10) : z ∉ fieldL c ds := fun h => by
  have n := hm.ne
  rcases field_mem hd h with h | h | h <;> rcases hz with rfl | rfl | rfl | rfl <;> lia
theorem field_len (c : Nat) (ds : List Nat) : (fieldL c ds).length = 7 + ds.length := by unfold fieldL; simp; lia
theorem join_five {c : Nat} {ds : List Nat} : (⟨(fieldL c ds).toArray⟩ : Str) = Str.join ⟨#[c]⟩ [⟨#[]⟩, ⟨#[49]⟩, ⟨#[120]⟩, ⟨(48 :: ds).toArray⟩, ⟨#[]⟩] := by
  refine Str.ext' (Array.toList_inj.mp ?_)
  simp [fieldL, Str.join, cat_list]
theorem split_field {c : Nat} {ds : List Nat} (hm : MarkOk c) (hd : AllDigits ds) : Txt.split ⟨(fieldL c ds).toArray⟩ ⟨#[c]⟩ = [⟨#[]⟩, ⟨#[49]⟩, ⟨#[120]⟩, ⟨(48 :: ds).toArray⟩, ⟨#[]⟩] := by
  have n := hm.ne
  refine split_eq (by simp) (fun p hp => ?_) join_five
  simp only [List.mem_cons, List.not_mem_nil, or_false] at hp
  rcases hp with rfl | rfl | rfl | rfl | rfl
  · simp
  · simp; lia
  · simp; lia
  · intro h
    rcases List.mem_cons.mp (by simpa using h : c ∈ 48 :: ds) with h | h
    · lia
    · have := hd c h; lia
  · simp
theorem split_six {c : Nat} {ds : List Nat} (hm : MarkOk c) (hd : AllDigits ds) : (Txt.split ⟨(c :: fieldL c ds).toArray⟩ ⟨#[c]⟩).length = 6 := by
  have n := hm.ne
  refine (congrArg List.length (split_eq (ps := [⟨#[]⟩, ⟨#[]⟩, ⟨#[49]⟩, ⟨#[120]⟩, ⟨(48 :: ds).toArray⟩, ⟨#[]⟩]) (by simp) (fun p hp => ?_) ?_)).trans rfl
  · simp only [List.mem_cons, List.not_mem_nil, or_false] at hp
    rcases hp with rfl | rfl | rfl | rfl | rfl | rfl
    · simp
    · simp
    · simp; lia
    · simp; lia
    · intro h
      rcases List.mem_cons.mp (by simpa using h : c ∈ 48 :: ds) with h | h
      · lia
      · have := hd c h; lia
    · simp
  · refine Str.ext' (Array.toList_inj.mp ?_)
    simp [fieldL, Str.join, cat_list]
theorem split_four {c : Nat} {ds : List Nat} (hm : MarkOk c) (hd : AllDigits ds) : (Txt.split ⟨([c, 120, c, 48] ++ ds ++ [c]).toArray⟩ ⟨#[c]⟩).length = 4 := by
  have n := hm.ne
  refine (congrArg List.length (split_eq (ps := [⟨#[]⟩, ⟨#[120]⟩, ⟨(48 :: ds).toArray⟩, ⟨#[]⟩]) (by simp) (fun p hp => ?_) ?_)).trans rfl
  · simp only [List.mem_cons, List.not_mem_nil, or_false] at hp
    rcases hp with rfl | rfl | rfl | rfl
    · simp
    · simp; lia
    · intro h
      rcases List.mem_cons.mp (by simpa using h : c ∈ 48 :: ds) with h | h
      · lia
      · have := hd c h; lia
    · simp
  · refine Str.ext' (Array.toList_inj.mp ?_)
    simp [Str.join, cat_list]
theorem getD_first (c : Nat) (l : List Nat) : (c :: l).getD 0 0 = c := rfl
theorem getD_last (c : Nat) (l : List Nat) : (l ++ [c]).getD l.length 0 = c := by
  have := getD_right l [c] 0
  simp
theorem field_ends (c : Nat) (ds : List Nat) : (fieldL c ds).getD 0 0 = c ∧ (fieldL c ds).getD ((fieldL c ds).length - 1) 0 = c := by
  refine ⟨rfl, ?_⟩
  have e : (fieldL c ds).length - 1 = ([c, 49, c, 120, c, 48] ++ ds).length := by rw [field_len]; simp; lia
  rw [e]
  exact getD_last c _
/-- what parse229 reads of a good reply -/
theorem parse_ok {x : Str} {c : Nat} {ds rest : List Nat} (hm : MarkOk c) (hd : AllDigits ds) (h : x.cps.toList = H12 ++ (fieldL c ds ++ 41 :: rest)) :
    (Txt.slice x none (some 3) != Str.ofString "229") = false ∧ ¬ Txt.find x (Str.ofString "(") < 0 ∧ ¬ Txt.find3 x (Str.ofString ")") (Txt.find x (Str.ofString "(") + 1) < 0 ∧
    (Txt.item x (Txt.find x (Str.ofString "(") + 1) != Txt.item x (Txt.find3 x (Str.ofString ")") (Txt.find x (Str.ofString "(") + 1) - 1)) = false ∧
    Txt.split (Txt.slice x (some (Txt.find x (Str.ofString "(") + 1)) (some (Txt.find3 x (Str.ofString ")") (Txt.find x (Str.ofString "(") + 1)))) (Txt.item x (Txt.find x (Str.ofString "(") + 1)) = [⟨#[]⟩, ⟨#[49]⟩, ⟨#[120]⟩, ⟨(48 :: ds).toArray⟩, ⟨#[]⟩] := by
  rw [h_find h, h_find3 h (field_not hm hd (.inl rfl))]
  have e1 : Txt.item x ((11 : Int) + 1) = ⟨#[c]⟩ := (h_item (k := 0) h (by lia) (by rw [field_len]; lia)).trans (by rw [(field_ends c ds).1])
  have e2 : Txt.item x (((12 + (fieldL c ds).length : Nat) : Int) - 1) = ⟨#[c]⟩ :=
    (h_item (k := (fieldL c ds).length - 1) h (by rw [field_len]; lia) (by rw [field_len]; lia)).trans (by rw [(field_ends c ds).2])
  have e3 : Txt.slice x (some ((11 : Int) + 1)) (some ((12 + (fieldL c ds).length : Nat) : Int)) = ⟨(fieldL c ds).toArray⟩ := h_slice h (by lia) (by lia)
  refine ⟨h_229 h, by decide, by lia, ?_, ?_⟩
  · rw [e1, e2]; simp
  · rw [e1, e3]; exact split_field hm hd
theorem spoilt_of {x : Str} {body rest : List Nat} (hl : x.length ≤ 1000) (h : x.cps.toList = H12 ++ (body ++ 41 :: rest)) (hb : 41 ∉ body) (h0 : 0 < body.length)
    (hs : body.getD 0 0 = body.getD (body.length - 1) 0 → (Txt.split ⟨body.toArray⟩ ⟨#[body.getD 0 0]⟩).length ≠ 5) : Spoilt x := by
  refine ⟨hl, h_229 h, ?_⟩
  rw [h_find h, h_find3 h hb]
  have e1 : Txt.item x ((11 : Int) + 1) = ⟨#[body.getD 0 0]⟩ := h_item (k := 0) h (by lia) h0
  have e2 : Txt.item x (((12 + body.length : Nat) : Int) - 1) = ⟨#[body.getD (body.length - 1) 0]⟩ := h_item (k := body.length - 1) h (by lia) (by lia)
  have e3 : Txt.slice x (some ((11 : Int) + 1)) (some ((12 + body.length : Nat) : Int)) = ⟨body.toArray⟩ := h_slice h (by lia) (by lia)
  rw [e1, e2, e3]
  intro _ _ q
  exact hs (by injection q with q; injection q with q; injection q)
theorem spoilt_open {x : Str} {body : List Nat} (hl : x.length ≤ 1000) (h : x.cps.toList = H12 ++ body) (hb : 41 ∉ body) : Spoilt x := by
  refine ⟨hl, h_229 h, ?_⟩
  rw [h_find (body := body) (rest := []) (by rw [h]; simp), h_none h hb]
  intro _ q
  exact absurd (by decide) q
end Mine
end
section
open PySem PySem.W PyProof.Rows PySem.Calls PySem.Spec PyProof.Rows.LCg
set_option maxRecDepth 100000
namespace Mine
local macro_rules | `(tactic| ktr_unf) => `(tactic| first | assumption | (dsimp only; (repeat (first | (rw [if_pos (by decide)]) | (rw [if_neg (by decide)]))); first | rfl | assumption))
local macro_rules | `(tactic| k_all) => `(tactic| assumption)
local macro_rules | `(tactic| k_mem) => `(tactic| assumption)
example (w : World) (h : Heap) : (Mine.hd.heap_39 w.params).In h → rprog = PySem.Challenge.rw_wy0014_01.prog → True := by
  k_fill
  intros; trivial
noncomputable def worE : PySem.Expr := valueOf (loopS 4)
section
variable {w : World} {mean : ExcName → Option Value} {mg mb : Str → Option Value} {g : Heap} {L a : Addr} {ccd : Value} {s : Shared} {m : Str → Option Value} {news : List (Addr × Obj)} {Q : Value → Shared → Prop} {E : Value → Shared → Prop}

set_option maxHeartbeats 4000000 in
theorem wor_iter {n : Int} {t : Tok} {lt tp : Addr} {oc : Obj} {vt : List Value} {nt : Nat} (hn : m (Str.ofString "rank") = some (.int n t)) (h0 : 0 ≤ n) (h1 : n < 20) (hc : (L + 1, oc) ∈ news) (hc2 : oc.data = .cell (some (.ref lt))) (hd : (lt, listOf vt.toArray nt) ∈ news) (hv : vt.toArray[n.toNat]? = some (.ref tp))
   (X : (Mine.hd.heap_39 w.params).In g) (T : Top Mine.hd.view_39 lo mean mg mb g) (F : Fr g L s.heap m) (N : News g L s.heap news)
   (hQ : ∀ h' tk', Fr g L h' m → News g L h' news → Q (.ref tp) { s with heap := h', toks := tk' }) :
   wpAny (model rprog w) (callerA.deeper (envOfC (Str.ofString "law") lawScope L a ccd)) (eval (iterOf worE 0) (envOfC (Str.ofString "law") lawScope L a ccd)) Q E s := by
  show wpAny _ _ (eval (.Subscript _ _ _) _) _ _ _
  w_strict (repeat' (first | (k_unfold; (try dsimp only)) | (k_end; wrow_close) | ((with_reducible show wpAny _ _ (subscriptTail _ _ _ _) _ _ _); (k_here; k_dflt (refine' item_any ?zzl ?zza ?zzb ?zzx ?_; (case zzl => exact list_at (by k_asm) (by assumption)); (case zza => assumption); (case zzb => lia); (case zzx => assumption); k_whole))) | ((with_reducible show wpAny _ _ (eval (Expr.Name ..) _) _ _ _); (k_here; k_dflt (first | (refine' nameX_L ?zzF ?zzv ?_ ?zza ?zzb; (case zzF => k_asm); (case zza => rfl); (case zzb => rfl); (case zzv => ktr_unf); k_whole) | (refine' nameX_C ?zzN ?zzc ?zzm ?zzd ?_ ?zza ?zzb; (case zza => rfl); (case zzb => rfl); (case zzN => k_asm); (case zzc => rfl); (case zzm => first | k_mem | assumption); (case zzd => first | assumption | rfl); k_whole)))) | walk1 | (dsimp only; first | ((with_reducible show wpAny _ _ (subscriptTail _ _ _ _) _ _ _); (k_here; k_dflt (refine' item_any ?zzl ?zza ?zzb ?zzx ?_; (case zzl => exact list_at (by k_asm) (by assumption)); (case zza => assumption); (case zzb => lia); (case zzx => assumption); k_whole))) | ((with_reducible show wpAny _ _ (eval (Expr.Name ..) _) _ _ _); (k_here; k_dflt (first | (refine' nameX_L ?zzF ?zzv ?_ ?zza ?zzb; (case zzF => k_asm); (case zza => rfl); (case zzb => rfl); (case zzv => ktr_unf); k_whole) | (refine' nameX_C ?zzN ?zzc ?zzm ?zzd ?_ ?zza ?zzb; (case zza => rfl); (case zzb => rfl); (case zzN => k_asm); (case zzc => rfl); (case zzm => first | k_mem | assumption); (case zzd => first | assumption | rfl); k_whole)))) | walk1) | (leave1; try dsimp only) | fail "no step"))
  exact hQ _ _ (by assumption) (by assumption)
end
section
variable {w : World} {mean : ExcName → Option Value} {mg mb : Str → Option Value} {g : Heap} {L a : Addr} {ccd : Value} {s : Shared} {m : Str → Option Value} {news : List (Addr × Obj)} {Q : Value → Shared → Prop} {E : Value → Shared → Prop}

set_option maxHeartbeats 4000000 in
theorem wor_elt {C D I : Addr} {oC oI : Obj} {mC : Str → Option Value} {ys : List Value} {c : Int} {t : Tok} {cl : List (Str × Addr)} (hC : NsObj oC mC) (hx : mC (Str.ofString "k") = some (.int c t)) (h0 : 0 ≤ c) (h1 : c < 6)
   (X : (Mine.hd.heap_39 w.params).In g) (T : Top Mine.hd.view_39 lo mean mg mb g) (F : Fr g L s.heap m) (N : News g L s.heap ((I, oI) :: (C, oC) :: (D, lst ys) :: news))
   (hQ : ∀ t' h' tk', Fr g L h' m → News g L h' ((I, oI) :: (C, oC) :: (D, lst ys) :: news) → Q (.str (Str.ofString "\\" ++ Txt.item (Str.ofString "abcdef") c) t') { s with heap := h', toks := tk' }) :
   wpAny (model rprog w) (callerA.deeper (envOfC (Str.ofString "law") lawScope L a ccd)) (eval (eltOf worE) (compEnvC (lcScope worE) cl C (envOfC (Str.ofString "law") lawScope L a ccd))) Q E s := by
  show wpAny _ _ (eval (.BinOp _ _ _ _) _) _ _ _
  w_strict (repeat' (first | (k_unfold; (try dsimp only)) | (k_end; wrow_close) | ((with_reducible show wpAny _ _ (subscriptTail _ _ _ _) _ _ _); (k_here; k_dflt (refine' item_any ?zzl ?zza ?zzb ?zzx ?_; (case zzl => exact list_at (by k_asm) (by assumption)); (case zza => assumption); (case zzb => lia); (case zzx => assumption); k_whole))) | ((with_reducible show wpAny _ _ (eval (Expr.Name ..) _) _ _ _); (k_here; k_dflt (first | (refine' nameX_L ?zzF ?zzv ?_ ?zza ?zzb; (case zzF => k_asm); (case zza => rfl); (case zzb => rfl); (case zzv => ktr_unf); k_whole) | (refine' nameX_C ?zzN ?zzc ?zzm ?zzd ?_ ?zza ?zzb; (case zza => rfl); (case zzb => rfl); (case zzN => k_asm); (case zzc => rfl); (case zzm => first | k_mem | assumption); (case zzd => first | assumption | rfl); k_whole)))) | walk1 | (dsimp only; first | ((with_reducible show wpAny _ _ (subscriptTail _ _ _ _) _ _ _); (k_here; k_dflt (refine' item_any ?zzl ?zza ?zzb ?zzx ?_; (case zzl => exact list_at (by k_asm) (by assumption)); (case zza => assumption); (case zzb => lia); (case zzx => assumption); k_whole))) | ((with_reducible show wpAny _ _ (eval (Expr.Name ..) _) _ _ _); (k_here; k_dflt (first | (refine' nameX_L ?zzF ?zzv ?_ ?zza ?zzb; (case zzF => k_asm); (case zza => rfl); (case zzb => rfl); (case zzv => ktr_unf); k_whole) | (refine' nameX_C ?zzN ?zzc ?zzm ?zzd ?_ ?zza ?zzb; (case zza => rfl); (case zzb => rfl); (case zzN => k_asm); (case zzc => rfl); (case zzm => first | k_mem | assumption); (case zzd => first | assumption | rfl); k_whole)))) | walk1) | (leave1; try dsimp only) | fail "no step"))
  exact hQ _ _ _ (by assumption) (by assumption)
end
noncomputable def wordOf (c : Int) : Str := Str.ofString "\\" ++ Txt.item (Str.ofString "abcdef") c
theorem ints_item {its : Array Value} {ns : List Int} (h : IntsAre its.toList ns) {i : Nat} {v : Value} (hv : its[i]? = some v) : ∃ c t, v = .int c t ∧ ns[i]? = some c := by
  rw [← Array.getElem?_toList] at hv
  generalize its.toList = l at h hv
  induction h generalizing i with
  | nil => simp at hv
  | cons k t _ ih =>
    cases i with
    | zero => exact ⟨k, t, by simpa using hv.symm, rfl⟩
    | succ i => simpa using ih (i := i) (by simpa using hv)
theorem strs_snoc {vs : List Value} {ys : List Str} (h : StrsAre vs ys) (y : Str) (t : Tok) : StrsAre (vs ++ [.str y t]) (ys ++ [y]) := by
  induction h with
  | nil => exact .cons y t .nil
  | cons z u _ ih => exact .cons z u ih
section
variable {w : World} {mean : ExcName → Option Value} {mg mb : Str → Option Value} {g : Heap} {L a : Addr} {ccd : Value} {s : Shared} {m : Str → Option Value} {news : List (Addr × Obj)} {Q : Flow → Shared → Prop} {E : Value → Shared → Prop}

set_option maxHeartbeats 4000000 in
theorem st_words {n : Int} {t : Tok} {lt tp : Addr} {oc : Obj} {vt : List Value} {nt np : Nat} {its : Array Value} {ns : List Int} (hn : m (Str.ofString "rank") = some (.int n t)) (h0 : 0 ≤ n) (h1 : n < 20) (hc : (L + 1, oc) ∈ news) (hc2 : oc.data = .cell (some (.ref lt))) (hd : (lt, listOf vt.toArray nt) ∈ news) (hv : vt.toArray[n.toNat]? = some (.ref tp)) (hp : (tp, ({ cls := .type "tuple", data := .seq its np } : Obj)) ∈ news) (hi : IntsAre its.toList ns) (hns : ∀ c ∈ ns, 0 ≤ c ∧ c < 6) (hl : ns.length ≤ 100)
   (X : (Mine.hd.heap_39 w.params).In g) (T : Top Mine.hd.view_39 lo mean mg mb g) (F : Fr g L s.heap m) (N : News g L s.heap news)
   (hQ : ∀ D vd h' tk', StrsAre vd (ns.map wordOf) → Fr g L h' (fun y => if y = (Str.ofString "words") then some (.ref D) else m y) → News g L h' ((D, lst vd) :: news) → (∀ p ∈ news, p.1 ≠ D) → Q .next { s with heap := h', toks := tk' }) :
   wpAny (model rprog w) (callerA.deeper (envOfC (Str.ofString "law") lawScope L a ccd)) (exec (loopS 4) (envOfC (Str.ofString "law") lawScope L a ccd)) Q E s := by
  show wpAny _ _ (exec (Stmt.Assign [PySem.Expr.Name _ _] (PySem.Expr.ListComp _ [⟨PySem.Expr.Name _ _, _, [], 0⟩] _ _) _) _) _ _ _
  refine Assign_ListComp_Tp (h₀ := g) (L := L) (m := m) (cl := []) rfl (by with_unfolding_all rfl) (by rfl) (by decide) rfl (by decide) rfl rfl rfl ?_
  refine wor_iter hn h0 h1 hc hc2 hd hv X T F N fun h' tk' F' N' => ?_
  refine ⟨tp, its, news, rfl, rfl, F', N', ⟨_, hp, rfl, _, rfl⟩, ?_, ?_⟩
  · rw [← Array.length_toList, hi.length, sizeLine_eq]; lia
  rintro s₂ ⟨h₂, rfl⟩
  refine compRest_J (J := fun i ys nw => StrsAre ys ((ns.take i).map wordOf) ∧ nw = news) its.size ?_ ?_ _ 0 [] news (by lia) ⟨.nil, rfl⟩
  · rintro i ys nw v I oI C oC D m₂ h tk E' hlt ⟨hS, rfl⟩ hv hC hx F N off ne
    obtain ⟨c, t, rfl, hc'⟩ := ints_item hi hv
    have hb := hns c (List.mem_of_getElem? hc')
    refine wor_elt hC hx hb.1 hb.2 X T F N fun t' h' tk' F' N' => CompEnd.same F' N' off ⟨_, hp, rfl, _, rfl⟩ ⟨?_, rfl⟩
    rw [show ns.take (i + 1) = ns.take i ++ [c] by simp [List.take_add_one, hc'], List.map_append]
    exact strs_snoc hS _ _
  · rintro ys nw ⟨hS, rfl⟩
    intro D h' tk F' N' o1
    refine hQ D ys h' tk ?_ F' N' (Off1.mem o1)
    rwa [List.take_of_length_le (by rw [← Array.length_toList, hi.length]; exact Nat.le_refl _)] at hS
end
end Mine
end
section
open PySem PySem.W PyProof.Rows
open PySem.NumText
set_option maxRecDepth 100000
namespace Mine
noncomputable def gapL (g : Nat) : List Nat := [[32], [9], [13, 10], [32, 32]].getD g []
noncomputable def wordsL (a b c g : Nat) : List Nat := [92, 97 + a] ++ gapL g ++ [92, 97 + b] ++ gapL g ++ [92, 97 + c] ++ gapL g ++ [92, 97 + a]
noncomputable def wsChk (a b c g : Nat) : Bool := (PySem.Builtin.Bytes.words ((wordsL a b c g).length + 1) ((wordsL a b c g).length + 1) ((wordsL a b c g).map (·.toUInt8))) == [[92, (97 + a).toUInt8], [92, (97 + b).toUInt8], [92, (97 + c).toUInt8], [92, (97 + a).toUInt8]]
theorem ws_all : ((List.range 6).all fun a => (List.range 6).all fun b => (List.range 6).all fun c => (List.range 4).all fun g => wsChk a b c g) = true := by decide +kernel
theorem ws_one {a b c g : Nat} (ha : a < 6) (hb : b < 6) (hc : c < 6) (hg : g < 4) : wsChk a b c g = true := by
  have h := ws_all
  rw [List.all_eq_true] at h
  have h := h a (List.mem_range.mpr ha)
  rw [List.all_eq_true] at h
  have h := h b (List.mem_range.mpr hb)
  rw [List.all_eq_true] at h
  have h := h c (List.mem_range.mpr hc)
  rw [List.all_eq_true] at h
  exact h g (List.mem_range.mpr hg)
theorem gap_space {g : Nat} (hg : g < 4) : ∃ z ∈ gapL g, PySem.Builtin.Bytes.isSpace (Nat.toUInt8 z) = true := by
  have : ∀ g, g < 4 → ∃ z ∈ gapL g, PySem.Builtin.Bytes.isSpace (Nat.toUInt8 z) = true := by decide
  exact this g hg
theorem word_list {k : Int} (h0 : 0 ≤ k) (h1 : k < 6) : (wordOf k).cps.toList = [92, 97 + k.toNat] := by
  have : ∀ j : Nat, j < 6 → (wordOf (j : Int)).cps.toList = [92, 97 + j] := by decide
  have := this k.toNat (by lia)
  rwa [Int.toNat_of_nonneg h0] at this
noncomputable def six (k : Int) : Prop := 0 ≤ k ∧ k < 6
theorem enc_word {k : Int} (h : six k) : encOf (wordOf k) = [92, (97 + k.toNat).toUInt8].toArray := by
  have e := word_list h.1 h.2
  unfold encOf
  rw [str_of e]
  simp
theorem bints_word {k : Int} (h : six k) : KBw.bInts (encOf (wordOf k)) = [92, 97 + k] := by
  rw [enc_word h]
  have h0 := h.1
  have h1 := h.2
  simp [KBw.bInts]
  lia
theorem join_list {a b c : Int} {gp : Str} {g : Nat} (ha : six a) (hb : six b) (hc : six c) (hg : gp.cps.toList = gapL g) :
    (Txt.join gp ([a, b, c, a].map wordOf)).cps.toList = wordsL a.toNat b.toNat c.toNat g := by
  have e : Txt.join gp ([a, b, c, a].map wordOf) = Str.join gp ([a, b, c, a].map wordOf) := StrLaws.glued_eq_join _ _
  rw [e]
  simp only [List.map_cons, List.map_nil, Str.join, cat_list, word_list ha.1 ha.2, word_list hb.1 hb.2, word_list hc.1 hc.2, hg, wordsL, List.append_assoc]
theorem ws_ok {a b c : Int} {g : Nat} (ha : six a) (hb : six b) (hc : six c) (hg : g < 4) :
    wsOf ((wordsL a.toNat b.toNat c.toNat g).map (·.toUInt8)).toArray = ([a, b, c, a].map wordOf).map encOf := by
  have h := ws_one (a := a.toNat) (b := b.toNat) (c := c.toNat) (by have := ha.1; have := ha.2; lia) (by have := hb.1; have := hb.2; lia) (by have := hc.1; have := hc.2; lia) hg
  have h := eq_of_beq h
  unfold wsOf
  rw [if_neg]
  · simp only [List.size_toArray, List.length_map]
    rw [h]
    simp only [List.map_cons, List.map_nil, enc_word ha, enc_word hb, enc_word hc]
  · obtain ⟨z, hz, hs⟩ := gap_space hg
    simp only [Bool.and_eq_true, Bool.not_eq_true', not_and]
    intro _
    rw [Bool.not_eq_false, List.any_toArray, List.any_eq_true]
    refine ⟨z.toUInt8, List.mem_map.mpr ⟨z, ?_, rfl⟩, hs⟩
    unfold wordsL
    simp [hz]
theorem words_mem {a b c : Nat} {g z : Nat} (ha : a < 6) (hb : b < 6) (hc : c < 6) (hg : g < 4) (h : z ∈ wordsL a b c g) : z = 92 ∨ (97 ≤ z ∧ z < 103) ∨ z = 32 ∨ z = 9 ∨ z = 13 ∨ z = 10 := by
  have hgap : ∀ g, g < 4 → ∀ z ∈ gapL g, z = 32 ∨ z = 9 ∨ z = 13 ∨ z = 10 := by decide
  unfold wordsL at h
  simp only [List.mem_append, List.mem_cons, List.not_mem_nil, or_false] at h
  rcases h with (((((h | h) | h) | h) | h) | h) | h
  all_goals first
    | (have := hgap g hg z h; lia)
    | lia
theorem wordsL_len (a b c : Nat) {g : Nat} (hg : g < 4) : (wordsL a b c g).length ≤ 14 := by
  have : ∀ g, g < 4 → (gapL g).length ≤ 2 := by decide
  have := this g hg
  unfold wordsL
  simp
  lia
end Mine
end
section
open PySem PySem.W PyProof.Rows
open PySem.NumText
set_option maxRecDepth 100000
namespace Mine
noncomputable def markS (d : Int) : Str := Txt.item (Str.ofString "|/!=") ((d.fdiv 3).fmod 4)
noncomputable def fieldS (n : Int) (x : Str) : Str := x ++ Str.ofString "1" ++ x ++ Str.ofString "x" ++ x ++ Str.ofString "0" ++ Str.ofString (toString n) ++ x
noncomputable def gapS (d : Int) : Str := [Str.ofString " ", Str.ofString "\t", Str.ofString "\r\n", Str.ofString "  "].getD ((d.fdiv 12).fmod 4).toNat Str.empty
noncomputable def tailS (d : Int) : Str := [Str.ofString " flags (z)", Str.ofString " FLAGS (z", Str.ofString "\r\nFLAGS (y)"].getD ((d.fdiv 48).fmod 3).toNat Str.empty
noncomputable def frontS (n d : Int) : Str := Str.ofString "229) FLAGS (" ++ fieldS n (markS d)
noncomputable def cutS (n d : Int) (xs : List Str) : Str := frontS n d ++ Str.ofString ") PERMANENTFLAGS (" ++ Txt.join (gapS d) xs
noncomputable def replyS (n d : Int) (xs : List Str) : Str := cutS n d xs ++ Str.ofString ")" ++ tailS d
noncomputable def voidS (n d : Int) (xs : List Str) : Str := [frontS n d, frontS n d ++ Str.ofString ") FLAGS ()", Str.ofString "229)\r\n" ++ Txt.slice (replyS n d xs) (some 4) none].getD ((d.fdiv 144).fmod 3).toNat Str.empty
noncomputable def foreignS (r : Int) (y : Str) : Str := [Str.ofString "129", Str.ofString "209", Str.ofString "220", Str.ofString "228", Str.ofString "329"].getD (r.fmod 5).toNat Str.empty ++ Txt.slice y (some 3) none
theorem fmod_lt (a : Int) {b : Int} (hb : 0 < b) : 0 ≤ a.fmod b ∧ a.fmod b < b := ⟨Int.fmod_nonneg_of_pos a hb, Int.fmod_lt_of_pos a hb⟩
theorem mark_is (d : Int) : ∃ c, MarkOk c ∧ (markS d).cps.toList = [c] := by
  have h := fmod_lt (d.fdiv 3) (b := 4) (by decide)
  unfold markS
  generalize (d.fdiv 3).fmod 4 = k at h
  have : ∀ j : Nat, j < 4 → (Txt.item (Str.ofString "|/!=") (j : Int)).cps.toList = [[124, 47, 33, 61].getD j 0] := by decide
  have e := this k.toNat (by omega)
  rw [Int.toNat_of_nonneg h.1] at e
  refine ⟨_, ?_, e⟩
  have : ∀ j, j < 4 → ([124, 47, 33, 61] : List Nat).getD j 0 = 124 ∨ ([124, 47, 33, 61] : List Nat).getD j 0 = 47 ∨ ([124, 47, 33, 61] : List Nat).getD j 0 = 33 ∨ ([124, 47, 33, 61] : List Nat).getD j 0 = 61 := by decide
  exact this k.toNat (by omega)
theorem gap_is (d : Int) : ∃ g, g < 4 ∧ (gapS d).cps.toList = gapL g := by
  have h := fmod_lt (d.fdiv 12) (b := 4) (by decide)
  refine ⟨((d.fdiv 12).fmod 4).toNat, by omega, ?_⟩
  unfold gapS
  generalize hk : ((d.fdiv 12).fmod 4).toNat = k
  have hk4 : k < 4 := by omega
  have : ∀ j : Nat, j < 4 → ([Str.ofString " ", Str.ofString "\t", Str.ofString "\r\n", Str.ofString "  "].getD j Str.empty).cps.toList = gapL j := by decide
  exact this k hk4
noncomputable def tailL (u : Nat) : List Nat := [[32, 102, 108, 97, 103, 115, 32, 40, 122, 41], [32, 70, 76, 65, 71, 83, 32, 40, 122], [13, 10, 70, 76, 65, 71, 83, 32, 40, 121, 41]].getD u []
theorem tail_is (d : Int) : ∃ u, u < 3 ∧ (tailS d).cps.toList = tailL u := by
  have h := fmod_lt (d.fdiv 48) (b := 3) (by decide)
  refine ⟨((d.fdiv 48).fmod 3).toNat, by omega, ?_⟩
  unfold tailS
  generalize hk : ((d.fdiv 48).fmod 3).toNat = k
  have hk4 : k < 3 := by omega
  have : ∀ j : Nat, j < 3 → ([Str.ofString " flags (z)", Str.ofString " FLAGS (z", Str.ofString "\r\nFLAGS (y)"].getD j Str.empty).cps.toList = tailL j := by decide
  exact this k hk4
theorem tail_ok {u : Nat} (h : u < 3) : TailOk (tailL u) ∧ (∀ z ∈ tailL u, z < 128) ∧ (tailL u).length ≤ 20 := by
  have hu : u = 0 ∨ u = 1 ∨ u = 2 := by omega
  rcases hu with rfl | rfl | rfl
  · exact ⟨by unfold TailOk; decide, by decide, by decide⟩
  · exact ⟨by unfold TailOk; decide, by decide, by decide⟩
  · exact ⟨by unfold TailOk; decide, by decide, by decide⟩
theorem field_list {n : Int} {x : Str} {c : Nat} (h : x.cps.toList = [c]) : (fieldS n x).cps.toList = fieldL c (Str.ofString (toString n)).cps.toList := by
  unfold fieldS fieldL
  simp only [cat_list, h]
  rfl
noncomputable abbrev P18 : List Nat := [41, 32, 80, 69, 82, 77, 65, 78, 69, 78, 84, 70, 76, 65, 71, 83, 32, 40]
theorem p18_str : (Str.ofString ") PERMANENTFLAGS (").cps.toList = P18 := by decide
/-- all the texts of a turn, as lists of signs -/
structure Lists (n d : Int) (xs : List Str) (c : Nat) (ds W : List Nat) (u : Nat) : Prop where
  mark : MarkOk c
  digs : AllDigits ds
  dne : ds ≠ []
  dval : ((NumText.digitsVal ds : Nat) : Int) = n
  dlen : ds.length ≤ 10
  u3 : u < 3
  mkl : (markS d).cps.toList = [c]
  field : (fieldS n (markS d)).cps.toList = fieldL c ds
  front : (frontS n d).cps.toList = H12 ++ fieldL c ds
  cut : (cutS n d xs).cps.toList = H12 ++ (fieldL c ds ++ 41 :: (P18.drop 1 ++ W))
  reply : (replyS n d xs).cps.toList = H12 ++ (fieldL c ds ++ 41 :: (P18.drop 1 ++ (W ++ 41 :: tailL u)))
  wmem : ∀ z ∈ W, z = 92 ∨ (97 ≤ z ∧ z < 103) ∨ z = 32 ∨ z = 9 ∨ z = 13 ∨ z = 10
  wlen : W.length ≤ 14
  words : wsOf (W.map (·.toUInt8)).toArray = xs.map encOf
  join : (Txt.join (gapS d) xs).cps.toList = W
theorem lists_of {n d : Int} (h0 : 0 ≤ n) (h1 : n < 57600) {a b c : Int} (ha : six a) (hb : six b) (hc : six c) :
    ∃ k ds W u, Lists n d ([a, b, c, a].map wordOf) k ds W u := by
  obtain ⟨k, hk, hmk⟩ := mark_is d
  obtain ⟨g, hg, hgap⟩ := gap_is d
  obtain ⟨u, hu, htail⟩ := tail_is d
  obtain ⟨d1, d2, d3⟩ := num_digits h0
  have hlen := KT.len_num h0 (Int.lt_trans h1 (by decide))
  have hf := field_list (n := n) hmk
  have hj := join_list ha hb hc hgap
  refine ⟨k, _, wordsL a.toNat b.toNat c.toNat g, u, hk, d1, d2, d3, hlen, hu, hmk, hf, ?_, ?_, ?_, ?_, wordsL_len _ _ _ hg, ws_ok ha hb hc hg, hj⟩
  · unfold frontS
    rw [cat_list, hf, h12_str]
  · unfold cutS frontS
    rw [cat_list, cat_list, cat_list, hf, h12_str, p18_str, hj]
    simp
  · unfold replyS cutS frontS
    rw [cat_list, cat_list, cat_list, cat_list, cat_list, hf, h12_str, p18_str, hj, htail, show (Str.ofString ")").cps.toList = [41] by decide]
    simp
  · intro z hz
    refine words_mem ?_ ?_ ?_ hg hz
    · have := ha.1; have := ha.2; omega
    · have := hb.1; have := hb.2; omega
    · have := hc.1; have := hc.2; omega
end Mine
end
section
open PySem PySem.W PyProof.Rows
open PySem.NumText
set_option maxRecDepth 100000
namespace Mine
theorem len_list {x : Str} {l : List Nat} (h : x.cps.toList = l) : x.length = l.length := by rw [← h]; exact Array.length_toList.symm
theorem asc_list {x : Str} {l : List Nat} (h : x.cps.toList = l) (ha : ∀ z ∈ l, z < 128) : ∀ c ∈ x.cps, c < 128 := fun c hc => ha c (h ▸ Array.mem_toList_iff.mpr hc)
section
variable {n d : Int} {xs : List Str} {c : Nat} {ds W : List Nat} {u : Nat}
theorem Lists.fmem (H : Lists n d xs c ds W u) {z : Nat} (h : z ∈ fieldL c ds) : z < 128 ∧ z ≠ 41 ∧ z ≠ 40 ∧ z ≠ 70 ∧ z ≠ 10 ∧ 13 < z ∧ z ≠ 32 := by
  have n := H.mark.ne
  rcases field_mem H.digs h with h | h | h <;> lia
theorem Lists.flen (H : Lists n d xs c ds W u) : (fieldL c ds).length ≤ 17 := by rw [field_len]; have := H.dlen; lia
theorem Lists.flen0 (_H : Lists n d xs c ds W u) : 7 ≤ (fieldL c ds).length := by rw [field_len]; lia
theorem h12_lt : ∀ z ∈ H12, z < 128 := by decide
theorem p17_lt : ∀ z ∈ P18.drop 1, z < 128 ∧ z ≠ 41 ∧ z ≠ 10 := by decide
theorem Lists.w128 (H : Lists n d xs c ds W u) {z : Nat} (h : z ∈ W) : z < 128 ∧ z ≠ 41 ∧ z ≠ 70 := by
  have := H.wmem z h
  lia
theorem Lists.mark_len (H : Lists n d xs c ds W u) : (markS d).length = 1 := len_list H.mkl
theorem Lists.field_len' (H : Lists n d xs c ds W u) : (fieldS n (markS d)).length ≤ 1000 := by rw [len_list H.field]; have := H.flen; lia
theorem Lists.front_len (H : Lists n d xs c ds W u) : (frontS n d).length ≤ 1000 := by rw [len_list H.front]; have := H.flen; simp <;> lia
theorem Lists.cut_len (H : Lists n d xs c ds W u) : (cutS n d xs).length ≤ 1000 := by rw [len_list H.cut]; have := H.flen; have := H.wlen; simp <;> lia
theorem Lists.reply_len (H : Lists n d xs c ds W u) : (replyS n d xs).length ≤ 1000 := by
  rw [len_list H.reply]; have := H.flen; have := H.wlen; have := (tail_ok H.u3).2.2; simp <;> lia
theorem gap_len (d : Int) : (gapS d).length ≤ 2 := by
  obtain ⟨g, hg, h⟩ := gap_is d
  rw [len_list h]
  have : ∀ g, g < 4 → (gapL g).length ≤ 2 := by decide
  exact this g hg
theorem tail_len (d : Int) : (tailS d).length ≤ 20 := by
  obtain ⟨u, hu, h⟩ := tail_is d
  rw [len_list h]
  exact (tail_ok hu).2.2
theorem Lists.join_len (H : Lists n d xs c ds W u) : (Txt.join (gapS d) xs).length ≤ 1000 := by rw [len_list H.join]; have := H.wlen; lia
theorem Lists.p3 (H : Lists n d xs c ds W u) : PySem.intText? ⟨(48 :: ds).toArray⟩ = some n ∧ (⟨(48 :: ds).toArray⟩ : Str).length ≤ 640 := by
  have hl : (⟨(48 :: ds).toArray⟩ : Str).length ≤ 640 := by
    rw [len_list (l := 48 :: ds) rfl]
    have := H.dlen
    simp <;> lia
  refine ⟨?_, hl⟩
  have e := intText_digits (x := ⟨(48 :: ds).toArray⟩) (fun z hz => ?_) (by simp) (by lia)
  · rw [e]
    have : digitsVal (48 :: ds) = digitsVal ds := by simp [digitsVal]
    show some ((digitsVal (48 :: ds) : Nat) : Int) = some n
    rw [this, H.dval]
  · rcases List.mem_cons.mp (by simpa using hz : z ∈ 48 :: ds) with h | h
    · lia
    · exact H.digs z h
theorem Lists.fl_reply (H : Lists n d xs c ds W u) (hx : xs.length ≤ 1000) : Fl (replyS n d xs) (xs.map encOf) := by
  have ha : ∀ z ∈ (replyS n d xs).cps, z < 128 := asc_list H.reply fun z hz => by
    rcases List.mem_append.mp hz with h | h
    · exact h12_lt z h
    · rcases List.mem_append.mp h with h | h
      · exact (H.fmem h).1
      · rcases List.mem_cons.mp h with h | h
        · lia
        · rcases List.mem_append.mp h with h | h
          · exact (p17_lt z h).1
          · rcases List.mem_append.mp h with h | h
            · exact (H.w128 h).1
            · rcases List.mem_cons.mp h with h | h
              · lia
              · exact (tail_ok H.u3).2.1 z h
  have hl := H.flen0
  refine ⟨⟨ha, H.reply_len, by rw [len_list H.reply]; simp⟩, by rw [len_list H.reply]; simp <;> lia, ?_, by simpa using hx⟩
  rw [words_found (pre := H12 ++ (fieldL c ds ++ 41 :: [32, 80, 69, 82, 77, 65, 78, 69, 78, 84])) (W := W) (tl := tailL u) ha (by rw [H.reply]; simp) ?_ (fun h => (H.w128 h).2.1 rfl) (fun h => (H.w128 h).2.2 rfl) (tail_ok H.u3).1]
  · exact H.words
  · intro h
    rcases List.mem_append.mp h with h | h
    · exact absurd h (by decide)
    · rcases List.mem_append.mp h with h | h
      · exact (H.fmem h).2.2.2.2.1 rfl
      · exact absurd h (by decide)
theorem Lists.ws_field (H : Lists n d xs c ds W u) : wsOf ((fieldL c ds).map (·.toUInt8)).toArray = [encOf (fieldS n (markS d))] := by
  have e : encOf (fieldS n (markS d)) = ((fieldL c ds).map (·.toUInt8)).toArray := by
    unfold encOf
    rw [str_of H.field]
    simp
  unfold wsOf
  rw [if_pos, e]
  simp only [Bool.and_eq_true, Bool.not_eq_true']
  constructor
  · simp [fieldL]
  · rw [List.any_toArray, List.any_eq_false]
    intro b hb
    obtain ⟨z, hz, rfl⟩ := List.mem_map.mp hb
    have h := H.fmem hz
    have key : ∀ z : Nat, z < 128 → 13 < z → z ≠ 32 → PySem.Builtin.Bytes.isSpace z.toUInt8 = false := by decide
    rw [key z h.1 h.2.2.2.2.2.1 h.2.2.2.2.2.2]
    decide
theorem Lists.fl_cut (H : Lists n d xs c ds W u) : Fl (Txt.slice (cutS n d xs) (some 5) none) [encOf (fieldS n (markS d))] := by
  have e : Txt.slice (cutS n d xs) (some 5) none = ⟨(F7 ++ (fieldL c ds ++ 41 :: (P18.drop 1 ++ W))).toArray⟩ :=
    slice_from (i := 5) (a := [50, 50, 57, 41, 32]) (b := F7 ++ (fieldL c ds ++ 41 :: (P18.drop 1 ++ W))) (by rw [H.cut]; rfl) rfl
  rw [e]
  have hl : (⟨(F7 ++ (fieldL c ds ++ 41 :: (P18.drop 1 ++ W))).toArray⟩ : Str).cps.toList = F7 ++ (fieldL c ds ++ 41 :: (P18.drop 1 ++ W)) := rfl
  have ha : ∀ z ∈ (⟨(F7 ++ (fieldL c ds ++ 41 :: (P18.drop 1 ++ W))).toArray⟩ : Str).cps, z < 128 := asc_list hl fun z hz => by
    simp only [List.mem_append] at hz
    rcases hz with h | h | h
    · have : ∀ z ∈ F7, z < 128 := by decide
      exact this z h
    · exact (H.fmem h).1
    · rcases List.mem_cons.mp h with h | h
      · lia
      · rcases List.mem_append.mp h with h | h
        · exact (p17_lt z h).1
        · exact (H.w128 h).1
  have h1 := H.flen
  have h2 := H.wlen
  have h3 := H.flen0
  refine ⟨⟨ha, by rw [len_list hl]; simp <;> lia, by rw [len_list hl]; simp⟩, by rw [len_list hl]; simp <;> lia, ?_, by simp⟩
  rw [words_found (pre := []) (W := fieldL c ds) (tl := P18.drop 1 ++ W) ha (by rw [hl]; rfl) List.not_mem_nil (fun h => (H.fmem h).2.1 rfl) (fun h => (H.fmem h).2.2.2.1 rfl)
    (fun p _ _ _ i hi _ q => by
      have := getD_mem hi
      rw [q] at this
      rcases List.mem_append.mp this with h | h
      · exact (p17_lt _ h).2.1 rfl
      · exact (H.w128 h).2.1 rfl)]
  exact H.ws_field
theorem Lists.asc_field (H : Lists n d xs c ds W u) : Asc (fieldS n (markS d)) :=
  ⟨asc_list H.field fun _ h => (H.fmem h).1, H.field_len', by rw [len_list H.field]; have := H.flen0; lia⟩
theorem ws_nil : wsOf (([] : List Nat).map (·.toUInt8)).toArray = [] := by unfold wsOf; rfl
theorem Lists.fl_void (H : Lists n d xs c ds W u) : Fl (voidS n d xs) [] := by
  have h1 := H.flen
  have h3 := H.flen0
  have hv := fmod_lt (d.fdiv 144) (b := 3) (by decide)
  unfold voidS
  generalize hk : ((d.fdiv 144).fmod 3).toNat = k
  have hk3 : k = 0 ∨ k = 1 ∨ k = 2 := by lia
  have haf : ∀ z ∈ H12 ++ fieldL c ds, z < 128 := fun z hz => by
    rcases List.mem_append.mp hz with h | h
    · exact h12_lt z h
    · exact (H.fmem h).1
  rcases hk3 with rfl | rfl | rfl
  · show Fl (frontS n d) []
    have ha : ∀ z ∈ (frontS n d).cps, z < 128 := asc_list H.front haf
    refine ⟨⟨ha, H.front_len, by rw [len_list H.front]; simp⟩, by rw [len_list H.front]; simp <;> lia, ?_, by simp⟩
    refine words_none ha ?_
    rw [H.front]
    refine last_open (pre := [50, 50, 57, 41]) (rest := [32, 70, 76, 65, 71, 83, 32, 40] ++ fieldL c ds) rfl (by decide) fun h => ?_
    rcases List.mem_append.mp h with h | h
    · exact absurd h (by decide)
    · exact (H.fmem h).2.1 rfl
  · show Fl (frontS n d ++ Str.ofString ") FLAGS ()") []
    have hl : (frontS n d ++ Str.ofString ") FLAGS ()").cps.toList = H12 ++ fieldL c ds ++ [41, 32, 70, 76, 65, 71, 83, 32, 40, 41] := by
      rw [cat_list, H.front]
      congr 1
    have ha : ∀ z ∈ (frontS n d ++ Str.ofString ") FLAGS ()").cps, z < 128 := asc_list hl fun z hz => by
      rcases List.mem_append.mp hz with h | h
      · exact haf z h
      · have : ∀ z ∈ ([41, 32, 70, 76, 65, 71, 83, 32, 40, 41] : List Nat), z < 128 := by decide
        exact this z h
    refine ⟨⟨ha, by rw [len_list hl]; simp <;> lia, by rw [len_list hl]; simp⟩, by rw [len_list hl]; simp <;> lia, ?_, by simp⟩
    rw [words_found (pre := H12 ++ fieldL c ds ++ [41, 32]) (W := []) (tl := []) ha (by rw [hl]; simp) (fun h => ?_) List.not_mem_nil List.not_mem_nil (by unfold TailOk; decide)]
    · exact ws_nil
    · simp only [List.mem_append] at h
      rcases h with (h | h) | h
      · exact absurd h (by decide)
      · exact (H.fmem h).2.2.2.2.1 rfl
      · exact absurd h (by decide)
  · show Fl (Str.ofString "229)\r\n" ++ Txt.slice (replyS n d xs) (some 4) none) []
    have e : Txt.slice (replyS n d xs) (some 4) none = ⟨([32, 70, 76, 65, 71, 83, 32, 40] ++ (fieldL c ds ++ 41 :: (P18.drop 1 ++ (W ++ 41 :: tailL u)))).toArray⟩ :=
      slice_from (i := 4) (a := [50, 50, 57, 41]) (b := [32, 70, 76, 65, 71, 83, 32, 40] ++ (fieldL c ds ++ 41 :: (P18.drop 1 ++ (W ++ 41 :: tailL u)))) (by rw [H.reply]; rfl) rfl
    rw [e]
    have hl : (Str.ofString "229)\r\n" ++ ⟨([32, 70, 76, 65, 71, 83, 32, 40] ++ (fieldL c ds ++ 41 :: (P18.drop 1 ++ (W ++ 41 :: tailL u)))).toArray⟩ : Str).cps.toList = [50, 50, 57, 41, 13] ++ 10 :: ([32, 70, 76, 65, 71, 83, 32, 40] ++ (fieldL c ds ++ 41 :: (P18.drop 1 ++ (W ++ 41 :: tailL u)))) := by
      rw [cat_list]; rfl
    have ht := (tail_ok H.u3)
    have hw := H.wlen
    have ha : ∀ z ∈ (Str.ofString "229)\r\n" ++ ⟨([32, 70, 76, 65, 71, 83, 32, 40] ++ (fieldL c ds ++ 41 :: (P18.drop 1 ++ (W ++ 41 :: tailL u)))).toArray⟩ : Str).cps, z < 128 := asc_list hl fun z hz => by
      rcases List.mem_append.mp hz with h | h
      · have : ∀ z ∈ ([50, 50, 57, 41, 13] : List Nat), z < 128 := by decide
        exact this z h
      · rcases List.mem_cons.mp h with h | h
        · lia
        · rcases List.mem_append.mp h with h | h
          · have : ∀ z ∈ ([32, 70, 76, 65, 71, 83, 32, 40] : List Nat), z < 128 := by decide
            exact this z h
          · rcases List.mem_append.mp h with h | h
            · exact (H.fmem h).1
            · rcases List.mem_cons.mp h with h | h
              · lia
              · rcases List.mem_append.mp h with h | h
                · exact (p17_lt z h).1
                · rcases List.mem_append.mp h with h | h
                  · exact (H.w128 h).1
                  · rcases List.mem_cons.mp h with h | h
                    · lia
                    · exact ht.2.1 z h
    have h5 := ht.2.2
    refine ⟨⟨ha, by rw [len_list hl]; simp <;> lia, by rw [len_list hl]; simp⟩, by rw [len_list hl]; simp <;> lia, ?_, by simp⟩
    refine words_none ha ?_
    exact last_line hl (by decide)
end
end Mine
end
section
open PySem PySem.W PyProof.Rows
open PySem.NumText
set_option maxRecDepth 100000
namespace Mine
section
variable {n d : Int} {xs : List Str} {c : Nat} {ds W : List Nat} {u : Nat}
theorem h12_cat {y : Str} {l : List Nat} (h : y.cps.toList = l) : (Str.ofString "229) FLAGS (" ++ y).cps.toList = H12 ++ l := by rw [cat_list, h12_str, h]
theorem cl_list : (Str.ofString ")").cps.toList = [41] := by decide
theorem Lists.bent1 (H : Lists n d xs c ds W u) : Spoilt (Str.ofString "229) FLAGS (" ++ (markS d ++ fieldS n (markS d) ++ Str.ofString ")")) := by
  have h1 := H.flen
  have e : (Str.ofString "229) FLAGS (" ++ (markS d ++ fieldS n (markS d) ++ Str.ofString ")")).cps.toList = H12 ++ ((c :: fieldL c ds) ++ 41 :: []) :=
    h12_cat (by rw [cat_list, cat_list, H.mkl, H.field, cl_list]; rfl)
  refine spoilt_of (by rw [len_list e]; simp <;> lia) e (fun h => ?_) (by simp) fun _ => ?_
  · rcases List.mem_cons.mp h with h | h
    · exact absurd h.symm H.mark.ne.1
    · exact (H.fmem h).2.1 rfl
  · show (Txt.split ⟨(c :: fieldL c ds).toArray⟩ ⟨#[c]⟩).length ≠ 5
    rw [split_six H.mark H.digs]; decide
theorem Lists.bent2 (H : Lists n d xs c ds W u) : Spoilt (Str.ofString "229) FLAGS (" ++ (Txt.slice (fieldS n (markS d)) (some 2) none ++ Str.ofString ")")) := by
  have h1 := H.dlen
  have e0 : Txt.slice (fieldS n (markS d)) (some 2) none = ⟨([c, 120, c, 48] ++ ds ++ [c]).toArray⟩ := slice_from (i := 2) (a := [c, 49]) (b := [c, 120, c, 48] ++ ds ++ [c]) (by rw [H.field]; rfl) rfl
  have e : (Str.ofString "229) FLAGS (" ++ (Txt.slice (fieldS n (markS d)) (some 2) none ++ Str.ofString ")")).cps.toList = H12 ++ (([c, 120, c, 48] ++ ds ++ [c]) ++ 41 :: []) :=
    h12_cat (by rw [cat_list, e0, cl_list])
  refine spoilt_of (by rw [len_list e]; simp <;> lia) e (fun h => ?_) (by simp) fun _ => ?_
  · refine (H.fmem (z := 41) ?_).2.1 rfl
    unfold fieldL
    simp only [List.mem_append, List.mem_cons, List.not_mem_nil, or_false] at h ⊢
    rcases h with (h | h) | h
    · lia
    · exact .inl (.inr h)
    · exact .inr h
  · show (Txt.split ⟨([c, 120, c, 48] ++ ds ++ [c]).toArray⟩ ⟨#[c]⟩).length ≠ 5
    rw [split_four H.mark H.digs]; decide
theorem Lists.bent3 (H : Lists n d xs c ds W u) : Spoilt (Str.ofString "229) FLAGS (" ++ (fieldS n (markS d) ++ Str.ofString "x)")) := by
  have h1 := H.flen
  have e : (Str.ofString "229) FLAGS (" ++ (fieldS n (markS d) ++ Str.ofString "x)")).cps.toList = H12 ++ ((fieldL c ds ++ [120]) ++ 41 :: []) :=
    h12_cat (by rw [cat_list, H.field, show (Str.ofString "x)").cps.toList = [120, 41] by decide]; simp)
  refine spoilt_of (by rw [len_list e]; simp <;> lia) e (fun h => ?_) (by simp) fun h => ?_
  · rcases List.mem_append.mp h with h | h
    · exact (H.fmem h).2.1 rfl
    · exact absurd h (by decide)
  · have e1 : (fieldL c ds ++ [120]).getD 0 0 = c := rfl
    have e2 : (fieldL c ds ++ [120]).getD ((fieldL c ds ++ [120]).length - 1) 0 = 120 := by
      have e3 : (fieldL c ds ++ [120]).length - 1 = (fieldL c ds).length := by simp
      exact (congrArg (fun i => (fieldL c ds ++ [120]).getD i 0) e3).trans (getD_last 120 _)
    rw [e1, e2] at h
    exact absurd h H.mark.ne.2.2.2.2.2.1
theorem Lists.bent4 (H : Lists n d xs c ds W u) : Spoilt (Str.ofString "229) FLAGS (" ++ (fieldS n (markS d) ++ markS d)) := by
  have h1 := H.flen
  have e : (Str.ofString "229) FLAGS (" ++ (fieldS n (markS d) ++ markS d)).cps.toList = H12 ++ (fieldL c ds ++ [c]) :=
    h12_cat (by rw [cat_list, H.field, H.mkl])
  refine spoilt_open (by rw [len_list e]; simp <;> lia) e fun h => ?_
  rcases List.mem_append.mp h with h | h
  · exact (H.fmem h).2.1 rfl
  · exact absurd (List.mem_singleton.mp h).symm H.mark.ne.1
theorem Lists.foreign (H : Lists n d xs c ds W u) (r : Int) : (foreignS r (replyS n d xs)).length ≤ 1000 ∧ (Txt.slice (foreignS r (replyS n d xs)) none (some 3) != Str.ofString "229") = true := by
  have hr := fmod_lt r (b := 5) (by decide)
  have h1 := H.flen
  have h2 := H.wlen
  have h3 := (tail_ok H.u3).2.2
  have e0 : Txt.slice (replyS n d xs) (some 3) none = ⟨([41, 32, 70, 76, 65, 71, 83, 32, 40] ++ (fieldL c ds ++ 41 :: (P18.drop 1 ++ (W ++ 41 :: tailL u)))).toArray⟩ :=
    slice_from (i := 3) (a := [50, 50, 57]) (b := [41, 32, 70, 76, 65, 71, 83, 32, 40] ++ (fieldL c ds ++ 41 :: (P18.drop 1 ++ (W ++ 41 :: tailL u)))) (by rw [H.reply]; rfl) rfl
  unfold foreignS
  generalize hk : (r.fmod 5).toNat = k
  have hk5 : k < 5 := by lia
  have key : ∀ k, k < 5 → ([Str.ofString "129", Str.ofString "209", Str.ofString "220", Str.ofString "228", Str.ofString "329"].getD k Str.empty).cps.toList.length = 3 ∧ ((⟨(([Str.ofString "129", Str.ofString "209", Str.ofString "220", Str.ofString "228", Str.ofString "329"].getD k Str.empty).cps.toList).toArray⟩ : Str) != Str.ofString "229") = true := by decide
  obtain ⟨k1, k2⟩ := key k hk5
  generalize [Str.ofString "129", Str.ofString "209", Str.ofString "220", Str.ofString "228", Str.ofString "329"].getD k Str.empty = y at k1 k2
  rw [e0]
  have e : (y ++ ⟨([41, 32, 70, 76, 65, 71, 83, 32, 40] ++ (fieldL c ds ++ 41 :: (P18.drop 1 ++ (W ++ 41 :: tailL u)))).toArray⟩ : Str).cps.toList = y.cps.toList ++ ([41, 32, 70, 76, 65, 71, 83, 32, 40] ++ (fieldL c ds ++ 41 :: (P18.drop 1 ++ (W ++ 41 :: tailL u)))) := by
    rw [cat_list]
  refine ⟨?_, ?_⟩
  · rw [len_list e]
    rw [List.length_append, k1]
    simp <;> lia
  · rw [slice_to e (by rw [k1]; rfl)]
    exact k2
end
/-- the text of st_refused -/
noncomputable def refusedS (r : Int) : Str := Str.ofString "229 x20" ++ Str.ofString (toString r) ++ Str.ofString "2)"
theorem refused_ok {r : Int} (h0 : 0 ≤ r) (h1 : r < 20) : Spoilt (refusedS r) := by
  obtain ⟨d1, _, _⟩ := num_digits h0
  have hlen := KT.len_num h0 (Int.lt_trans h1 (by decide))
  have hl : (refusedS r).cps.toList = [50, 50, 57, 32, 120, 50, 48] ++ ((Str.ofString (toString r)).cps.toList ++ [50, 41]) := by
    unfold refusedS
    rw [cat_list, cat_list]
    simp only [List.append_assoc]
    rfl
  have hln := len_list (x := Str.ofString (toString r)) rfl
  have hle : (refusedS r).length ≤ 1000 := by
    rw [len_list hl]
    simp only [List.length_append, List.length_cons, List.length_nil]
    lia
  refine ⟨hle, ?_, ?_⟩
  · rw [slice_to (x := refusedS r) (j := 3) (a := [50, 50, 57]) (b := [32, 120, 50, 48] ++ ((Str.ofString (toString r)).cps.toList ++ [50, 41])) hl rfl]
    decide
  · have : Txt.find (refusedS r) (Str.ofString "(") = -1 := by
      rw [op_str]
      refine find_none fun h => ?_
      rw [hl] at h
      rcases List.mem_append.mp h with h | h
      · exact absurd h (by decide)
      · rcases List.mem_append.mp h with h | h
        · have := d1 _ h; lia
        · exact absurd h (by decide)
    rw [this]
    intro h
    exact absurd (by decide) h
theorem xs_ok {a b c : Int} (ha : six a) (hb : six b) (hc : six c) : ∀ x ∈ [a, b, c, a].map wordOf, (∀ z ∈ x.cps, z < 128) ∧ x.length ≤ 1000 ∧ 0 < x.length := by
  have one : ∀ k, six k → (∀ z ∈ (wordOf k).cps, z < 128) ∧ (wordOf k).length ≤ 1000 ∧ 0 < (wordOf k).length := fun k hk => by
    have e := word_list hk.1 hk.2
    refine ⟨asc_list e fun z hz => ?_, by rw [len_list e]; simp, by rw [len_list e]; simp⟩
    have := hk.1
    have := hk.2
    simp only [List.mem_cons, List.not_mem_nil, or_false] at hz
    lia
  intro x hx
  simp only [List.map_cons, List.map_nil, List.mem_cons, List.not_mem_nil, or_false] at hx
  rcases hx with rfl | rfl | rfl | rfl
  · exact one _ ha
  · exact one _ hb
  · exact one _ hc
  · exact one _ ha
theorem xs_sum {a b c : Int} (ha : six a) (hb : six b) (hc : six c) : (([a, b, c, a].map wordOf).map (·.length)).sum + ([a, b, c, a].map wordOf).length * 64 ≤ 16777216 := by
  have one : ∀ k, six k → (wordOf k).length = 2 := fun k hk => len_list (word_list hk.1 hk.2)
  simp only [List.map_cons, List.map_nil, one _ ha, one _ hb, one _ hc, List.length_cons, List.length_nil, List.sum_cons, List.sum_nil]
  lia
theorem xs_ints {a b c : Int} (ha : six a) (hb : six b) (hc : six c) : ((([a, b, c, a].map wordOf).map encOf).drop 1).map KBw.bInts = [b, c, a].map (fun k => [92, 97 + k]) := by
  simp only [List.map_cons, List.map_nil, List.drop_succ_cons, List.drop_zero, bints_word ha, bints_word hb, bints_word hc]
end Mine
end
section
open PySem PySem.W PyProof.Rows PySem.Calls PySem.Spec PyProof.Rows.LCg
set_option maxRecDepth 100000
namespace Mine
noncomputable abbrev NoE' : Value → Shared → Prop := fun _ _ => False
/-- how a turn of a for ends -/
noncomputable def TurnEnd (h₀ : Heap) (L : Addr) (I : Addr) (oI : Obj) (J : (Str → Option Value) → List (Addr × Obj) → Prop) (Q : Flow → Shared → Prop) (s₂ : Shared) (f : Flow) (s' : Shared) : Prop := match f with
  | .ret v => Q (.ret v) s'
  | .brk => Q .next s'
  | _ => ∃ h tk m nx, s' = { s₂ with heap := h, toks := tk } ∧ Fr h₀ L h m ∧ News h₀ L h ((I, oI) :: nx) ∧ (∀ p ∈ nx, p.1 ≠ I) ∧ J m nx
section
variable {prog : Program} {w : World} {A : Around} {E : Value → Shared → Prop} {s : Shared} {env : Env} {h₀ : Heap}
theorem TurnEnd.intro {L I : Addr} {oI : Obj} {J : (Str → Option Value) → List (Addr × Obj) → Prop} {Q : Flow → Shared → Prop} {s₂ : Shared} {h : Heap} {tk : Nat} {m : Str → Option Value} {nx : List (Addr × Obj)} (F : Fr h₀ L h m) (N : News h₀ L h ((I, oI) :: nx)) (off : ∀ p ∈ nx, p.1 ≠ I) (hJ : J m nx) :
    TurnEnd h₀ L I oI J Q s₂ .next { s₂ with heap := h, toks := tk } := ⟨h, tk, m, nx, rfl, F, N, off, hJ⟩
theorem loop_own {target : PySem.Expr} {body : List Stmt} {I : Addr} {fp : List Addr} {n : Nat} {P : Nat → Value → Prop} {St : Nat → Heap → Prop} {S : List (Addr × Obj) → Prop} {m : Str → Option Value} {news : List (Addr × Obj)} {Q : Flow → Shared → Prop}
    (W : Walks prog w A I fp [I] n P St) (hIo : ∀ i h, St i h → ∃ o, h.get? I = some o)
    (hSt : ∀ i h h' o nw, St i h → h.get? I = some o → h'.get? I = some o → (∀ b o, h₀.get? b = some o → h'.get? b = some o) → News h₀ env.locals h' nw → S nw → St i h')
    (hgo : ∀ i (s' : Shared) v (Q' : Unit → Shared → Prop) (E' : Value → Shared → Prop), St i s'.heap → Q' () s' → wpAny (model prog w) A (letOwnedTupleGo target (.ref I) v) Q' E' s')
    (hst : St 0 s.heap) (F : Fr h₀ env.locals s.heap m) (N : News h₀ env.locals s.heap news) (hIL : env.locals ≠ I) (hI₀ : h₀.get? I = none) (off : ∀ p ∈ news, p.1 ≠ I)
    (J : Nat → (Str → Option Value) → List (Addr × Obj) → Prop) (hJS : ∀ i m nx, J i m nx → S nx) (hJ : J 0 m news)
    (turn : ∀ i v m nx oI h tk, i < n → P i v → J i m nx → Fr h₀ env.locals h m → News h₀ env.locals h ((I, oI) :: nx) → (∀ p ∈ nx, p.1 ≠ I) →
      wpAny (model prog w) A (assign target env v) (fun _ s' => wpAny (model prog w) A (execs body env) (TurnEnd h₀ env.locals I oI (J (i + 1)) Q s) NoE' s') NoE' { s with heap := h, toks := tk })
    (done : ∀ m nx h tk, J n m nx → Fr h₀ env.locals h m → News h₀ env.locals h nx → Q .next { s with heap := h, toks := tk }) :
    codeAny (model prog w) A (.forLoop target (.ref I) body [] env) (fun r s' => match r with | .ok f => Q f s' | .error e => cameBackBy (model prog w) A env E e s') s := by
  refine codeAny_forLoop_any
    (fun k s' => ∃ h' tk m' nx i, s' = { s with heap := h', toks := tk } ∧ St i h' ∧ Fr h₀ env.locals h' m' ∧ News h₀ env.locals h' nx ∧ (∀ p ∈ nx, p.1 ≠ I) ∧ J i m' nx ∧ i ≤ n ∧ k = n + 1 - i) ?_ (n + 1)
    ⟨s.heap, s.toks, m, news, 0, rfl, hst, F, N, off, hJ, Nat.zero_le _, rfl⟩
  rintro k s' ⟨h', tk, m', nx, i, rfl, hst', F', N', off', hJ', hi, rfl⟩
  by_cases hlt : i < n
  · refine W.item i _ _ _ hlt hst' fun v h₁ tk₁ hP hst₁ hk₁ => ?_
    have F₁ : Fr h₀ env.locals h₁ m' := fr_but F' hk₁ hIL hI₀
    have N₁ : News h₀ env.locals h₁ nx := news_but N' hk₁ off'
    obtain ⟨oI, ho⟩ := hIo _ _ hst₁
    have N₂ : News h₀ env.locals h₁ ((I, oI) :: nx) := fun p hp => by
      rcases List.mem_cons.mp hp with rfl | hp
      · exact ⟨ho, Ne.symm hIL, hI₀⟩
      · exact N₁ p hp
    refine hgo (i + 1) _ v _ _ hst₁ ?_
    refine wpAny_mono (turn i v m' nx oI h₁ tk₁ hlt hP hJ' F₁ N₂ off') (fun _ s₂ h₂ => wpAny_mono h₂ (fun f s₃ h₃ => ?_) fun _ _ e => e.elim) fun _ _ e => e.elim
    cases f with
    | ret v => exact h₃
    | brk => exact h₃
    | next =>
      obtain ⟨h₃', tk₃, m₂, nx₂, rfl, F₃, N₃, off₃, hJ₃⟩ := h₃
      have N₃' : News h₀ env.locals h₃' nx₂ := fun p hp => N₃ p (List.mem_cons_of_mem _ hp)
      exact ⟨n + 1 - (i + 1), by omega, h₃', tk₃, m₂, nx₂, i + 1, rfl, hSt _ _ _ _ _ hst₁ ho (N₃ _ List.mem_cons_self).1 F₃.keep N₃' (hJS _ _ _ hJ₃), F₃, N₃', off₃, hJ₃, hlt, rfl⟩
    | cont =>
      obtain ⟨h₃', tk₃, m₂, nx₂, rfl, F₃, N₃, off₃, hJ₃⟩ := h₃
      have N₃' : News h₀ env.locals h₃' nx₂ := fun p hp => N₃ p (List.mem_cons_of_mem _ hp)
      exact ⟨n + 1 - (i + 1), by omega, h₃', tk₃, m₂, nx₂, i + 1, rfl, hSt _ _ _ _ _ hst₁ ho (N₃ _ List.mem_cons_self).1 F₃.keep N₃' (hJS _ _ _ hJ₃), F₃, N₃', off₃, hJ₃, hlt, rfl⟩
  · obtain rfl : i = n := Nat.le_antisymm hi (Nat.not_lt.mp hlt)
    refine W.done _ _ _ hst' fun h₂ tk₂ hk₂ => ?_
    have F₁ : Fr h₀ env.locals h₂ m' := fr_but F' hk₂ hIL hI₀
    have N₁ : News h₀ env.locals h₂ nx := news_but N' hk₂ off'
    show wpAny _ _ (execs [] env) _ _ _
    rw [execs_nil]
    exact wpAny_pure (done _ _ _ _ hJ' F₁ N₁)
/-- a for over a tuple of the ledger -/
theorem for_tuple {target iter : PySem.Expr} {body : List Stmt} {pos : Pos} {Q : Flow → Shared → Prop} (hh : A.handled = none)
    (hgo : ∀ I t i (s' : Shared) v (Q' : Unit → Shared → Prop) (E' : Value → Shared → Prop), s'.heap.IsTupleIter I t i → Q' () s' → wpAny (model prog w) A (letOwnedTupleGo target (.ref I) v) Q' E' s')
    (h : wpAny (model prog w) A (eval iter env) (fun xv s₁ => ∃ (J : Nat → (Str → Option Value) → List (Addr × Obj) → Prop) (ax : Addr) (its : Array Value) (m : Str → Option Value) (news : List (Addr × Obj)), xv = .ref ax ∧ Fr h₀ env.locals s₁.heap m ∧ News h₀ env.locals s₁.heap news ∧ (∀ i m nx, J i m nx → TupIn ax its nx) ∧ J 0 m news ∧
      (∀ i v m nx I oI h tk, i < its.size → its[i]? = some v → J i m nx → Fr h₀ env.locals h m → News h₀ env.locals h ((I, oI) :: nx) → (∀ p ∈ nx, p.1 ≠ I) →
        wpAny (model prog w) A (assign target env v) (fun _ s' => wpAny (model prog w) A (execs body env) (TurnEnd h₀ env.locals I oI (J (i + 1)) Q s₁) NoE' s') NoE' { s₁ with heap := h, toks := tk }) ∧
      (∀ m nx h tk, J its.size m nx → Fr h₀ env.locals h m → News h₀ env.locals h nx → Q .next { s₁ with heap := h, toks := tk })) E s)
    (hs : ∀ x, foldedSetIterable iter env x = pure x := by intro _; rfl) :
    wpAny (model prog w) A (exec (.For target iter body [] pos) env) Q E s := by
  refine wpAny_For (wpAny_mono h (fun xv s₁ h₁ => ?_) fun _ _ e => e) hs
  obtain ⟨J, ax, its, m, news, rfl, F, N, hJS, hJ, turn, done⟩ := h₁
  have hl := (hJS _ _ _ hJ).tup N
  have hlt : ax < s₁.heap.objs.size := by obtain ⟨_, e, _⟩ := hl; exact Heap.lt_size e
  refine wpAny_pyIter_tuple hl ?_
  have up : ∀ b o, s₁.heap.get? b = some o → (s₁.heap.push { cls := .type "tuple_iterator", data := .fields #[.ref ax, .int 0 0] }).get? b = some o := fun b o e => Heap.get?_push_of_some _ e
  exact loop_own (Walks.tuple hh s₁.heap.objs.size ax (Nat.ne_of_lt hlt) its) (fun i h st => by obtain ⟨o, e, _⟩ := st.1; exact ⟨o, e⟩) tuple_st (fun i s' v Q' E' st => hgo _ _ _ _ _ _ _ st.1) ⟨⟨_, Heap.get?_push_size _ rfl, rfl, rfl⟩, hl.push _⟩
    (F.keeps up) (N.grown up) (Nat.ne_of_lt F.ns.lt) (next_is_new F) (fun p hp => Nat.ne_of_lt (Heap.lt_size (N p hp).1)) J hJS hJ (fun i v m nx oI h tk => turn i v m nx _ oI h tk) done
/-- a for over a list of the ledger -/
theorem for_list {target iter : PySem.Expr} {body : List Stmt} {pos : Pos} {Q : Flow → Shared → Prop} (hh : A.handled = none)
    (hgo : ∀ I t i (s' : Shared) v (Q' : Unit → Shared → Prop) (E' : Value → Shared → Prop), s'.heap.IsListIter I t i → Q' () s' → wpAny (model prog w) A (letOwnedTupleGo target (.ref I) v) Q' E' s')
    (h : wpAny (model prog w) A (eval iter env) (fun xv s₁ => ∃ (J : Nat → (Str → Option Value) → List (Addr × Obj) → Prop) (ax : Addr) (its : Array Value) (m : Str → Option Value) (news : List (Addr × Obj)), xv = .ref ax ∧ Fr h₀ env.locals s₁.heap m ∧ News h₀ env.locals s₁.heap news ∧ (∀ i m nx, J i m nx → SrcAt h₀ ax its nx) ∧ J 0 m news ∧
      (∀ i v m nx I oI h tk, i < its.size → its[i]? = some v → J i m nx → Fr h₀ env.locals h m → News h₀ env.locals h ((I, oI) :: nx) → (∀ p ∈ nx, p.1 ≠ I) →
        wpAny (model prog w) A (assign target env v) (fun _ s' => wpAny (model prog w) A (execs body env) (TurnEnd h₀ env.locals I oI (J (i + 1)) Q s₁) NoE' s') NoE' { s₁ with heap := h, toks := tk }) ∧
      (∀ m nx h tk, J its.size m nx → Fr h₀ env.locals h m → News h₀ env.locals h nx → Q .next { s₁ with heap := h, toks := tk })) E s)
    (hs : ∀ x, foldedSetIterable iter env x = pure x := by intro _; rfl) :
    wpAny (model prog w) A (exec (.For target iter body [] pos) env) Q E s := by
  refine wpAny_For (wpAny_mono h (fun xv s₁ h₁ => ?_) fun _ _ e => e) hs
  obtain ⟨J, ax, its, m, news, rfl, F, N, hJS, hJ, turn, done⟩ := h₁
  have hl := (hJS _ _ _ hJ).list F.keep N
  have hlt : ax < s₁.heap.objs.size := by obtain ⟨_, e, _⟩ := hl; exact Heap.lt_size e
  refine wpAny_pyIter_list hl ?_
  have up : ∀ b o, s₁.heap.get? b = some o → (s₁.heap.push { cls := .type "list_iterator", data := .fields #[.ref ax, .int 0 0] }).get? b = some o := fun b o e => Heap.get?_push_of_some _ e
  exact loop_own (Walks.list hh s₁.heap.objs.size ax (Nat.ne_of_lt hlt) its) (fun i h st => by obtain ⟨o, e, _⟩ := st.1; exact ⟨o, e⟩) list_st (fun i s' v Q' E' st => hgo _ _ _ _ _ _ _ st.1) ⟨⟨_, Heap.get?_push_size _ rfl, rfl, rfl⟩, hl.push _⟩
    (F.keeps up) (N.grown up) (Nat.ne_of_lt F.ns.lt) (next_is_new F) (fun p hp => Nat.ne_of_lt (Heap.lt_size (N p hp).1)) J hJS hJ (fun i v m nx oI h tk => turn i v m nx _ oI h tk) done
/-- a for over a range by ones -/
theorem for_range {target iter : PySem.Expr} {body : List Stmt} {pos : Pos} {Q : Flow → Shared → Prop} (hh : A.handled = none)
    (hgo : ∀ I v, letOwnedTupleGo target (.ref I) v = pure ())
    (h : wpAny (model prog w) A (eval iter env) (fun xv s₁ => ∃ (J : Nat → (Str → Option Value) → List (Addr × Obj) → Prop) (r : Addr) (a b : Int) (t u v : Tok) (n : Nat) (m : Str → Option Value) (news : List (Addr × Obj)), xv = .ref r ∧ IsRange s₁.heap r a b 1 t u v ∧ Builtin.Range.small a b 1 = true ∧ Builtin.Range.rangeSize a b 1 = ((n : Nat) : Int) ∧ Fr h₀ env.locals s₁.heap m ∧ News h₀ env.locals s₁.heap news ∧ J 0 m news ∧
      (∀ i t m nx I oI h tk, i < n → J i m nx → Fr h₀ env.locals h m → News h₀ env.locals h ((I, oI) :: nx) → (∀ p ∈ nx, p.1 ≠ I) →
        wpAny (model prog w) A (assign target env (.int (a + (i : Nat)) t)) (fun _ s' => wpAny (model prog w) A (execs body env) (TurnEnd h₀ env.locals I oI (J (i + 1)) Q s₁) NoE' s') NoE' { s₁ with heap := h, toks := tk }) ∧
      (∀ m nx h tk, J n m nx → Fr h₀ env.locals h m → News h₀ env.locals h nx → Q .next { s₁ with heap := h, toks := tk })) E s)
    (hs : ∀ x, foldedSetIterable iter env x = pure x := by intro _; rfl) :
    wpAny (model prog w) A (exec (.For target iter body [] pos) env) Q E s := by
  refine wpAny_For (wpAny_mono h (fun xv s₁ h₁ => ?_) fun _ _ e => e) hs
  obtain ⟨J, r, a, b, t, u, v, n, m, news, rfl, hr, hsm, hn, F, N, hJ, turn, done⟩ := h₁
  refine wpAny_pyIter_range hr hsm ?_
  refine loop_own (S := fun _ => True) (range_walks hh a n) (fun i h st => ⟨_, st⟩) range_st (fun i s' v Q' E' st q => ?_) (by show IsRangeIter _ _ _ _ _; rw [hn]; simpa using Heap.get?_push_size _ rfl)
    (F.keeps fun _ _ e => Heap.get?_push_of_some _ e) (N.grown fun _ _ e => Heap.get?_push_of_some _ e) (Nat.ne_of_lt F.ns.lt) (next_is_new F) (fun p hp => Nat.ne_of_lt (Heap.lt_size (N p hp).1)) J (fun _ _ _ _ => trivial) hJ (fun i v m nx oI h tk hi hP hJ F N off => ?_) done
  · exact wpAny_of_eq (hgo _ _) q
  · obtain ⟨t, rfl⟩ := hP
    exact turn i t m nx _ oI h tk hi hJ F N off
theorem go_listP {elts : List PySem.Expr} {x1} {tp : Pos} : ∀ I t i (s' : Shared) v (Q' : Unit → Shared → Prop) (E' : Value → Shared → Prop), s'.heap.IsListIter I t i → Q' () s' → wpAny (model prog w) A (letOwnedTupleGo (.Tuple elts x1 tp) (.ref I) v) Q' E' s' :=
  fun I t i s' v Q' E' st q => by
    cases v with
    | ref T => exact wpAny_letOwnedTupleGo_listiter st q
    | _ => exact wpAny_pure q
theorem go_tupP {elts : List PySem.Expr} {x1} {tp : Pos} : ∀ I t i (s' : Shared) v (Q' : Unit → Shared → Prop) (E' : Value → Shared → Prop), s'.heap.IsTupleIter I t i → Q' () s' → wpAny (model prog w) A (letOwnedTupleGo (.Tuple elts x1 tp) (.ref I) v) Q' E' s' :=
  fun I t i s' v Q' E' st q => by
    cases v with
    | ref T =>
      obtain ⟨o, ho, hc, hd⟩ := id st
      show wpAny _ _ (load I >>= fun o => _) _ _ _
      refine wpAny_bind (wpAny_load ho ?_)
      rw [hc, hd]
      exact wpAny_pure q
    | _ => exact wpAny_pure q
theorem go_nameL {x : Str} {px : Pos} : ∀ I t i (s' : Shared) v (Q' : Unit → Shared → Prop) (E' : Value → Shared → Prop), s'.heap.IsListIter I t i → Q' () s' → wpAny (model prog w) A (letOwnedTupleGo (.Name x px) (.ref I) v) Q' E' s' :=
  fun I t i s' v Q' E' st q => wpAny_pure q
end
end Mine
end
section
open PySem PySem.W PyProof.Rows PySem.Calls PySem.Spec PyProof.Rows.LCg
set_option maxRecDepth 100000
namespace Mine
local macro_rules | `(tactic| ktr_unf) => `(tactic| first | assumption | (dsimp only; (repeat (first | (rw [if_pos (by decide)]) | (rw [if_neg (by decide)]))); first | rfl | assumption))
local macro_rules | `(tactic| k_all) => `(tactic| assumption)
local macro_rules | `(tactic| k_mem) => `(tactic| assumption)
example (w : World) (h : Heap) : (Mine.hd.heap_39 w.params).In h → rprog = PySem.Challenge.rw_wy0014_01.prog → True := by
  k_fill
  intros; trivial
section
variable {prog : Program} {w : World} {A : Around} {E : Value → Shared → Prop} {s : Shared} {env : Env} {h₀ : Heap} {m : Str → Option Value} {news : List (Addr × Obj)}
theorem store_own {y : Str} {v : Value} {Q : Unit → Shared → Prop} (F : Fr h₀ env.locals s.heap m) (N : News h₀ env.locals s.heap news) (hy : env.kindOf y = some .local) (hp : (env.scope.kind == .class || (env.scope.kind == .module && env.locals != env.globals)) = false)
    (h : ∀ h', Fr h₀ env.locals h' (fun z => if z = y then some v else m z) → News h₀ env.locals h' news → Q () { s with heap := h', toks := s.toks + 1 }) : wpAny (model prog w) A (storeName env y v) Q E s := by
  refine wpAny_storeName_local hy F.ns (fun h₂ hn₂ hs₂ => ?_) hp
  have hL₀ : h₀.get? env.locals = none := Heap.get?_none_of_le F.above
  exact h h₂ ⟨hn₂, fun b o e => hs₂.extBut b o (fun q => by rw [q, hL₀] at e; cases e) (F.keep b o e), F.above⟩ fun p hp => ⟨hs₂.extBut _ _ (N p hp).2.1 (N p hp).1, (N p hp).2⟩
theorem assign_name {y : Str} {py : Pos} {v : Value} {Q : Unit → Shared → Prop} (F : Fr h₀ env.locals s.heap m) (N : News h₀ env.locals s.heap news) (hy : env.kindOf y = some .local) (hp : (env.scope.kind == .class || (env.scope.kind == .module && env.locals != env.globals)) = false)
    (h : ∀ h' tk', Fr h₀ env.locals h' (fun z => if z = y then some v else m z) → News h₀ env.locals h' news → Q () { s with heap := h', toks := tk' }) : wpAny (model prog w) A (assign (.Name y py) env v) Q E s :=
  wpAny_assign_Name (store_own F N hy hp fun h' F' N' => h h' _ F' N')
theorem assign_two {x x₂ : Str} {px px₂ tp : Pos} {k} {t : Addr} {v₁ v₂ : Value} {Q : Unit → Shared → Prop} (hh : A.handled = none) (F : Fr h₀ env.locals s.heap m) (N : News h₀ env.locals s.heap news) (hx : env.kindOf x = some .local) (hx₂ : env.kindOf x₂ = some .local) (hp : (env.scope.kind == .class || (env.scope.kind == .module && env.locals != env.globals)) = false)
    (ht : TupIn t #[v₁, v₂] news)
    (h : ∀ h' tk', Fr h₀ env.locals h' (fun z => if z = x₂ then some v₂ else if z = x then some v₁ else m z) → News h₀ env.locals h' news → Q () { s with heap := h', toks := tk' }) : wpAny (model prog w) A (assign (.Tuple [.Name x px, .Name x₂ px₂] k tp) env (.ref t)) Q E s := by
  have ht' : IsTup s.heap t #[v₁, v₂] := by
    obtain ⟨o, hm, r⟩ := ht
    exact ⟨o, (N _ hm).1, r⟩
  refine assign_Tuple_tuple hh ht' rfl rfl fun h₅ he => ?_
  have he' : ∀ b o, s.heap.get? b = some o → h₅.get? b = some o := fun b o e => he b o (Nat.ne_of_lt (Heap.lt_size e)) e
  refine assignInOrder_cons (wpAny_assign_Name (store_own (F.keeps he') (N.grown he') hx hp fun h₆ F₆ N₆ => ?_))
  refine assignInOrder_cons (wpAny_assign_Name (store_own F₆ N₆ hx₂ hp fun h₇ F₇ N₇ => ?_))
  exact assignInOrder_nil (h h₇ _ F₇ N₇)
end
theorem allLt_mem {d : Nat} : ∀ {l : List (Addr × Obj)}, AllLt d l → ∀ p ∈ l, @LT.lt Nat _ p.1 d
  | [], _, _, h => nomatch h
  | _ :: _, x, p, h => by
    rcases List.mem_cons.mp h with rfl | h
    · exact x.1
    · exact allLt_mem x.2 p h
/-- what a row is after some numbers were put into it -/
noncomputable def Puts (xs ns ns' : List Int) : Prop := ns'.Pairwise (· < ·) ∧ (∀ z, z ∈ ns' ↔ z ∈ ns ∨ z ∈ xs) ∧ ns'.length ≤ ns.length + xs.length
theorem Puts.zero {ns : List Int} (h : ns.Pairwise (· < ·)) : Puts [] ns ns := ⟨h, fun z => by simp, by simp⟩
theorem Puts.snoc {xs ns ns' ns'' : List Int} {x : Int} (h : Puts xs ns ns') (k : PutTo x ns' ns'') : Puts (xs ++ [x]) ns ns'' := by
  refine ⟨k.1, fun z => ?_, ?_⟩
  · rw [k.2.1 z, h.2.1 z, List.mem_append, List.mem_singleton, or_assoc]
  · have h1 := h.2.2
    have h2 := k.2.2
    rw [List.length_append, List.length_singleton]
    lia
/-- the numbers of the pairs within three letters -/
noncomputable def pairNums (ts : List Int) : List Int := [(0, 1), (0, 2), (1, 2)].map fun (p : Nat × Nat) => row2.getD (ts.getD p.1 0).toNat 0 + ts.getD p.2 0
/-- three pairs of numbers, written -/
noncomputable def shE : PySem.Expr := match loopS 25 with | .For _ x _ _ _ => x | _ => default
noncomputable def shB : Stmt := (bodyOf (loopS 25)).getD 0 (.Pass default)
noncomputable abbrev pairObj (x y : Int) (t u : Tok) : Obj := { cls := .type "tuple", data := .seq #[.int x t, .int y u] }
section
variable {w : World} {mean : ExcName → Option Value} {mg mb : Str → Option Value} {g : Heap} {L a : Addr} {ccd : Value} {s : Shared} {m : Str → Option Value} {news : List (Addr × Obj)} {Q : Value → Shared → Prop} {E : Value → Shared → Prop}

set_option maxHeartbeats 4000000 in
theorem pairs_eval 
   (X : (Mine.hd.heap_39 w.params).In g) (T : Top Mine.hd.view_39 lo mean mg mb g) (F : Fr g L s.heap m) (N : News g L s.heap news)
   (hQ : ∀ T p1 p2 p3 t1 t2 t3 u1 u2 u3 h' tk', Fr g L h' m → News g L h' ((T, ({ cls := .type "tuple", data := .seq #[.ref p1, .ref p2, .ref p3] } : Obj)) :: (p3, pairObj 1 2 t3 u3) :: (p2, pairObj 0 2 t2 u2) :: (p1, pairObj 0 1 t1 u1) :: news) → (p1 ≠ p2 ∧ p1 ≠ p3 ∧ p2 ≠ p3 ∧ p1 ≠ T ∧ p2 ≠ T ∧ p3 ≠ T) → (∀ p ∈ news, p.1 ≠ p1 ∧ p.1 ≠ p2 ∧ p.1 ≠ p3 ∧ p.1 ≠ T) → Q (.ref T) { s with heap := h', toks := tk' }) :
   wpAny (model rprog w) (callerA.deeper (envOfC (Str.ofString "law") lawScope L a ccd)) (eval shE (envOfC (Str.ofString "law") lawScope L a ccd)) Q E s := by
  show wpAny _ _ (eval (.Tuple _ _ _) _) _ _ _
  w_strict (repeat' (first | (k_unfold; (try dsimp only)) | (k_end; wrow_close) | ((with_reducible show wpAny _ _ (eval (Expr.Name ..) _) _ _ _); (k_here; k_dflt (first | (refine' nameX_L ?zzF ?zzv ?_ ?zza ?zzb; (case zzF => k_asm); (case zza => rfl); (case zzb => rfl); (case zzv => ktr_unf); k_whole) | (refine' nameX_C ?zzN ?zzc ?zzm ?zzd ?_ ?zza ?zzb; (case zza => rfl); (case zzb => rfl); (case zzN => k_asm); (case zzc => rfl); (case zzm => first | k_mem | assumption); (case zzd => first | assumption | rfl); k_whole)))) | walk1 | (dsimp only; first | ((with_reducible show wpAny _ _ (eval (Expr.Name ..) _) _ _ _); (k_here; k_dflt (first | (refine' nameX_L ?zzF ?zzv ?_ ?zza ?zzb; (case zzF => k_asm); (case zza => rfl); (case zzb => rfl); (case zzv => ktr_unf); k_whole) | (refine' nameX_C ?zzN ?zzc ?zzm ?zzd ?_ ?zza ?zzb; (case zza => rfl); (case zzb => rfl); (case zzN => k_asm); (case zzc => rfl); (case zzm => first | k_mem | assumption); (case zzd => first | assumption | rfl); k_whole)))) | walk1) | (leave1; try dsimp only) | fail "no step"))
  rename_i q1 h1 l1 q2 h2 l2 q3 h3 l3 q4 h4 F4 N4 l4
  have l2' := allLt_mem l2.2
  have l3' := allLt_mem l3.2.2
  have l4' := allLt_mem l4.2.2.2
  exact hQ q4 q1 q2 q3 _ _ _ _ _ _ _ _ F4 N4 ⟨Nat.ne_of_lt l2.1, Nat.ne_of_lt l3.2.1, Nat.ne_of_lt l3.1, Nat.ne_of_lt l4.2.2.1, Nat.ne_of_lt l4.2.1, Nat.ne_of_lt l4.1⟩ fun p hp => ⟨Nat.ne_of_lt (l1 p hp), Nat.ne_of_lt (l2' p hp), Nat.ne_of_lt (l3' p hp), Nat.ne_of_lt (l4' p hp)⟩
end
local macro_rules | `(tactic| k_mem) => `(tactic| first | assumption | exact List.Mem.head _ | (refine List.mem_cons_of_mem _ ?_; k_mem))
section
variable {w : World} {mean : ExcName → Option Value} {mg mb : Str → Option Value} {g : Heap} {L a : Addr} {ccd : Value} {s : Shared} {m : Str → Option Value} {news : List (Addr × Obj)} {Q : Flow → Shared → Prop} {E : Value → Shared → Prop}

set_option maxHeartbeats 4000000 in
theorem put_turn {lw lt lsh l0 l1 l2 l3 : Addr} {oc : Obj} {v2 vt vsh : List Value} {nw n2 nt nsh : Nat} {ts sh : List Int} {hi lo' : Int} {th tl : Tok} (hc : (L + 1 + 1, oc) ∈ news) (hcd : oc.data = .cell (some (.ref lsh))) (hw : m (Str.ofString "ways") = some (.ref lw)) (hwm : (lw, listOf #[.ref l0, .ref l1, .ref l2, .ref l3] nw) ∈ news) (h2m : (l2, listOf v2.toArray n2) ∈ news) (h2i : IntsAre v2 row2) (ht : m (Str.ofString "tops") = some (.ref lt)) (htm : (lt, listOf vt.toArray nt) ∈ news) (hti : IntsAre vt ts) (hh : m (Str.ofString "high") = some (.int hi th)) (hl : m (Str.ofString "low") = some (.int lo' tl)) (g0 : 0 ≤ hi) (g1 : hi < ts.length) (g2 : 0 ≤ lo') (g3 : lo' < ts.length) (g4 : 0 ≤ ts.getD hi.toNat 0) (g5 : ts.getD hi.toNat 0 < row2.length) (gl : ts.length ≤ 1000) (hsi : IntsAre vsh sh) (hsl : sh.length ≤ 99) (hss : sh.Pairwise (· < ·)) (hne : ∀ p ∈ news, p.1 ≠ lsh) {base : Heap} (B : Below callerA base [] g)
   (X : (Mine.hd.heap_39 w.params).In g) (T : Top Mine.hd.view_39 lo mean mg mb g) (F : Fr g L s.heap m) (N : News g L s.heap ((lsh, listOf vsh.toArray nsh) :: news))
   (hQ : ∀ vs' ns' n' h' tk', IntsAre vs' ns' → PutTo (row2.getD (ts.getD hi.toNat 0).toNat 0 + ts.getD lo'.toNat 0) sh ns' → Fr g L h' m → News g L h' ((lsh, listOf vs'.toArray n') :: news) → Q .next { s with heap := h', toks := tk' }) :
   wpAny (model rprog w) (callerA.deeper (envOfC (Str.ofString "law") lawScope L a ccd)) (exec shB (envOfC (Str.ofString "law") lawScope L a ccd)) Q E s := by
  show wpAny _ _ (exec (Stmt.If _ _ _ _) _) _ _ _
  w_strict (repeat' (first | (k_unfold; (try dsimp only)) | (k_end; wrow_close) | ((with_reducible show wpAny _ _ (call (Value.ref _) _ _) _ _ _); (k_here; k_dflt (refine' law_put_spec ?zzB ?zzF ?zzX ?zzN ?zzT ?zzhk ?zzhdp ?zzhun ?zzhne ?zzhI ?zzhlen ?zzhS ?_; (case zzB => k_asm); (case zzF => k_asm); (case zzX => k_asm); (case zzN => k_asm); (case zzT => k_asm); (case zzhk => exact rfl); (case zzhne => assumption); (case zzhI => assumption); (case zzhlen => assumption); (case zzhS => assumption); (case zzhdp => decide); (case zzhun => decide); k_whole); intro _ _ _ _ _ _ _ _ _)) | ((with_reducible show wpAny _ _ (subscriptTail _ _ _ _) _ _ _); (k_here; k_dflt (first | (refine' item_any ?zzl ?zza ?zzb ?zzx ?_; (case zzl => exact list_at (by k_asm) (by k_mem)); (case zza => decide); (case zzb => decide); (case zzx => exact rfl); k_whole) | ((refine' item_ints ?zzl ?zzi ?zza ?zzb ?zzz ?_; (case zzl => exact list_at (by k_asm) (by k_mem)); (case zzi => assumption); (case zza => assumption); (case zzb => assumption); (case zzz => first | assumption | decide); k_whole); intro _)))) | ((with_reducible show wpAny _ _ (eval (Expr.Name ..) _) _ _ _); (k_here; k_dflt (first | (refine' nameX_L ?zzF ?zzv ?_ ?zza ?zzb; (case zzF => k_asm); (case zza => rfl); (case zzb => rfl); (case zzv => ktr_unf); k_whole) | (refine' nameX_C ?zzN ?zzc ?zzm ?zzd ?_ ?zza ?zzb; (case zza => rfl); (case zzb => rfl); (case zzN => k_asm); (case zzc => rfl); (case zzm => first | k_mem | assumption); (case zzd => first | assumption | rfl); k_whole)))) | walk1 | (dsimp only; first | ((with_reducible show wpAny _ _ (call (Value.ref _) _ _) _ _ _); (k_here; k_dflt (refine' law_put_spec ?zzB ?zzF ?zzX ?zzN ?zzT ?zzhk ?zzhdp ?zzhun ?zzhne ?zzhI ?zzhlen ?zzhS ?_; (case zzB => k_asm); (case zzF => k_asm); (case zzX => k_asm); (case zzN => k_asm); (case zzT => k_asm); (case zzhk => exact rfl); (case zzhne => assumption); (case zzhI => assumption); (case zzhlen => assumption); (case zzhS => assumption); (case zzhdp => decide); (case zzhun => decide); k_whole); intro _ _ _ _ _ _ _ _ _)) | ((with_reducible show wpAny _ _ (subscriptTail _ _ _ _) _ _ _); (k_here; k_dflt (first | (refine' item_any ?zzl ?zza ?zzb ?zzx ?_; (case zzl => exact list_at (by k_asm) (by k_mem)); (case zza => decide); (case zzb => decide); (case zzx => exact rfl); k_whole) | ((refine' item_ints ?zzl ?zzi ?zza ?zzb ?zzz ?_; (case zzl => exact list_at (by k_asm) (by k_mem)); (case zzi => assumption); (case zza => assumption); (case zzb => assumption); (case zzz => first | assumption | decide); k_whole); intro _)))) | ((with_reducible show wpAny _ _ (eval (Expr.Name ..) _) _ _ _); (k_here; k_dflt (first | (refine' nameX_L ?zzF ?zzv ?_ ?zza ?zzb; (case zzF => k_asm); (case zza => rfl); (case zzb => rfl); (case zzv => ktr_unf); k_whole) | (refine' nameX_C ?zzN ?zzc ?zzm ?zzd ?_ ?zza ?zzb; (case zza => rfl); (case zzb => rfl); (case zzN => k_asm); (case zzc => rfl); (case zzm => first | k_mem | assumption); (case zzd => first | assumption | rfl); k_whole)))) | walk1) | (leave1; try dsimp only) | fail "no step"))
  exact hQ _ _ _ _ _ (by assumption) (by assumption) (by assumption) (by assumption)
end
theorem three_items {a b c : Value} {i : Nat} {v : Value} (h : i < (#[a, b, c] : Array Value).size) (hv : (#[a, b, c] : Array Value)[i]? = some v) : (i = 0 ∧ v = a) ∨ (i = 1 ∧ v = b) ∨ (i = 2 ∧ v = c) := by
  match i, h with
  | 0, _ => exact .inl ⟨rfl, (Option.some.inj hv).symm⟩
  | 1, _ => exact .inr (.inl ⟨rfl, (Option.some.inj hv).symm⟩)
  | 2, _ => exact .inr (.inr ⟨rfl, (Option.some.inj hv).symm⟩)
section
variable {w : World} {mean : ExcName → Option Value} {mg mb : Str → Option Value} {g : Heap} {L a : Addr} {ccd : Value} {s : Shared} {m : Str → Option Value} {news : List (Addr × Obj)} {Q : Flow → Shared → Prop} {E : Value → Shared → Prop}

set_option maxHeartbeats 4000000 in
theorem st_put3 {lw lt lsh l0 l1 l2 l3 : Addr} {oc : Obj} {v2 vt vsh : List Value} {nw n2 nt nsh : Nat} {ts sh : List Int} (hc : (L + 1 + 1, oc) ∈ news) (hcd : oc.data = .cell (some (.ref lsh))) (hw : m (Str.ofString "ways") = some (.ref lw)) (hwm : (lw, listOf #[.ref l0, .ref l1, .ref l2, .ref l3] nw) ∈ news) (h2m : (l2, listOf v2.toArray n2) ∈ news) (h2i : IntsAre v2 row2) (ht : m (Str.ofString "tops") = some (.ref lt)) (htm : (lt, listOf vt.toArray nt) ∈ news) (hti : IntsAre vt ts) (gl : ts.length = 3) (gb : ∀ i, i < 3 → 0 ≤ ts.getD i 0 ∧ ts.getD i 0 < 8) (hsi : IntsAre vsh sh) (hsl : sh.length ≤ 90) (hss : sh.Pairwise (· < ·)) (hne : ∀ p ∈ news, p.1 ≠ lsh) {base : Heap} (B : Below callerA base [] g)
   (X : (Mine.hd.heap_39 w.params).In g) (T : Top Mine.hd.view_39 lo mean mg mb g) (F : Fr g L s.heap m) (N : News g L s.heap ((lsh, listOf vsh.toArray nsh) :: news))
   (hQ : ∀ m' vs' ns' n' h' tk', (∀ z, z ≠ (Str.ofString "high") → z ≠ (Str.ofString "low") → m' z = m z) → IntsAre vs' ns' → Puts (pairNums ts) sh ns' → Fr g L h' m' → News g L h' ((lsh, listOf vs'.toArray n') :: news) → Q .next { s with heap := h', toks := tk' }) :
   wpAny (model rprog w) (callerA.deeper (envOfC (Str.ofString "law") lawScope L a ccd)) (exec (loopS 25) (envOfC (Str.ofString "law") lawScope L a ccd)) Q E s := by
  show wpAny _ _ (exec (Stmt.For _ _ _ _ _) _) _ _ _
  have key : ∀ (I T p1 p2 p3 : Addr) (oI : Obj) (t1 t2 t3 u1 u2 u3 : Tok) (i : Nat) (v : Value), i < 3 → (#[.ref p1, .ref p2, .ref p3] : Array Value)[i]? = some v →
      ∃ q x y t u, v = .ref q ∧ (q, pairObj x y t u) ∈ [(p3, pairObj 1 2 t3 u3), (p2, pairObj 0 2 t2 u2), (p1, pairObj 0 1 t1 u1)] ∧ (pairNums ts).take (i + 1) = (pairNums ts).take i ++ [row2.getD (ts.getD x.toNat 0).toNat 0 + ts.getD y.toNat 0] ∧ 0 ≤ x ∧ x < 3 ∧ 0 ≤ y ∧ y < 3 := by
    intro I T p1 p2 p3 oI t1 t2 t3 u1 u2 u3 i v hi hv
    rcases three_items (by simpa using hi) hv with ⟨rfl, rfl⟩ | ⟨rfl, rfl⟩ | ⟨rfl, rfl⟩
    · exact ⟨p1, 0, 1, t1, u1, rfl, by simp, rfl, by decide, by decide, by decide, by decide⟩
    · exact ⟨p2, 0, 2, t2, u2, rfl, by simp, rfl, by decide, by decide, by decide, by decide⟩
    · exact ⟨p3, 1, 2, t3, u3, rfl, by simp, rfl, by decide, by decide, by decide, by decide⟩
  refine for_tuple (h₀ := g) rfl go_tupP ?_ (by intro _; rfl)
  refine pairs_eval X T F N fun T0 p1 p2 p3 t1 t2 t3 u1 u2 u3 h1 tk1 F1 N1 ne1 of1 => ?_
  refine ⟨fun i m' nx => ∃ vs ns nn, (∀ z, z ≠ (Str.ofString "high") → z ≠ (Str.ofString "low") → m' z = m z) ∧ IntsAre vs ns ∧ Puts ((pairNums ts).take i) sh ns ∧
      nx = (lsh, listOf (List.toArray vs) nn) :: (T0, ({ cls := .type "tuple", data := .seq #[.ref p1, .ref p2, .ref p3] } : Obj)) :: (p3, pairObj 1 2 t3 u3) :: (p2, pairObj 0 2 t2 u2) :: (p1, pairObj 0 1 t1 u1) :: news,
    T0, #[.ref p1, .ref p2, .ref p3], m, _, rfl, F1, ?_, ?_, ⟨vsh, sh, nsh, fun _ _ _ => rfl, hsi, Puts.zero hss, rfl⟩, ?_, ?_⟩
  · intro p hp
    refine N1 p ?_
    simp only [List.mem_cons] at hp ⊢
    rcases hp with h | h | h | h | h | h
    · exact .inr (.inr (.inr (.inr (.inl h))))
    · exact .inl h
    · exact .inr (.inl h)
    · exact .inr (.inr (.inl h))
    · exact .inr (.inr (.inr (.inl h)))
    · exact .inr (.inr (.inr (.inr (.inr h))))
  · rintro i m' nx ⟨vs, ns, nn, _, _, _, rfl⟩
    exact ⟨_, List.mem_cons_of_mem _ List.mem_cons_self, rfl, _, rfl⟩
  · rintro i v m' nx I oI h tk hi hv ⟨vs, ns, nn, hm', hvs, hps, rfl⟩ F2 N2 off2
    obtain ⟨q, x, y, t, u, rfl, hq, hsn, x0, x1, y0, y1⟩ := key I T0 p1 p2 p3 oI t1 t2 t3 u1 u2 u3 i v hi hv
    have up : ∀ p ∈ news, p ∈ (I, oI) :: (T0, ({ cls := .type "tuple", data := .seq #[.ref p1, .ref p2, .ref p3] } : Obj)) :: (p3, pairObj 1 2 t3 u3) :: (p2, pairObj 0 2 t2 u2) :: (p1, pairObj 0 1 t1 u1) :: news := fun p hp =>
      List.mem_cons_of_mem _ (List.mem_cons_of_mem _ (List.mem_cons_of_mem _ (List.mem_cons_of_mem _ (List.mem_cons_of_mem _ hp))))
    have lne := of1 (lsh, listOf vsh.toArray nsh) List.mem_cons_self
    have ln2 := off2 (lsh, listOf (List.toArray vs) nn) List.mem_cons_self
    have hln : ns.length ≤ 99 := by
      have e1 := hps.2.2
      have e2 : ((pairNums ts).take i).length ≤ 3 := by rw [List.length_take]; exact Nat.min_le_right _ _
      lia
    refine assign_two (v₁ := .int x t) (v₂ := .int y u) rfl F2 N2 rfl rfl rfl ⟨_, List.mem_cons_of_mem _ (List.mem_cons_of_mem _ (List.mem_cons_of_mem _ (List.mem_append_left news hq))), rfl, _, rfl⟩ fun h3 tk3 F3 N3 => ?_
    show wpAny _ _ (execs [shB] _) _ _ _
    have N3' : News g L h3 ((lsh, listOf (List.toArray vs) nn) :: (I, oI) :: (T0, ({ cls := .type "tuple", data := .seq #[.ref p1, .ref p2, .ref p3] } : Obj)) :: (p3, pairObj 1 2 t3 u3) :: (p2, pairObj 0 2 t2 u2) :: (p1, pairObj 0 1 t1 u1) :: news) := by
      intro p hp
      refine N3 p ?_
      simp only [List.mem_cons] at hp ⊢
      rcases hp with h | h | h
      · exact .inr (.inl h)
      · exact .inl h
      · exact .inr (.inr h)
    refine wpAny_execs_cons (put_turn (th := t) (tl := u) (hi := x) (lo' := y) (up _ hc) hcd ?_ (up _ hwm) (up _ h2m) h2i ?_ (up _ htm) hti ?_ ?_ x0 ?_ y0 ?_ (gb _ (by lia)).1 (gb _ (by lia)).2 ?_ hvs hln hps.1 ?_ B X T F3 N3' fun vs' ns' n' h4 tk4 hi4 hp4 F4 N4 => ?_)
    · show (if _ then _ else _) = _
      rw [if_neg (by decide), if_neg (by decide), hm' _ (by decide) (by decide)]
      exact hw
    · show (if _ then _ else _) = _
      rw [if_neg (by decide), if_neg (by decide), hm' _ (by decide) (by decide)]
      exact ht
    · show (if _ then _ else _) = _
      rw [if_neg (by decide), if_pos rfl]
    · show (if _ then _ else _) = _
      rw [if_pos rfl]
    · rw [gl]; exact x1
    · rw [gl]; exact y1
    · rw [gl]; decide
    · intro p hp
      simp only [List.mem_cons] at hp
      rcases hp with rfl | rfl | rfl | rfl | rfl | hp
      · exact ln2.symm
      · exact lne.2.2.2.symm
      · exact lne.2.2.1.symm
      · exact lne.2.1.symm
      · exact lne.1.symm
      · exact hne p hp
    · refine wpAny_execs_nil (TurnEnd.intro F4 (fun p hp => N4 p ?_) (fun p hp => ?_) ⟨vs', ns', n', fun z z1 z2 => ?_, hi4, ?_, rfl⟩)
      · simp only [List.mem_cons] at hp ⊢
        rcases hp with h | h | h
        · exact .inr (.inl h)
        · exact .inl h
        · exact .inr (.inr h)
      · rcases List.mem_cons.mp hp with rfl | hp
        · exact ln2
        · exact off2 p (List.mem_cons_of_mem _ hp)
      · show (if _ then _ else _) = _
        rw [if_neg z2, if_neg z1]
        exact hm' z z1 z2
      · rw [hsn]
        exact hps.snoc hp4
  · rintro m' nx h tk ⟨vs, ns, nn, hm', hvs, hps, rfl⟩ F2 N2
    refine hQ m' vs ns nn h tk hm' hvs ?_ F2 fun p hp => N2 p ?_
    · rwa [List.take_of_length_le (Nat.le_refl 3)] at hps
    · rcases List.mem_cons.mp hp with rfl | hp
      · exact List.mem_cons_self
      · exact List.mem_cons_of_mem _ (List.mem_cons_of_mem _ (List.mem_cons_of_mem _ (List.mem_cons_of_mem _ (List.mem_cons_of_mem _ hp))))
end
end Mine
end
section
open PySem PySem.W PyProof.Rows PySem.Calls PySem.Spec PyProof.Rows.LCg
set_option maxRecDepth 100000
namespace Mine
local macro_rules | `(tactic| ktr_unf) => `(tactic| first | assumption | (dsimp only; (repeat (first | (rw [if_pos (by decide)]) | (rw [if_neg (by decide)]))); first | rfl | assumption))
local macro_rules | `(tactic| k_all) => `(tactic| assumption)
local macro_rules | `(tactic| k_mem) => `(tactic| assumption)
example (w : World) (h : Heap) : (Mine.hd.heap_39 w.params).In h → rprog = PySem.Challenge.rw_wy0014_01.prog → True := by
  k_fill
  intros; trivial
theorem sz_ok {vd : List Value} (h : vd.length ≤ 100) : vd.toArray.size ≤ sizeLine := by rw [sizeLine_eq, List.size_toArray]; lia
theorem pick_len (vd : List Value) (lo hi : Option Int) : (kms_pick vd lo hi).length ≤ vd.length := by
  unfold kms_pick; rw [List.length_take, List.length_drop]; lia
theorem sz_rot {vd : List Value} {a b c d : Option Int} (h : vd.length ≤ 100) : (kms_pick vd a b).toArray.toList.length + (kms_pick vd c d).toArray.toList.length ≤ sizeLine := by
  have h1 := pick_len vd a b
  have h2 := pick_len vd c d
  simp only [sizeLine_eq]; lia
local macro_rules | `(tactic| k_mem) => `(tactic| first | assumption | exact List.Mem.head _ | (refine List.mem_cons_of_mem _ ?_; k_mem))
section
variable {w : World} {mean : ExcName → Option Value} {mg mb : Str → Option Value} {g : Heap} {L a : Addr} {ccd : Value} {s : Shared} {m : Str → Option Value} {news : List (Addr × Obj)} {Q : Flow → Shared → Prop} {E : Value → Shared → Prop}

set_option maxHeartbeats 4000000 in
theorem st_rot {n : Int} {t : Tok} {lw : Addr} {vd : List Value} {nd : Nat} (hn : m (Str.ofString "dress") = some (.int n t)) (hw : m (Str.ofString "words") = some (.ref lw)) (hd : (lw, listOf vd.toArray nd) ∈ news) (hsz : vd.length ≤ 100)
   (X : (Mine.hd.heap_39 w.params).In g) (T : Top Mine.hd.view_39 lo mean mg mb g) (F : Fr g L s.heap m) (N : News g L s.heap news)
   (hQ : ∀ D h' tk', Fr g L h' (fun y => if y = (Str.ofString "words") then some (.ref D) else m y) → News g L h' ((D, listOf (kms_pick vd (some (n.fmod 3)) none ++ kms_pick vd none (some (n.fmod 3))).toArray 0) :: news) → (∀ p ∈ news, p.1 ≠ D) → Q .next { s with heap := h', toks := tk' }) :
   wpAny (model rprog w) (callerA.deeper (envOfC (Str.ofString "law") lawScope L a ccd)) (exec (loopS 5) (envOfC (Str.ofString "law") lawScope L a ccd)) Q E s := by
  show wpAny _ _ (exec (Stmt.Assign _ _ _) _) _ _ _
  w_strict (repeat' (first | (k_unfold; (try dsimp only)) | (k_end; wrow_close) | ((with_reducible show wpAny _ _ (binaryOp .Add (Value.ref _) (Value.ref _)) _ _ _); (k_here; k_dflt (refine' kmk_add_lit ?zzF ?zzN ?zza ?zzb ?zze ?_ ?zzz; (case zzF => k_asm); (case zzN => k_asm); (case zza => exact list_at (by k_asm) (by k_mem)); (case zzb => exact list_at (by k_asm) (List.Mem.head _)); (case zze => exact rfl); (case zzz => exact sz_rot (by assumption)); k_whole); intro _ _ _ _ _)) | ((with_reducible show wpAny _ _ (subscriptTail _ _ _ _) _ _ _); (k_here; k_dflt (refine' kms_slice_lit ?zzF ?zzN ?zzl ?zzp ?zzq ?zze ?_ ?zzs ?zzt ?zzz; (case zzF => k_asm); (case zzN => k_asm); (case zzl => exact list_at (by k_asm) (by k_mem)); (case zzp => kmk_part); (case zzq => kmk_part); (case zze => exact rfl); (case zzs => with_unfolding_all rfl); (case zzt => kmk_pure); (case zzz => exact sz_ok (by assumption)); k_whole); intro _ _ _ _ _)) | ((with_reducible show wpAny _ _ (eval (Expr.Name ..) _) _ _ _); (k_here; k_dflt (first | (refine' nameX_L ?zzF ?zzv ?_ ?zza ?zzb; (case zzF => k_asm); (case zza => rfl); (case zzb => rfl); (case zzv => ktr_unf); k_whole) | (refine' nameX_C ?zzN ?zzc ?zzm ?zzd ?_ ?zza ?zzb; (case zza => rfl); (case zzb => rfl); (case zzN => k_asm); (case zzc => rfl); (case zzm => first | k_mem | assumption); (case zzd => first | assumption | rfl); k_whole)))) | walk1 | (dsimp only; first | ((with_reducible show wpAny _ _ (binaryOp .Add (Value.ref _) (Value.ref _)) _ _ _); (k_here; k_dflt (refine' kmk_add_lit ?zzF ?zzN ?zza ?zzb ?zze ?_ ?zzz; (case zzF => k_asm); (case zzN => k_asm); (case zza => exact list_at (by k_asm) (by k_mem)); (case zzb => exact list_at (by k_asm) (List.Mem.head _)); (case zze => exact rfl); (case zzz => exact sz_rot (by assumption)); k_whole); intro _ _ _ _ _)) | ((with_reducible show wpAny _ _ (subscriptTail _ _ _ _) _ _ _); (k_here; k_dflt (refine' kms_slice_lit ?zzF ?zzN ?zzl ?zzp ?zzq ?zze ?_ ?zzs ?zzt ?zzz; (case zzF => k_asm); (case zzN => k_asm); (case zzl => exact list_at (by k_asm) (by k_mem)); (case zzp => kmk_part); (case zzq => kmk_part); (case zze => exact rfl); (case zzs => with_unfolding_all rfl); (case zzt => kmk_pure); (case zzz => exact sz_ok (by assumption)); k_whole); intro _ _ _ _ _)) | ((with_reducible show wpAny _ _ (eval (Expr.Name ..) _) _ _ _); (k_here; k_dflt (first | (refine' nameX_L ?zzF ?zzv ?_ ?zza ?zzb; (case zzF => k_asm); (case zza => rfl); (case zzb => rfl); (case zzv => ktr_unf); k_whole) | (refine' nameX_C ?zzN ?zzc ?zzm ?zzd ?_ ?zza ?zzb; (case zza => rfl); (case zzb => rfl); (case zzN => k_asm); (case zzc => rfl); (case zzm => first | k_mem | assumption); (case zzd => first | assumption | rfl); k_whole)))) | walk1) | (leave1; try dsimp only) | fail "no step"))
  rename_i d2 h3 l12 d1 h2 l11 d0 h1 l10 h0 F9 N9
  refine hQ _ _ _ F9 (fun p hp => N9 p ?_) fun p hp => Nat.ne_of_lt (l10 p (List.mem_cons_of_mem _ (List.mem_cons_of_mem _ hp)))
  rcases List.mem_cons.mp hp with rfl | hp
  · exact List.mem_cons_self
  · exact List.mem_cons_of_mem _ (List.mem_cons_of_mem _ (List.mem_cons_of_mem _ hp))
end
end Mine
end
section
open PySem PySem.W PyProof.Rows PySem.Calls PySem.Spec PyProof.Rows.LCg
set_option maxRecDepth 100000
namespace Mine
local macro_rules | `(tactic| ktr_unf) => `(tactic| first | assumption | (dsimp only; (repeat (first | (rw [if_pos (by decide)]) | (rw [if_neg (by decide)]))); first | rfl | assumption))
local macro_rules | `(tactic| k_all) => `(tactic| assumption)
local macro_rules | `(tactic| k_mem) => `(tactic| assumption)
example (w : World) (h : Heap) : (Mine.hd.heap_39 w.params).In h → rprog = PySem.Challenge.rw_wy0014_01.prog → True := by
  k_fill
  intros; trivial
noncomputable def sidE : PySem.Expr := valueOf (lawS 7)
local macro_rules | `(tactic| k_mem) => `(tactic| first | assumption | exact List.Mem.head _ | (refine List.mem_cons_of_mem _ ?_; k_mem))
section
variable {w : World} {mean : ExcName → Option Value} {mg mb : Str → Option Value} {g : Heap} {L a : Addr} {ccd : Value} {s : Shared} {m : Str → Option Value} {news : List (Addr × Obj)} {Q : Value → Shared → Prop} {E : Value → Shared → Prop}

set_option maxHeartbeats 4000000 in
theorem sid_i1 {C D : Addr} {oC : Obj} {mC : Str → Option Value} {ys : List Value} {cl : List (Str × Addr)} (hC : NsObj oC mC)
   (X : (Mine.hd.heap_39 w.params).In g) (T : Top Mine.hd.view_39 lo mean mg mb g) (F : Fr g L s.heap m) (N : News g L s.heap ((C, oC) :: (D, lst ys) :: news))
   (hQ : ∀ T p1 p2 p3 t1 t2 t3 u1 u2 u3 h' tk', Fr g L h' m → News g L h' ((T, ({ cls := .type "tuple", data := .seq #[.ref p1, .ref p2, .ref p3] } : Obj)) :: (p3, pairObj 1 2 t3 u3) :: (p2, pairObj 0 2 t2 u2) :: (p1, pairObj 0 1 t1 u1) :: (C, oC) :: (D, lst ys) :: news) → (p1 ≠ p2 ∧ p1 ≠ p3 ∧ p2 ≠ p3 ∧ p1 ≠ T ∧ p2 ≠ T ∧ p3 ≠ T) → (∀ p ∈ (C, oC) :: (D, lst ys) :: news, p.1 ≠ p1 ∧ p.1 ≠ p2 ∧ p.1 ≠ p3 ∧ p.1 ≠ T) → Q (.ref T) { s with heap := h', toks := tk' }) :
   wpAny (model rprog w) (callerA.deeper (envOfC (Str.ofString "law") lawScope L a ccd)) (eval (iterOf sidE 1) (compEnvC (lcScope sidE) cl C (envOfC (Str.ofString "law") lawScope L a ccd))) Q E s := by
  show wpAny _ _ (eval (.Tuple _ _ _) _) _ _ _
  w_strict (repeat' (first | (k_unfold; (try dsimp only)) | (k_end; wrow_close) | ((with_reducible show wpAny _ _ (subscriptTail _ _ _ _) _ _ _); (k_here; k_dflt (first | (refine' item_any ?zzl ?zza ?zzb ?zzx ?_; (case zzl => exact list_at (by k_asm) (by k_mem)); (case zzx => assumption); (case zza => lia); (case zzb => lia); k_whole) | (refine' item_tupA ?zzl ?zza ?zzb ?zzx ?_; (case zzl => exact tup_at (by k_asm) (by k_mem)); (case zzx => assumption); (case zza => lia); (case zzb => lia); k_whole)))) | ((with_reducible show wpAny _ _ (eval (Expr.Name ..) _) _ _ _); (k_here; k_dflt (first | (refine' nameX_L ?zzF ?zzv ?_ ?zza ?zzb; (case zzF => k_asm); (case zza => rfl); (case zzb => rfl); (case zzv => ktr_unf); k_whole) | (refine' nameX_C ?zzN ?zzc ?zzm ?zzd ?_ ?zza ?zzb; (case zza => rfl); (case zzb => rfl); (case zzN => k_asm); (case zzc => rfl); (case zzm => first | k_mem | assumption); (case zzd => first | assumption | rfl); k_whole)))) | walk1 | (dsimp only; first | ((with_reducible show wpAny _ _ (subscriptTail _ _ _ _) _ _ _); (k_here; k_dflt (first | (refine' item_any ?zzl ?zza ?zzb ?zzx ?_; (case zzl => exact list_at (by k_asm) (by k_mem)); (case zzx => assumption); (case zza => lia); (case zzb => lia); k_whole) | (refine' item_tupA ?zzl ?zza ?zzb ?zzx ?_; (case zzl => exact tup_at (by k_asm) (by k_mem)); (case zzx => assumption); (case zza => lia); (case zzb => lia); k_whole)))) | ((with_reducible show wpAny _ _ (eval (Expr.Name ..) _) _ _ _); (k_here; k_dflt (first | (refine' nameX_L ?zzF ?zzv ?_ ?zza ?zzb; (case zzF => k_asm); (case zza => rfl); (case zzb => rfl); (case zzv => ktr_unf); k_whole) | (refine' nameX_C ?zzN ?zzc ?zzm ?zzd ?_ ?zza ?zzb; (case zza => rfl); (case zzb => rfl); (case zzN => k_asm); (case zzc => rfl); (case zzm => first | k_mem | assumption); (case zzd => first | assumption | rfl); k_whole)))) | walk1) | (leave1; try dsimp only) | fail "no step"))
  rename_i q1 h1 l1 q2 h2 l2 q3 h3 l3 q4 h4 F4 N4 l4
  have a1 := allLt_mem (l := (C, oC) :: (D, lst ys) :: news) l1
  have a2 := allLt_mem (l := (C, oC) :: (D, lst ys) :: news) l2.2
  have a3 := allLt_mem (l := (C, oC) :: (D, lst ys) :: news) l3.2.2
  have a4 := allLt_mem (l := (C, oC) :: (D, lst ys) :: news) l4.2.2.2
  exact hQ q4 q1 q2 q3 _ _ _ _ _ _ _ _ F4 N4 ⟨Nat.ne_of_lt l2.1, Nat.ne_of_lt l3.2.1, Nat.ne_of_lt l3.1, Nat.ne_of_lt l4.2.2.1, Nat.ne_of_lt l4.2.1, Nat.ne_of_lt l4.1⟩ fun p hp => ⟨Nat.ne_of_lt (a1 p hp), Nat.ne_of_lt (a2 p hp), Nat.ne_of_lt (a3 p hp), Nat.ne_of_lt (a4 p hp)⟩

set_option maxHeartbeats 4000000 in
theorem sid_elt {C D lt tp : Addr} {oC oc : Obj} {mC : Str → Option Value} {ys vt : List Value} {nt np : Nat} {its : Array Value} {r hi lw x y : Int} {tr th tl tx ty : Tok} (hC : NsObj oC mC) (hr : mC (Str.ofString "rank") = some (.int r tr)) (hh : mC (Str.ofString "high") = some (.int hi th)) (hl : mC (Str.ofString "low") = some (.int lw tl)) (hc : (L + 1, oc) ∈ news) (hcd : oc.data = .cell (some (.ref lt))) (hlt : (lt, listOf vt.toArray nt) ∈ news) (hv : vt.toArray[r.toNat]? = some (.ref tp)) (hp : (tp, ({ cls := .type "tuple", data := .seq its np } : Obj)) ∈ news) (hx : its[hi.toNat]? = some (.int x tx)) (hy : its[lw.toNat]? = some (.int y ty)) (r0 : 0 ≤ r) (r1 : r < 100) (i0 : 0 ≤ hi) (i1 : hi < 100) (j0 : 0 ≤ lw) (j1 : lw < 100)
   (X : (Mine.hd.heap_39 w.params).In g) (T : Top Mine.hd.view_39 lo mean mg mb g) (F : Fr g L s.heap m) (N : News g L s.heap ((C, oC) :: (D, lst ys) :: news))
   (hQ : ∀ q h' tk', Fr g L h' m → News g L h' ((q, pairObj x y tx ty) :: (C, oC) :: (D, lst ys) :: news) → (∀ p ∈ (C, oC) :: (D, lst ys) :: news, p.1 ≠ q) → Q (.ref q) { s with heap := h', toks := tk' }) :
   wpAny (model rprog w) (callerA.deeper (envOfC (Str.ofString "law") lawScope L a ccd)) (eval (eltOf sidE) (compEnvC (lcScope sidE) [((Str.ofString "triples"), L + 1)] C (envOfC (Str.ofString "law") lawScope L a ccd))) Q E s := by
  show wpAny _ _ (eval (.Tuple _ _ _) _) _ _ _
  w_strict (repeat' (first | (k_unfold; (try dsimp only)) | (k_end; wrow_close) | ((with_reducible show wpAny _ _ (subscriptTail _ _ _ _) _ _ _); (k_here; k_dflt (first | (refine' item_any ?zzl ?zza ?zzb ?zzx ?_; (case zzl => exact list_at (by k_asm) (by k_mem)); (case zzx => assumption); (case zza => lia); (case zzb => lia); k_whole) | (refine' item_tupA ?zzl ?zza ?zzb ?zzx ?_; (case zzl => exact tup_at (by k_asm) (by k_mem)); (case zzx => assumption); (case zza => lia); (case zzb => lia); k_whole)))) | ((with_reducible show wpAny _ _ (eval (Expr.Name ..) _) _ _ _); (k_here; k_dflt (first | (refine' nameX_L ?zzF ?zzv ?_ ?zza ?zzb; (case zzF => k_asm); (case zza => rfl); (case zzb => rfl); (case zzv => ktr_unf); k_whole) | (refine' nameX_C ?zzN ?zzc ?zzm ?zzd ?_ ?zza ?zzb; (case zza => rfl); (case zzb => rfl); (case zzN => k_asm); (case zzc => rfl); (case zzm => first | k_mem | assumption); (case zzd => first | assumption | rfl); k_whole)))) | walk1 | (dsimp only; first | ((with_reducible show wpAny _ _ (subscriptTail _ _ _ _) _ _ _); (k_here; k_dflt (first | (refine' item_any ?zzl ?zza ?zzb ?zzx ?_; (case zzl => exact list_at (by k_asm) (by k_mem)); (case zzx => assumption); (case zza => lia); (case zzb => lia); k_whole) | (refine' item_tupA ?zzl ?zza ?zzb ?zzx ?_; (case zzl => exact tup_at (by k_asm) (by k_mem)); (case zzx => assumption); (case zza => lia); (case zzb => lia); k_whole)))) | ((with_reducible show wpAny _ _ (eval (Expr.Name ..) _) _ _ _); (k_here; k_dflt (first | (refine' nameX_L ?zzF ?zzv ?_ ?zza ?zzb; (case zzF => k_asm); (case zza => rfl); (case zzb => rfl); (case zzv => ktr_unf); k_whole) | (refine' nameX_C ?zzN ?zzc ?zzm ?zzd ?_ ?zza ?zzb; (case zza => rfl); (case zzb => rfl); (case zzN => k_asm); (case zzc => rfl); (case zzm => first | k_mem | assumption); (case zzd => first | assumption | rfl); k_whole)))) | walk1) | (leave1; try dsimp only) | fail "no step"))
  rename_i q4 h4 F4 N4 l4
  have a4 := allLt_mem (l := (C, oC) :: (D, lst ys) :: news) l4
  exact hQ q4 _ _ F4 N4 fun p hp => Nat.ne_of_lt (a4 p hp)
end
end Mine
end
section
open PySem PySem.W PyProof.Rows PySem.Calls PySem.Spec PyProof.Rows.LCg
set_option maxRecDepth 100000
namespace Mine
section
variable {prog : Program} {w : World} {A : Around} {R : Result → Shared → Prop} {s : Shared} {x0 target iter elt : PySem.Expr} {gens : List Comprehension} {scope : Scope} {pos : Pos} {d : Nat} {it acc : Value} {env : Env}
/-- the innermost clause, its target any -/
theorem loop_leafT (heq : compTurn (.ListComp x0 gens scope pos) d it acc env = leafTurn (.ListComp x0 gens scope pos) d target iter elt it acc env) (I : Nat → Shared → Prop)
    (turn : ∀ n s, I n s → wpAny (model prog w) A (pyNext it) (fun r s₁ => match r with
      | none => R (.ok .next) s₁
      | some v => wpAny (model prog w) A (letOwnedTupleGo target it v) (fun _ s' => wpAny (model prog w) A (assign target env v) (fun _ s₂ => wpAny (model prog w) A (eval elt env) (fun x s₃ =>
          wpAny (model prog w) A (call (.builtin "list.append") [acc, x]) (fun _ s₄ => ∃ m, m < n ∧ I m s₄) NoE s₃) NoE s₂) NoE s') NoE s₁) NoE s)
    (n : Nat) (h : I n s) :
    codeAny (model prog w) A (.compLoop (.ListComp x0 gens scope pos) d it acc env) R s := by
  refine codeAny_loop rfl I (fun n s hI => ?_) n h
  show wpAny _ A ((compTurn (.ListComp x0 gens scope pos) d it acc env).onRaise (fun x => do noteFrame x env; theTreesLotGoes x)) _ _ s
  refine wpAny_noted ?_
  rw [heq]
  refine wpAny_bind (wpAny_standAt (wpAny_bind (wpAny_mono (turn n s hI) (fun r s₁ h₁ => ?_) fun _ _ h' => h'.elim)))
  cases r with
  | none => exact wpAny_pure h₁
  | some v =>
    refine wpAny_bind (wpAny_mono h₁ (fun _ s' h₁' => ?_) fun _ _ h' => h'.elim)
    exact wpAny_bind (wpAny_mono h₁' (fun _ s₂ h₂ => wpAny_bind (wpAny_bind (wpAny_mono h₂ (fun x s₃ h₃ => wpAny_bind (wpAny_mono h₃
      (fun _ s₄ h₄ => wpAny_pure (wpAny_pure ⟨rfl, h₄⟩)) fun _ _ h' => h'.elim)) fun _ _ h' => h'.elim))) fun _ _ h' => h'.elim)
end
section
variable {prog : Program} {w : World} {A : Around} {s : Shared} {h₀ : Heap} {L C D I : Addr} {m mC : Str → Option Value} {ys : List Value} {extra : List (Addr × Obj)}
theorem CSt.but {h h' : Heap} (st : CSt h₀ L m C D mC ys extra h) (hk : ∀ b o, b ∉ [I] → h.get? b = some o → h'.get? b = some o) (iC : I ≠ C) (iD : I ≠ D) (iL : I ≠ L) (i0 : h₀.get? I = none) (ix : ∀ p ∈ extra, p.1 ≠ I) : CSt h₀ L m C D mC ys extra h' :=
  ⟨fr_but st.fr hk iL.symm i0, news_but st.led hk ix, hk D _ (by simpa using iD.symm) st.dl, st.ns.at' fun o e => hk C o (by simpa using iC.symm) e, st.cd, st.cl, st.dL, st.c0, st.d0, st.offs⟩
/-- a whole clause over any walked source, by what holds after i of its items -/
theorem level_w {TURN : Value → Shared → (Shared → Prop) → Prop} {Code0 : (Shared → Prop) → Prop} {J : Nat → (Str → Option Value) → List Value → List (Addr × Obj) → Prop} {fp : List Addr} {n : Nat} {P : Nat → Value → Prop} {St : Nat → Heap → Prop} {Sx : List (Addr × Obj) → Prop}
    (loop : ∀ (R0 : Shared → Prop) (Inv : Nat → Shared → Prop), (∀ k s, Inv k s → wpAny (model prog w) A (pyNext (.ref I)) (fun r s₁ => match r with
        | none => R0 s₁
        | some v => TURN v s₁ (fun s₅ => ∃ m, m < k ∧ Inv m s₅)) NoE s) → ∀ k, Inv k s → Code0 R0)
    (W : Walks prog w A I fp [I] n P St) (hIo : ∀ i h, St i h → ∃ o, h.get? I = some o ∧ o.cls ≠ .type "tuple")
    (hSt : ∀ i h h' o nw, St i h → h.get? I = some o → h'.get? I = some o → (∀ b o, h₀.get? b = some o → h'.get? b = some o) → News h₀ L h' nw → Sx nw → St i h')
    (st : CSt h₀ L m C D mC ys extra s.heap) (hI : St 0 s.heap) (iC : I ≠ C) (iD : I ≠ D) (iL : I ≠ L) (i0 : h₀.get? I = none) (ix : ∀ p ∈ extra, p.1 ≠ I) (hJS : ∀ i mC ys extra, J i mC ys extra → Sx extra) (hJ : J 0 mC ys extra)
    (body : ∀ i v mC ys extra h tk o (K : Shared → Prop), i < n → P i v → J i mC ys extra → CSt h₀ L m C D mC ys ((I, o) :: extra) h → St (i + 1) h → (∀ p ∈ extra, p.1 ≠ I) → o.cls ≠ .type "tuple" →
      (∀ mC' ys' extra' h' tk', CSt h₀ L m C D mC' ys' ((I, o) :: extra') h' → (∀ p ∈ extra', p.1 ≠ I) → J (i + 1) mC' ys' extra' → K { s with heap := h', toks := tk' }) → TURN v { s with heap := h, toks := tk } K)
    {R0 : Shared → Prop} (done : ∀ mC' ys' extra' h' tk', CSt h₀ L m C D mC' ys' extra' h' → J n mC' ys' extra' → R0 { s with heap := h', toks := tk' }) : Code0 R0 := by
  refine loop R0 (fun k s' => ∃ i mC ys extra h tk, s' = { s with heap := h, toks := tk } ∧ i ≤ n ∧ k = n - i ∧ CSt h₀ L m C D mC ys extra h ∧ St i h ∧ (∀ p ∈ extra, p.1 ≠ I) ∧ J i mC ys extra) ?_ n
    ⟨0, mC, ys, extra, s.heap, s.toks, rfl, Nat.zero_le _, (Nat.sub_zero _).symm, st, hI, ix, hJ⟩
  rintro k s' ⟨i, mC, ys, extra, h, tk, rfl, hi, rfl, st, hI, ix, hJ⟩
  by_cases hlt : i < n
  · refine W.item i _ _ _ hlt hI fun v h₂ tk₂ hPv hst₂ hk₂ => ?_
    have st₂ := st.but hk₂ iC iD iL i0 ix
    obtain ⟨o, ho, hoc⟩ := hIo _ _ hst₂
    refine body i v mC ys extra h₂ tk₂ o _ hlt hPv hJ ⟨st₂.fr, fun p hp => ?_, st₂.dl, st₂.ns, st₂.cd, st₂.cl, st₂.dL, st₂.c0, st₂.d0, fun p hp => ?_⟩ hst₂ ix hoc fun mC' ys' extra' h' tk' st' ix' hJ' => ?_
    · rcases List.mem_cons.mp hp with rfl | hp
      · exact ⟨ho, iL, i0⟩
      · exact st₂.led p hp
    · rcases List.mem_cons.mp hp with rfl | hp
      · exact ⟨iC, iD⟩
      · exact st₂.offs p hp
    · have eI := (st'.led (I, o) List.mem_cons_self).1
      have N' : News h₀ L h' extra' := fun p hp => st'.led p (List.mem_cons_of_mem _ hp)
      exact ⟨n - (i + 1), by omega, i + 1, mC', ys', extra', h', tk', rfl, hlt, rfl, ⟨st'.fr, N', st'.dl, st'.ns, st'.cd, st'.cl, st'.dL, st'.c0, st'.d0, fun p hp => st'.offs p (List.mem_cons_of_mem _ hp)⟩,
        hSt _ _ _ _ _ hst₂ ho eI st'.fr.keep N' (hJS _ _ _ _ hJ'), ix', hJ'⟩
  · obtain rfl : i = n := Nat.le_antisymm hi (Nat.not_lt.mp hlt)
    exact W.done _ _ _ hI fun h₂ tk₂ hk₂ => done _ _ _ _ _ (st.but hk₂ iC iD iL i0 ix) hJ
end
end Mine
end
section
open PySem PySem.W PyProof.Rows PySem.Calls PySem.Spec PyProof.Rows.LCg
set_option maxRecDepth 100000
namespace Mine
section
variable {w : World} {mean : ExcName → Option Value} {mg mb : Str → Option Value} {g : Heap} {L a : Addr} {ccd : Value} {s : Shared} {m : Str → Option Value} {news : List (Addr × Obj)}
noncomputable abbrev lawA (L a : Addr) (ccd : Value) : Around := callerA.deeper (envOfC (Str.ofString "law") lawScope L a ccd)
noncomputable abbrev lawE (L a : Addr) (ccd : Value) : Env := envOfC (Str.ofString "law") lawScope L a ccd
/-- a clause starts: its range's iterator is made, and stands for itself -/
theorem clause_start {prog : Program} {A : Around} {x0 target iter : PySem.Expr} {gens : List Comprehension} {scope : Scope} {pos : Pos} {d : Nat} {r D C : Addr} {cl : List (Str × Addr)} {env : Env} {b : Int} {n : Nat} {t u v : Tok} {mC : Str → Option Value} {ys : List Value} {extra : List (Addr × Obj)} {K : Shared → Prop} {ifs : List PySem.Expr}
    (hg : (clausesOf (.ListComp x0 gens scope pos))[d]? = some ⟨target, iter, ifs, 0⟩) (hh : A.handled = none)
    (st : CSt g L m C D mC ys extra s.heap) (hr : IsRange s.heap r 0 b 1 t u v) (hsm : Builtin.Range.small 0 b 1 = true) (hn : Builtin.Range.rangeSize 0 b 1 = ((n : Nat) : Int))
    (run : ∀ I h, CSt g L m C D mC ys extra h → IsRangeIter h I 0 n 1 → I ≠ C → I ≠ D → I ≠ L → g.get? I = none → (∀ p ∈ extra, p.1 ≠ I) →
      codeAny (model prog w) A (.compLoop (.ListComp x0 gens scope pos) d (.ref I) (.ref D) (compEnvC scope cl C env)) (fun r s₅ => ∃ f, r = .ok f ∧ K s₅) { s with heap := h }) :
    wpAny (model prog w) A (pyIter (.ref r)) (fun it2 s₄ => codeAny (model prog w) A (.compStart (.ListComp x0 gens scope pos) d it2 (.ref D) (compEnvC scope cl C env)) (fun r s₅ => ∃ f, r = .ok f ∧ K s₅) s₄) NoE s := by
  have lt : ∀ {b o}, s.heap.get? b = some o → s.heap.objs.size ≠ b := fun e => Nat.ne_of_gt (Heap.lt_size e)
  obtain ⟨oC, hC, NN⟩ := st.ledger
  have key : ∀ h, CSt g L m C D mC ys extra h → IsRangeIter h s.heap.objs.size 0 n 1 →
      codeAny (model prog w) A (.compStart (.ListComp x0 gens scope pos) d (.ref s.heap.objs.size) (.ref D) (compEnvC scope cl C env)) (fun r s₅ => ∃ f, r = .ok f ∧ K s₅) { s with heap := h } := fun h st' it => by
    have go := run s.heap.objs.size h st' it (lt (NN _ List.mem_cons_self).1) (lt st.dl) (Nat.ne_of_gt st.fr.ns.lt) (next_is_new st.fr) (fun p hp => Ne.symm (lt (st.led p hp).1))
    refine start_any hg go ?_
    have W := range_walks (prog := prog) (w := w) (A := A) (I := s.heap.objs.size) hh 0 n
    exact W.self 0 _ _ _ (by simpa using it) go
  refine wpAny_pyIter_range hr hsm ?_
  exact key _ (st.push _) (by show IsRangeIter _ _ _ _ _; rw [hn]; exact Heap.get?_push_size _ rfl)
end
end Mine
end
section
open PySem PySem.W PyProof.Rows PySem.Calls PySem.Spec PyProof.Rows.LCg
set_option maxRecDepth 100000
namespace Mine
/-- a ledger grown by things that are none of its own -/
noncomputable def Grown (extra extra' : List (Addr × Obj)) : Prop := ∃ pre, extra' = pre ++ extra ∧ ∀ p ∈ pre, ∀ q ∈ extra, p.1 ≠ q.1
theorem Grown.refl {extra : List (Addr × Obj)} : Grown extra extra := ⟨[], rfl, fun _ h => nomatch h⟩
theorem Grown.cons {extra extra' : List (Addr × Obj)} {p : Addr × Obj} (h : Grown extra extra') (hp : ∀ q ∈ extra', p.1 ≠ q.1) : Grown extra (p :: extra') := by
  obtain ⟨pre, rfl, h⟩ := h
  refine ⟨p :: pre, rfl, fun r hr q hq => ?_⟩
  rcases List.mem_cons.mp hr with rfl | hr
  · exact hp q (List.mem_append_right _ hq)
  · exact h r hr q hq
theorem Grown.trans {a b c : List (Addr × Obj)} (h : Grown a b) (k : Grown b c) : Grown a c := by
  obtain ⟨p, rfl, h⟩ := h
  obtain ⟨q, rfl, k⟩ := k
  refine ⟨q ++ p, by rw [List.append_assoc], fun r hr z hz => ?_⟩
  rcases List.mem_append.mp hr with hr | hr
  · exact k r hr z (List.mem_append_right _ hz)
  · exact h r hr z hz
theorem Grown.sub {a b : List (Addr × Obj)} (h : Grown a b) : ∀ p ∈ a, p ∈ b := by
  obtain ⟨p, rfl, _⟩ := h
  exact fun q hq => List.mem_append_right _ hq
/-- out of a grown ledger, one thing of the old taken off -/
theorem Grown.off {extra extra' : List (Addr × Obj)} {I : Addr} {o : Obj} (h : Grown ((I, o) :: extra) extra') (ix : ∀ p ∈ extra, p.1 ≠ I) : ∃ e2, Grown extra e2 ∧ (∀ p ∈ e2, p.1 ≠ I) ∧ (∀ p, p ∈ extra' ↔ p = (I, o) ∨ p ∈ e2) := by
  obtain ⟨pre, rfl, h⟩ := h
  refine ⟨pre ++ extra, ⟨pre, rfl, fun p hp q hq => h p hp q (List.mem_cons_of_mem _ hq)⟩, fun p hp => ?_, fun p => ?_⟩
  · rcases List.mem_append.mp hp with hp | hp
    · exact h p hp _ List.mem_cons_self
    · exact ix p hp
  · simp only [List.mem_append, List.mem_cons]
    constructor
    · rintro (h | h | h)
      · exact .inr (.inl h)
      · exact .inl h
      · exact .inr (.inr h)
    · rintro (h | h | h)
      · exact .inr (.inl h)
      · exact .inl h
      · exact .inr (.inr h)
section
variable {w : World} {mean : ExcName → Option Value} {mg mb : Str → Option Value} {g : Heap} {L a : Addr} {ccd : Value} {s : Shared} {m : Str → Option Value} {p p0 p1 p2 : Pos} {cl : List (Str × Addr)} {C D I : Addr}
noncomputable abbrev triL (p p0 p1 p2 : Pos) : PySem.Expr := .ListComp (eltOf triE) [⟨.Name (Str.ofString "c") p0, iterOf triE 0, [], 0⟩, ⟨.Name (Str.ofString "b") p1, iterOf triE 1, [], 0⟩, ⟨.Name (Str.ofString "a") p2, iterOf triE 2, [], 0⟩] (lcScope triE) p
noncomputable abbrev triC (L a : Addr) (ccd : Value) (cl : List (Str × Addr)) (C : Addr) : Env := compEnvC (lcScope triE) cl C (lawE L a ccd)
theorem tri_append {K : Shared → Prop} {mC : Str → Option Value} {ys : List Value} {extra : List (Addr × Obj)} {h : Heap} {q : Addr} {oq : Obj} {tk : Nat} (hl : ys.length ≤ 100) (st : CSt g L m C D mC ys extra h) (hq : h.get? q = some oq) (qC : q ≠ C) (qD : q ≠ D) (qL : q ≠ L) (q0 : g.get? q = none)
    (hK : ∀ h', CSt g L m C D mC (ys ++ [.ref q]) ((q, oq) :: extra) h' → K { s with heap := h', toks := tk }) :
    wpAny (model rprog w) (lawA L a ccd) (call (.builtin "list.append") [.ref D, .ref q]) (fun _ s' => K s') NoE { s with heap := h, toks := tk } := by
  refine append_at (hsz := by show ys.toArray.size ≤ sizeLine; rw [List.size_toArray, sizeLine_eq]; lia) st.dl fun h₅ hs₅ hD₅ => hK h₅ ?_
  refine ⟨st.fr.change hs₅ st.dL st.d0, fun r hr => ?_, hD₅.trans (congrArg some (lst_snoc ys _)), st.ns.sameBut hs₅ st.cd, st.cd, st.cl, st.dL, st.c0, st.d0, fun r hr => ?_⟩
  · rcases List.mem_cons.mp hr with rfl | hr
    · exact ⟨hs₅.extBut _ _ qD hq, qL, q0⟩
    · exact ⟨hs₅.extBut _ _ (st.offs r hr).2 (st.led r hr).1, (st.led r hr).2⟩
  · rcases List.mem_cons.mp hr with rfl | hr
    · exact ⟨qC, qD⟩
    · exact st.offs r hr
theorem CSt.mono {h : Heap} {mC : Str → Option Value} {ys : List Value} {e1 e2 : List (Addr × Obj)} (st : CSt g L m C D mC ys e2 h) (k : ∀ p ∈ e1, p ∈ e2) : CSt g L m C D mC ys e1 h :=
  ⟨st.fr, fun p hp => st.led p (k p hp), st.dl, st.ns, st.cd, st.cl, st.dL, st.c0, st.d0, fun p hp => st.offs p (k p hp)⟩
theorem rows_len : ∀ c, c < 6 → ∀ b, b < 6 → (rowC c ++ rowB c b).length ≤ 60 := by decide
theorem lvl2 (X : (Mine.hd.heap_39 w.params).In g) (T : Top Mine.hd.view_39 lo mean mg mb g) {c b : Nat} {tc tb : Tok} {mC : Str → Option Value} {ys : List Value} {extra : List (Addr × Obj)} {K : Shared → Prop}
    (hc6 : c < 6) (hbc : b < c) (st : CSt g L m C D mC ys extra s.heap) (hI : IsRangeIter s.heap I 0 b 1) (iC : I ≠ C) (iD : I ≠ D) (iL : I ≠ L) (i0 : g.get? I = none) (ix : ∀ p ∈ extra, p.1 ≠ I)
    (hcv : mC (Str.ofString "c") = some (.int c tc)) (hbv : mC (Str.ofString "b") = some (.int b tb)) (hT : TriAre extra ys (rowC c ++ rowB c b))
    (done : ∀ mC' ys' extra' h' tk', CSt g L m C D mC' ys' extra' h' → mC' (Str.ofString "c") = some (.int c tc) → Grown extra extra' → TriAre extra' ys' (rowC c ++ rowB c (b + 1)) → K { s with heap := h', toks := tk' }) :
    codeAny (model rprog w) (lawA L a ccd) (.compLoop (triL p p0 p1 p2) 2 (.ref I) (.ref D) (triC L a ccd cl C)) (fun r s₅ => ∃ f, r = .ok f ∧ K s₅) s := by
  refine level (x := Str.ofString "a") (px := p2) (Code0 := fun R0 => codeAny (model rprog w) (lawA L a ccd) (.compLoop (triL p p0 p1 p2) 2 (.ref I) (.ref D) (triC L a ccd cl C)) (fun r s₅ => ∃ f, r = .ok f ∧ R0 s₅) s)
    (INNER := fun s₂ K => wpAny (model rprog w) (lawA L a ccd) (eval (eltOf triE) (triC L a ccd cl C)) (fun y s₃ => wpAny (model rprog w) (lawA L a ccd) (call (.builtin "list.append") [.ref D, y]) (fun _ s₄ => K s₄) NoE s₃) NoE s₂)
    (J := fun i mC ys extra' => mC (Str.ofString "c") = some (.int c tc) ∧ mC (Str.ofString "b") = some (.int b tb) ∧ Grown extra extra' ∧ ys.length ≤ 60 + i ∧ TriAre extra' ys (rowC c ++ rowB c b ++ rowA c b i))
    (fun R0 Inv turn k hk => loop_leaf (turn3_2 _ _ _ _ _ _ _ _ _ _ _ _) Inv (fun k s' hs' => wpAny_mono (turn k s' hs') (fun r s₁ hr => by
      cases r with
      | none => exact ⟨_, rfl, hr⟩
      | some v => exact hr) fun _ _ e => e) k hk (fun _ => rfl)) rfl rfl rfl st hI iC iD iL i0 ix ⟨hcv, hbv, .refl, ?_, by simpa [rowA] using hT⟩ (fun i hi t mC ys extra' h tk o K' hJ st' ix' ho k => ?_) (fun mC' ys' extra' h' tk' st' hJ => ?_)
  · rw [Paired.length hT]
    have := rows_len c hc6 b (by lia)
    lia
  · obtain ⟨hcv', hbv', hg, hlen, hT'⟩ := hJ
    obtain ⟨oC, hoC, NN⟩ := st'.ledger
    have nc : (fun z => if z = Str.ofString "a" then some (Value.int (0 + (i : Nat)) t) else mC z) (Str.ofString "c") = some (.int c tc) := by
      show (if Str.ofString "c" = Str.ofString "a" then _ else _) = _
      rw [if_neg (by decide)]; exact hcv'
    have nb : (fun z => if z = Str.ofString "a" then some (Value.int (0 + (i : Nat)) t) else mC z) (Str.ofString "b") = some (.int b tb) := by
      show (if Str.ofString "b" = Str.ofString "a" then _ else _) = _
      rw [if_neg (by decide)]; exact hbv'
    have na : (fun z => if z = Str.ofString "a" then some (Value.int (0 + (i : Nat)) t) else mC z) (Str.ofString "a") = some (.int i t) := by
      show (if Str.ofString "a" = Str.ofString "a" then _ else _) = _
      rw [if_pos rfl, Int.zero_add]
    refine tri_elt (s := { s with heap := h, toks := tk }) X T st'.fr NN hoC nc nb na fun q h' tk' F' N' hlt => ?_
    obtain ⟨lc, ld, la⟩ := hlt
    have lt := ktn_ltOf la
    have Nq := N' _ List.mem_cons_self
    have st2 := st'.back hoC F' (fun r hr => N' r (List.mem_cons_of_mem _ hr))
    have hi6 : i < 6 := by lia
    refine tri_append (s := s) (tk := tk') (by lia) st2 Nq.1 (Nat.ne_of_gt lc) (Nat.ne_of_gt ld) Nq.2.1 Nq.2.2 fun h'' st3 => ?_
    refine k _ _ ((q, ({ cls := .type "tuple", data := .seq #[.int c tc, .int b tb, .int i t] } : Obj)) :: extra') h'' tk' (st3.mono fun p hp => ?_) (fun p hp => ?_) ⟨nc, nb, hg.cons fun r hr => Nat.ne_of_gt (lt r (List.mem_cons_of_mem _ hr)), by rw [List.length_append, List.length_singleton]; lia, ?_⟩
    · rcases List.mem_cons.mp hp with rfl | hp
      · exact List.mem_cons_of_mem _ List.mem_cons_self
      · rcases List.mem_cons.mp hp with rfl | hp
        · exact List.mem_cons_self
        · exact List.mem_cons_of_mem _ (List.mem_cons_of_mem _ hp)
    · rcases List.mem_cons.mp hp with rfl | hp
      · exact Nat.ne_of_gt (lt _ List.mem_cons_self)
      · exact ix' p hp
    · rw [rowA_succ, ← List.append_assoc]
      exact Paired.snoc (hT'.more fun p hp => List.mem_cons_of_mem _ hp) ⟨q, tc, tb, t, rfl, List.mem_cons_self⟩
  · refine done _ _ _ _ _ st' hJ.1 hJ.2.2.1 ?_
    rw [rowB_succ, ← List.append_assoc]
    exact hJ.2.2.2.2
theorem TriAre.off {e2 e3 : List (Addr × Obj)} {o : Obj} {ys : List Value} {l : List (Int × Int × Int)} (h : TriAre e2 ys l) (ho : o.cls ≠ .type "tuple") (k : ∀ p, p ∈ e2 ↔ p = (I, o) ∨ p ∈ e3) : TriAre e3 ys l := by
  induction h with
  | nil => exact .nil
  | cons hh _ ih =>
    obtain ⟨q, t1, t2, t3, e, hm⟩ := hh
    rcases (k _).mp hm with h | h
    · exact absurd (congrArg (fun p : Addr × Obj => p.2.cls) h).symm ho
    · exact .cons ⟨q, t1, t2, t3, e, h⟩ ih
theorem small_rng {n : Nat} (h : n ≤ 100) : Builtin.Range.small 0 (n : Int) 1 = true ∧ Builtin.Range.rangeSize 0 (n : Int) 1 = ((n : Nat) : Int) := by
  have : ∀ n, n ≤ 100 → Builtin.Range.small 0 ((n : Nat) : Int) 1 = true ∧ Builtin.Range.rangeSize 0 ((n : Nat) : Int) 1 = ((n : Nat) : Int) := by decide
  exact this n h
theorem lvl1 (X : (Mine.hd.heap_39 w.params).In g) (T : Top Mine.hd.view_39 lo mean mg mb g) {c : Nat} {tc : Tok} {mC : Str → Option Value} {ys : List Value} {extra : List (Addr × Obj)} {K : Shared → Prop}
    (hc6 : c < 6) (st : CSt g L m C D mC ys extra s.heap) (hI : IsRangeIter s.heap I 0 c 1) (iC : I ≠ C) (iD : I ≠ D) (iL : I ≠ L) (i0 : g.get? I = none) (ix : ∀ p ∈ extra, p.1 ≠ I)
    (hcv : mC (Str.ofString "c") = some (.int c tc)) (hT : TriAre extra ys (rowC c))
    (done : ∀ mC' ys' extra' h' tk', CSt g L m C D mC' ys' extra' h' → Grown extra extra' → TriAre extra' ys' (rowC (c + 1)) → K { s with heap := h', toks := tk' }) :
    codeAny (model rprog w) (lawA L a ccd) (.compLoop (triL p p0 p1 p2) 1 (.ref I) (.ref D) (triC L a ccd cl C)) (fun r s₅ => ∃ f, r = .ok f ∧ K s₅) s := by
  refine level (x := Str.ofString "b") (px := p1) (Code0 := fun R0 => codeAny (model rprog w) (lawA L a ccd) (.compLoop (triL p p0 p1 p2) 1 (.ref I) (.ref D) (triC L a ccd cl C)) (fun r s₅ => ∃ f, r = .ok f ∧ R0 s₅) s)
    (INNER := fun s₂ K => wpAny (model rprog w) (lawA L a ccd) (eval (iterOf triE 2) (triC L a ccd cl C)) (fun x s₃ => wpAny (model rprog w) (lawA L a ccd) (pyIter x) (fun it2 s₄ => codeAny (model rprog w) (lawA L a ccd) (.compStart (triL p p0 p1 p2) 2 it2 (.ref D) (triC L a ccd cl C)) (fun r s₅ => ∃ f, r = .ok f ∧ K s₅) s₄) NoE s₃) NoE s₂)
    (J := fun i mC ys extra' => mC (Str.ofString "c") = some (.int c tc) ∧ Grown extra extra' ∧ TriAre extra' ys (rowC c ++ rowB c i))
    (fun R0 Inv turn k hk => loop_nest (turn3_1 _ _ _ _ _ _ _ _ _ _ _ _) Inv (fun k s' hs' => wpAny_mono (turn k s' hs') (fun r s₁ hr => by
      cases r with
      | none => exact ⟨_, rfl, hr⟩
      | some v => exact hr) fun _ _ e => e) k hk (fun _ => rfl) (fun _ => rfl)) rfl rfl rfl st hI iC iD iL i0 ix ⟨hcv, .refl, by simpa [rowB] using hT⟩ (fun i hi t mC ys extra' h tk o K' hJ st' ix' ho k => ?_) (fun mC' ys' extra' h' tk' st' hJ => ?_)
  · obtain ⟨hcv', hg, hT'⟩ := hJ
    obtain ⟨oC, hoC, NN⟩ := st'.ledger
    have nc : (fun z => if z = Str.ofString "b" then some (Value.int (0 + (i : Nat)) t) else mC z) (Str.ofString "c") = some (.int c tc) := by
      show (if Str.ofString "c" = Str.ofString "b" then _ else _) = _
      rw [if_neg (by decide)]; exact hcv'
    have nb : (fun z => if z = Str.ofString "b" then some (Value.int (0 + (i : Nat)) t) else mC z) (Str.ofString "b") = some (.int i t) := by
      show (if Str.ofString "b" = Str.ofString "b" then _ else _) = _
      rw [if_pos rfl, Int.zero_add]
    refine tri_i2 (s := { s with heap := h, toks := tk }) X T st'.fr NN hoC nb (by lia) (by lia) fun r t1 u1 v1 h' tk' hr F' N' => ?_
    have st2 := st'.back hoC F' N'
    obtain ⟨q1, q2⟩ := small_rng (n := i) (by lia)
    refine clause_start (s := { s with heap := h', toks := tk' }) (d := 2) rfl rfl st2 hr q1 q2 fun I2 h2 st3 hI2 i2C i2D i2L i20 i2x => ?_
    refine lvl2 (s := { s with heap := h2, toks := tk' }) X T hc6 hi st3 hI2 i2C i2D i2L i20 i2x nc nb (hT'.more fun p hp => List.mem_cons_of_mem _ hp) fun mC4 ys4 e4 h4 tk4 st4 hc4 hg4 hT4 => ?_
    obtain ⟨e3, g3, x3, k3⟩ := hg4.off ix'
    exact k mC4 ys4 e3 h4 tk4 (st4.mono fun p hp => by
      rcases List.mem_cons.mp hp with rfl | hp
      · exact (k3 _).mpr (.inl rfl)
      · exact (k3 _).mpr (.inr hp)) x3 ⟨hc4, hg.trans g3, hT4.off ho k3⟩
  · refine done _ _ _ _ _ st' hJ.2.1 ?_
    rw [rowC_succ]
    exact hJ.2.2
theorem lvl0 (X : (Mine.hd.heap_39 w.params).In g) (T : Top Mine.hd.view_39 lo mean mg mb g) {mC : Str → Option Value} {extra : List (Addr × Obj)} {K : Shared → Prop}
    (st : CSt g L m C D mC [] extra s.heap) (hI : IsRangeIter s.heap I 0 6 1) (iC : I ≠ C) (iD : I ≠ D) (iL : I ≠ L) (i0 : g.get? I = none) (ix : ∀ p ∈ extra, p.1 ≠ I)
    (done : ∀ mC' ys' extra' h' tk', CSt g L m C D mC' ys' extra' h' → Grown extra extra' → TriAre extra' ys' (rowC 6) → K { s with heap := h', toks := tk' }) :
    codeAny (model rprog w) (lawA L a ccd) (.compLoop (triL p p0 p1 p2) 0 (.ref I) (.ref D) (triC L a ccd cl C)) (fun r s₅ => ∃ f, r = .ok f ∧ K s₅) s := by
  refine level (n := 6) (x := Str.ofString "c") (px := p0) (Code0 := fun R0 => codeAny (model rprog w) (lawA L a ccd) (.compLoop (triL p p0 p1 p2) 0 (.ref I) (.ref D) (triC L a ccd cl C)) (fun r s₅ => ∃ f, r = .ok f ∧ R0 s₅) s)
    (INNER := fun s₂ K => wpAny (model rprog w) (lawA L a ccd) (eval (iterOf triE 1) (triC L a ccd cl C)) (fun x s₃ => wpAny (model rprog w) (lawA L a ccd) (pyIter x) (fun it2 s₄ => codeAny (model rprog w) (lawA L a ccd) (.compStart (triL p p0 p1 p2) 1 it2 (.ref D) (triC L a ccd cl C)) (fun r s₅ => ∃ f, r = .ok f ∧ K s₅) s₄) NoE s₃) NoE s₂)
    (J := fun i mC ys extra' => Grown extra extra' ∧ TriAre extra' ys (rowC i))
    (fun R0 Inv turn k hk => loop_nest (turn3_0 _ _ _ _ _ _ _ _ _ _ _ _) Inv (fun k s' hs' => wpAny_mono (turn k s' hs') (fun r s₁ hr => by
      cases r with
      | none => exact ⟨_, rfl, hr⟩
      | some v => exact hr) fun _ _ e => e) k hk (fun _ => rfl) (fun _ => rfl)) rfl rfl rfl st hI iC iD iL i0 ix ⟨.refl, .nil⟩ (fun i hi t mC ys extra' h tk o K' hJ st' ix' ho k => ?_) (fun mC' ys' extra' h' tk' st' hJ => ?_)
  · obtain ⟨hg, hT'⟩ := hJ
    obtain ⟨oC, hoC, NN⟩ := st'.ledger
    have nc : (fun z => if z = Str.ofString "c" then some (Value.int (0 + (i : Nat)) t) else mC z) (Str.ofString "c") = some (.int i t) := by
      show (if Str.ofString "c" = Str.ofString "c" then _ else _) = _
      rw [if_pos rfl, Int.zero_add]
    refine tri_i1 (s := { s with heap := h, toks := tk }) X T st'.fr NN hoC nc (by lia) (by lia) fun r t1 u1 v1 h' tk' hr F' N' => ?_
    have st2 := st'.back hoC F' N'
    obtain ⟨q1, q2⟩ := small_rng (n := i) (by lia)
    refine clause_start (s := { s with heap := h', toks := tk' }) (d := 1) rfl rfl st2 hr q1 q2 fun I2 h2 st3 hI2 i2C i2D i2L i20 i2x => ?_
    refine lvl1 (s := { s with heap := h2, toks := tk' }) X T hi st3 hI2 i2C i2D i2L i20 i2x nc (hT'.more fun p hp => List.mem_cons_of_mem _ hp) fun mC4 ys4 e4 h4 tk4 st4 hg4 hT4 => ?_
    obtain ⟨e3, g3, x3, k3⟩ := hg4.off ix'
    exact k mC4 ys4 e3 h4 tk4 (st4.mono fun p hp => by
      rcases List.mem_cons.mp hp with rfl | hp
      · exact (k3 _).mpr (.inl rfl)
      · exact (k3 _).mpr (.inr hp)) x3 ⟨hg.trans g3, hT4.off ho k3⟩
  · exact done _ _ _ _ _ st' hJ.1 hJ.2
end
end Mine
end
section
open PySem PySem.W PyProof.Rows PySem.Calls PySem.Spec PyProof.Rows.LCg
set_option maxRecDepth 100000
namespace Mine
section
variable {prog : Program} {w : World} {A : Around} {E : Value → Shared → Prop} {s : Shared} {h₀ : Heap} {L C D I : Addr} {m mC : Str → Option Value} {ys : List Value} {extra : List (Addr × Obj)} {env : Env} {scope : Scope} {cl : List (Str × Addr)}
theorem CSt.grow {h h' : Heap} (st : CSt h₀ L m C D mC ys extra h) (k : ∀ b o, h.get? b = some o → h'.get? b = some o) : CSt h₀ L m C D mC ys extra h' :=
  ⟨st.fr.keeps k, st.led.grown k, k _ _ st.dl, st.ns.at' fun o e => k _ _ e, st.cd, st.cl, st.dL, st.c0, st.d0, st.offs⟩
theorem storeC {x : Str} {v : Value} {Q : Unit → Shared → Prop} (st : CSt h₀ L m C D mC ys extra s.heap) (hx : scope.names.lookup x = some .local) (hkind : scope.kind = .function)
    (h : ∀ h', CSt h₀ L m C D (fun z => if z = x then some v else mC z) ys extra h' → Q () { s with heap := h', toks := s.toks + 1 }) : wpAny (model prog w) A (storeName (compEnvC scope cl C env) x v) Q E s := by
  refine wpAny_storeName_local (lookup_relabel_local hx) st.ns (fun h₃ hn₃ hs₃ => ?_) (by simp [compEnvC, relabel, hkind])
  have keep : ∀ b o, b ≠ C → s.heap.get? b = some o → h₃.get? b = some o := fun b o hb e => hs₃.extBut b o hb e
  exact h h₃ ⟨st.fr.change hs₃ st.cl st.c0, fun p hp => ⟨keep _ _ (st.offs p hp).1 (st.led p hp).1, (st.led p hp).2⟩, keep _ _ st.cd.symm st.dl, hn₃, st.cd, st.cl, st.dL, st.c0, st.d0, st.offs⟩
theorem assign_nameC {x : Str} {px : Pos} {v : Value} {Q : Unit → Shared → Prop} (st : CSt h₀ L m C D mC ys extra s.heap) (hx : scope.names.lookup x = some .local) (hkind : scope.kind = .function)
    (h : ∀ h' tk', CSt h₀ L m C D (fun z => if z = x then some v else mC z) ys extra h' → Q () { s with heap := h', toks := tk' }) : wpAny (model prog w) A (assign (.Name x px) (compEnvC scope cl C env) v) Q E s :=
  wpAny_assign_Name (storeC st hx hkind fun h' st' => h h' _ st')
theorem assign_pairC {x x₂ : Str} {px px₂ tp : Pos} {k} {t : Addr} {v₁ v₂ : Value} {Q : Unit → Shared → Prop} (hh : A.handled = none) (st : CSt h₀ L m C D mC ys extra s.heap) (hx : scope.names.lookup x = some .local) (hx₂ : scope.names.lookup x₂ = some .local) (hkind : scope.kind = .function)
    (ht : TupIn t #[v₁, v₂] extra) (h : ∀ h' tk', CSt h₀ L m C D (fun z => if z = x₂ then some v₂ else if z = x then some v₁ else mC z) ys extra h' → Q () { s with heap := h', toks := tk' }) : wpAny (model prog w) A (assign (.Tuple [.Name x px, .Name x₂ px₂] k tp) (compEnvC scope cl C env) (.ref t)) Q E s := by
  have ht' : IsTup s.heap t #[v₁, v₂] := by
    obtain ⟨o, hm, r⟩ := ht
    exact ⟨o, (st.led _ hm).1, r⟩
  refine assign_Tuple_tuple hh ht' rfl rfl fun h₅ he => ?_
  have he' : ∀ b o, s.heap.get? b = some o → h₅.get? b = some o := fun b o e => he b o (Nat.ne_of_lt (Heap.lt_size e)) e
  refine assignInOrder_cons (wpAny_assign_Name (storeC (st.grow he') hx hkind fun h₆ st₆ => ?_))
  refine assignInOrder_cons (wpAny_assign_Name (storeC st₆ hx₂ hkind fun h₇ st₇ => ?_))
  exact assignInOrder_nil (h h₇ _ st₇)
/-- a clause starts over a tuple of the ledger -/
theorem clause_tup {x0 target iter : PySem.Expr} {gens : List Comprehension} {pos : Pos} {d : Nat} {T0 : Addr} {its : Array Value} {K : Shared → Prop} {ifs : List PySem.Expr}
    (hg : (clausesOf (.ListComp x0 gens scope pos))[d]? = some ⟨target, iter, ifs, 0⟩) (hh : A.handled = none)
    (st : CSt h₀ L m C D mC ys extra s.heap) (ht : TupIn T0 its extra)
    (run : ∀ I h, CSt h₀ L m C D mC ys extra h → (h.IsTupleIter I T0 0 ∧ h.IsTuple T0 its) → I ≠ C → I ≠ D → I ≠ L → h₀.get? I = none → (∀ p ∈ extra, p.1 ≠ I) →
      codeAny (model prog w) A (.compLoop (.ListComp x0 gens scope pos) d (.ref I) (.ref D) (compEnvC scope cl C env)) (fun r s₅ => ∃ f, r = .ok f ∧ K s₅) { s with heap := h }) :
    wpAny (model prog w) A (pyIter (.ref T0)) (fun it2 s₄ => codeAny (model prog w) A (.compStart (.ListComp x0 gens scope pos) d it2 (.ref D) (compEnvC scope cl C env)) (fun r s₅ => ∃ f, r = .ok f ∧ K s₅) s₄) NoE s := by
  have lt : ∀ {b o}, s.heap.get? b = some o → s.heap.objs.size ≠ b := fun e => Nat.ne_of_gt (Heap.lt_size e)
  obtain ⟨oC, hC, NN⟩ := st.ledger
  have hl := ht.tup st.led
  refine wpAny_pyIter_tuple hl ?_
  have go := run s.heap.objs.size _ (st.push { cls := .type "tuple_iterator", data := .fields #[.ref T0, .int 0 0] }) ⟨⟨_, Heap.get?_push_size _ rfl, rfl, rfl⟩, hl.push _⟩ (lt (NN _ List.mem_cons_self).1) (lt st.dl) (Nat.ne_of_gt st.fr.ns.lt) (next_is_new st.fr) (fun p hp => Ne.symm (lt (st.led p hp).1))
  refine start_any hg go ?_
  have W := Walks.tuple (prog := prog) (w := w) (A := A) hh s.heap.objs.size T0 (by obtain ⟨_, e, _⟩ := hl; exact (lt e).symm) its
  exact W.self 0 _ _ _ ⟨⟨_, Heap.get?_push_size _ rfl, rfl, rfl⟩, hl.push _⟩ go
end
/-- the values are pairs of these numbers, kept in a ledger -/
noncomputable def PrsAre (extra : List (Addr × Obj)) (ys : List Value) (l : List (Int × Int)) : Prop := Paired (fun y p => ∃ q t u, y = Value.ref q ∧ (q, pairObj p.1 p.2 t u) ∈ extra) ys l
theorem PrsAre.more {extra extra' : List (Addr × Obj)} {ys : List Value} {l : List (Int × Int)} (h : PrsAre extra ys l) (k : ∀ p ∈ extra, p ∈ extra') : PrsAre extra' ys l := by
  induction h with
  | nil => exact .nil
  | cons hh _ ih =>
    obtain ⟨q, t, u, e, hm⟩ := hh
    exact .cons ⟨q, t, u, e, k _ hm⟩ ih
theorem PrsAre.off {I : Addr} {e2 e3 : List (Addr × Obj)} {o : Obj} {ys : List Value} {l : List (Int × Int)} (h : PrsAre e2 ys l) (ho : o.cls ≠ .type "tuple") (k : ∀ p, p ∈ e2 ↔ p = (I, o) ∨ p ∈ e3) : PrsAre e3 ys l := by
  induction h with
  | nil => exact .nil
  | cons hh _ ih =>
    obtain ⟨q, t, u, e, hm⟩ := hh
    rcases (k _).mp hm with h | h
    · exact absurd (congrArg (fun p : Addr × Obj => p.2.cls) h).symm ho
    · exact .cons ⟨q, t, u, e, h⟩ ih
noncomputable def sidesOf (t : Int × Int × Int) : List (Int × Int) := [(t.1, t.2.1), (t.1, t.2.2), (t.2.1, t.2.2)]
section
variable {w : World} {mean : ExcName → Option Value} {mg mb : Str → Option Value} {g : Heap} {L a : Addr} {ccd : Value} {s : Shared} {m : Str → Option Value} {p p0 tp px px2 : Pos} {kk : Nat} {C D I : Addr}
noncomputable abbrev sidL (p p0 tp px px2 : Pos) (kk : Nat) : PySem.Expr := .ListComp (eltOf sidE) [⟨.Name (Str.ofString "rank") p0, iterOf sidE 0, [], 0⟩, ⟨.Tuple [.Name (Str.ofString "high") px, .Name (Str.ofString "low") px2] kk tp, iterOf sidE 1, [], 0⟩] (lcScope sidE) p
noncomputable abbrev sidC (L a : Addr) (ccd : Value) (C : Addr) : Env := compEnvC (lcScope sidE) [(Str.ofString "triples", L + 1)] C (lawE L a ccd)
theorem sid_lvl1 (X : (Mine.hd.heap_39 w.params).In g) (T : Top Mine.hd.view_39 lo mean mg mb g) {lt tq T0 p1 p2 p3 : Addr} {oc : Obj} {vt : List Value} {nt np : Nat} {r c b z : Int} {tr tc tb tz t1 t2 t3 u1 u2 u3 : Tok} {mC : Str → Option Value} {ys : List Value} {pre : List (Int × Int)} {extra : List (Addr × Obj)} {K : Shared → Prop}
    (st : CSt g L m C D mC ys extra s.heap) (hI : s.heap.IsTupleIter I T0 0 ∧ s.heap.IsTuple T0 #[.ref p1, .ref p2, .ref p3]) (iC : I ≠ C) (iD : I ≠ D) (iL : I ≠ L) (i0 : g.get? I = none) (ix : ∀ q ∈ extra, q.1 ≠ I)
    (hT0 : (T0, ({ cls := .type "tuple", data := .seq #[.ref p1, .ref p2, .ref p3] } : Obj)) ∈ extra) (hp1 : (p1, pairObj 0 1 t1 u1) ∈ extra) (hp2 : (p2, pairObj 0 2 t2 u2) ∈ extra) (hp3 : (p3, pairObj 1 2 t3 u3) ∈ extra)
    (hc : (L + 1, oc) ∈ extra) (hcd : oc.data = .cell (some (.ref lt))) (hlt : (lt, listOf vt.toArray nt) ∈ extra) (hv : vt.toArray[r.toNat]? = some (.ref tq)) (htq : (tq, ({ cls := .type "tuple", data := .seq #[.int c tc, .int b tb, .int z tz] np } : Obj)) ∈ extra) (r0 : 0 ≤ r) (r1 : r < 100)
    (hr : mC (Str.ofString "rank") = some (.int r tr)) (hlen : ys.length ≤ 60) (hP : PrsAre extra ys pre)
    (done : ∀ mC' ys' extra' h' tk', CSt g L m C D mC' ys' extra' h' → Grown extra extra' → PrsAre extra' ys' (pre ++ sidesOf (c, b, z)) → K { s with heap := h', toks := tk' }) :
    codeAny (model rprog w) (lawA L a ccd) (.compLoop (sidL p p0 tp px px2 kk) 1 (.ref I) (.ref D) (sidC L a ccd C)) (fun r s₅ => ∃ f, r = .ok f ∧ K s₅) s := by
  refine level_w (Sx := TupIn T0 #[.ref p1, .ref p2, .ref p3]) (Code0 := fun R0 => codeAny (model rprog w) (lawA L a ccd) (.compLoop (sidL p p0 tp px px2 kk) 1 (.ref I) (.ref D) (sidC L a ccd C)) (fun r s₅ => ∃ f, r = .ok f ∧ R0 s₅) s)
    (TURN := fun v s₁ K' => wpAny (model rprog w) (lawA L a ccd) (letOwnedTupleGo (.Tuple [.Name (Str.ofString "high") px, .Name (Str.ofString "low") px2] kk tp) (.ref I) v) (fun _ s' => wpAny (model rprog w) (lawA L a ccd) (assign (.Tuple [.Name (Str.ofString "high") px, .Name (Str.ofString "low") px2] kk tp) (sidC L a ccd C) v) (fun _ s₂ =>
      wpAny (model rprog w) (lawA L a ccd) (eval (eltOf sidE) (sidC L a ccd C)) (fun y s₃ => wpAny (model rprog w) (lawA L a ccd) (call (.builtin "list.append") [.ref D, y]) (fun _ s₄ => K' s₄) NoE s₃) NoE s₂) NoE s') NoE s₁)
    (J := fun i mC' ys' extra' => mC' (Str.ofString "rank") = some (.int r tr) ∧ Grown extra extra' ∧ ys'.length ≤ 60 + i ∧ PrsAre extra' ys' (pre ++ (sidesOf (c, b, z)).take i))
    (fun R0 Inv turn k hk => loop_leafT (turn2_1 _ _ _ _ _ _ _ _ _ _) Inv (fun k s' hs' => wpAny_mono (turn k s' hs') (fun r s₁ hr => by
      cases r with
      | none => exact ⟨_, rfl, hr⟩
      | some v => exact hr) fun _ _ e => e) k hk) (Walks.tuple rfl I T0 (ix _ hT0) #[.ref p1, .ref p2, .ref p3]) (fun i h st => by obtain ⟨o, e, hcl, _⟩ := st.1; exact ⟨o, e, by rw [hcl]; decide⟩) tuple_st st hI iC iD iL i0 ix (fun i mC' ys' extra' hJ => ⟨_, hJ.2.1.sub _ hT0, rfl, _, rfl⟩)
    ⟨hr, .refl, by simpa using hlen, by simpa using hP⟩ (fun i v mC' ys' extra' h tk o K' hi hv' hJ st' hst' ix' ho k => ?_) (fun mC' ys' extra' h' tk' st' hJ => ?_)
  · obtain ⟨hr', hg, hlen', hP'⟩ := hJ
    have key : ∃ (q : Addr) (x y : Int) (t u : Tok) (x1 x2 : Int × Tok), v = .ref q ∧ (q, pairObj x y t u) ∈ extra ∧ (#[Value.int c tc, .int b tb, .int z tz])[x.toNat]? = some (.int x1.1 x1.2) ∧ (#[Value.int c tc, .int b tb, .int z tz])[y.toNat]? = some (.int x2.1 x2.2) ∧ (sidesOf (c, b, z)).take (i + 1) = (sidesOf (c, b, z)).take i ++ [(x1.1, x2.1)] ∧ 0 ≤ x ∧ x < 100 ∧ 0 ≤ y ∧ y < 100 := by
      rcases three_items hi hv' with ⟨rfl, rfl⟩ | ⟨rfl, rfl⟩ | ⟨rfl, rfl⟩
      · exact ⟨p1, 0, 1, t1, u1, (c, tc), (b, tb), rfl, hp1, rfl, rfl, rfl, by decide, by decide, by decide, by decide⟩
      · exact ⟨p2, 0, 2, t2, u2, (c, tc), (z, tz), rfl, hp2, rfl, rfl, rfl, by decide, by decide, by decide, by decide⟩
      · exact ⟨p3, 1, 2, t3, u3, (b, tb), (z, tz), rfl, hp3, rfl, rfl, rfl, by decide, by decide, by decide, by decide⟩
    obtain ⟨q, x, y, t, u, x1, x2, rfl, hq, hx1, hx2, hsn, x0, xh, y0, yh⟩ := key
    refine go_tupP _ _ _ _ _ _ _ hst'.1 ?_
    refine assign_pairC (s := { s with heap := h, toks := tk }) (v₁ := .int x t) (v₂ := .int y u) rfl st' rfl rfl rfl ⟨_, List.mem_cons_of_mem _ (hg.sub _ hq), rfl, _, rfl⟩ fun h2 tk2 st2 => ?_
    obtain ⟨oC, hoC, NN⟩ := st2.ledger
    have up : ∀ e ∈ extra, e ∈ (I, o) :: extra' := fun e he => List.mem_cons_of_mem _ (hg.sub e he)
    refine sid_elt (s := { s with heap := h2, toks := tk2 }) hoC (r := r) (tr := tr) (hi := x) (th := t) (lw := y) (tl := u) ?_ ?_ ?_ (up _ hc) hcd (up _ hlt) hv (up _ htq) hx1 hx2 r0 r1 x0 xh y0 yh X T st2.fr NN fun q' h3 tk3 F3 N3 ne3 => ?_
    · show (if _ then _ else _) = _
      rw [if_neg (by decide), if_neg (by decide)]; exact hr'
    · show (if _ then _ else _) = _
      rw [if_neg (by decide), if_pos rfl]
    · show (if _ then _ else _) = _
      rw [if_pos rfl]
    have Nq := N3 _ List.mem_cons_self
    have st3 := st2.back hoC F3 (fun e he => N3 e (List.mem_cons_of_mem _ he))
    have hiz : i < 3 := hi
    refine tri_append (s := s) (tk := tk3) (by lia) st3 Nq.1 (Ne.symm (ne3 _ List.mem_cons_self)) (Ne.symm (ne3 _ (List.mem_cons_of_mem _ List.mem_cons_self))) Nq.2.1 Nq.2.2 fun h4 st4 => ?_
    refine k _ _ ((q', pairObj x1.1 x2.1 x1.2 x2.2) :: extra') h4 tk3 (st4.mono fun e he => ?_) (fun e he => ?_) ⟨?_, hg.cons fun e he => Ne.symm (ne3 e (List.mem_cons_of_mem _ (List.mem_cons_of_mem _ (List.mem_cons_of_mem _ he)))), by rw [List.length_append, List.length_singleton]; lia, ?_⟩
    · rcases List.mem_cons.mp he with rfl | he
      · exact List.mem_cons_of_mem _ List.mem_cons_self
      · rcases List.mem_cons.mp he with rfl | he
        · exact List.mem_cons_self
        · exact List.mem_cons_of_mem _ (List.mem_cons_of_mem _ he)
    · rcases List.mem_cons.mp he with rfl | he
      · exact Ne.symm (ne3 _ (List.mem_cons_of_mem _ (List.mem_cons_of_mem _ List.mem_cons_self)))
      · exact ix' e he
    · show (if _ then _ else _) = _
      rw [if_neg (by decide), if_neg (by decide)]; exact hr'
    · rw [hsn, ← List.append_assoc]
      exact Paired.snoc (hP'.more fun e he => List.mem_cons_of_mem _ he) ⟨q', _, _, rfl, List.mem_cons_self⟩
  · exact done _ _ _ _ _ st' hJ.2.1 hJ.2.2.2
end
end Mine
end
section
open PySem
set_option maxRecDepth 100000
namespace Mine
theorem sorted_ext {α : Type} {r : α → α → Prop} (ha : ∀ a b, r a b → ¬ r b a) : ∀ {l m : List α}, l.Pairwise r → m.Pairwise r → (∀ z, z ∈ l ↔ z ∈ m) → l = m
  | [], [], _, _, _ => rfl
  | [], b :: m, _, _, h => absurd ((h b).mpr List.mem_cons_self) (by simp)
  | a :: l, [], _, _, h => absurd ((h a).mp List.mem_cons_self) (by simp)
  | a :: l, b :: m, hl, hm, h => by
    obtain ⟨hl1, hl2⟩ := List.pairwise_cons.mp hl
    obtain ⟨hm1, hm2⟩ := List.pairwise_cons.mp hm
    have e : a = b := by
      rcases List.mem_cons.mp ((h a).mp List.mem_cons_self) with e | e
      · exact e
      · rcases List.mem_cons.mp ((h b).mpr List.mem_cons_self) with e' | e'
        · exact e'.symm
        · exact absurd (hm1 a e) (ha _ _ (hl1 b e'))
    subst e
    have na : ∀ z, r a z → z ≠ a := fun z q e => ha _ _ q (e ▸ q)
    rw [sorted_ext ha hl2 hm2 fun z => ⟨fun hz => ?_, fun hz => ?_⟩]
    · exact (List.mem_cons.mp ((h z).mp (List.mem_cons_of_mem _ hz))).resolve_left (na z (hl1 z hz))
    · exact (List.mem_cons.mp ((h z).mpr (List.mem_cons_of_mem _ hz))).resolve_left (na z (hm1 z hz))
namespace Tb
theorem ris_at {l : List Nat} (h : l.Pairwise (· < ·)) {i j : Nat} (hij : i < j) (hj : j < l.length) : l.getD i 0 < l.getD j 0 := by
  have := (List.pairwise_iff_getElem.mp h) i j (by lia) hj hij
  simpa [List.getD_eq_getElem?_getD, List.getElem?_eq_getElem, hj, (by lia : i < l.length)] using this
/-- p parts l into what is below j and what is not -/
noncomputable def Parts (l : List Nat) (j p : Nat) : Prop := p ≤ l.length ∧ (∀ i, i < p → l.getD i 0 < j) ∧ ∀ i, p ≤ i → i < l.length → j ≤ l.getD i 0
theorem below_go {xs : Array Nat} (hS : xs.toList.Pairwise (· < ·)) (j : Nat) : ∀ fuel lo hi, lo ≤ hi → hi ≤ xs.size → hi - lo ≤ fuel → (∀ i, i < lo → xs.toList.getD i 0 < j) → (∀ i, hi ≤ i → i < xs.size → j ≤ xs.toList.getD i 0) → Parts xs.toList j (SetTable.below.go xs j fuel lo hi)
  | 0, lo, hi, h1, h2, h3, h4, h5 => by
    unfold SetTable.below.go
    have e : lo = hi := by lia
    subst e
    exact ⟨by simpa using h2, h4, fun i a b => h5 i a (by simpa using b)⟩
  | fuel + 1, lo, hi, h1, h2, h3, h4, h5 => by
    unfold SetTable.below.go
    by_cases hlt : lo < hi
    · rw [if_pos hlt]
      have g : xs.getD ((lo + hi) / 2) j = xs.toList.getD ((lo + hi) / 2) 0 := by
        have : (lo + hi) / 2 < xs.size := by lia
        simp [Array.getD, List.getD_eq_getElem?_getD, this]
      dsimp only
      rw [g]
      by_cases hm : xs.toList.getD ((lo + hi) / 2) 0 < j
      · rw [if_pos hm]
        refine below_go hS j fuel _ hi (by lia) h2 (by lia) (fun i hi' => ?_) h5
        by_cases e : i = (lo + hi) / 2
        · rw [e]; exact hm
        · exact Nat.lt_trans (ris_at hS (by lia) (by simp; lia)) hm
      · rw [if_neg hm]
        refine below_go hS j fuel lo _ (by lia) (by lia) (by lia) h4 fun i a b => ?_
        by_cases e : i = (lo + hi) / 2
        · rw [e]; lia
        · have := ris_at hS (i := (lo + hi) / 2) (j := i) (by lia) (by simpa using b)
          lia
    · rw [if_neg hlt]
      have e : lo = hi := by lia
      subst e
      exact ⟨by simpa using h2, h4, fun i a b => h5 i a (by simpa using b)⟩
theorem below_parts {xs : Array Nat} (hS : xs.toList.Pairwise (· < ·)) (j : Nat) : Parts xs.toList j (SetTable.below xs j) :=
  below_go hS j _ 0 _ (Nat.zero_le _) (Nat.le_refl _) (by lia) (fun i h => absurd h (Nat.not_lt_zero _)) fun i a b => by lia
theorem Parts.uniq {l : List Nat} {j p q : Nat} (h : Parts l j p) (k : Parts l j q) : p = q := by
  obtain ⟨a, b, c⟩ := h
  obtain ⟨a', b', c'⟩ := k
  rcases Nat.lt_trichotomy p q with h | h | h
  · have h1 := b' p h
    have h2 := c p (Nat.le_refl _) (by lia)
    lia
  · exact h
  · have h1 := b q h
    have h2 := c' q (Nat.le_refl _) (by lia)
    lia
theorem below_zero {xs : Array Nat} (hS : xs.toList.Pairwise (· < ·)) : SetTable.below xs 0 = 0 :=
  (below_parts hS 0).uniq ⟨Nat.zero_le _, fun i h => absurd h (Nat.not_lt_zero _), fun i _ _ => Nat.zero_le _⟩
theorem below_next {xs : Array Nat} (hS : xs.toList.Pairwise (· < ·)) {i : Nat} (hi : i < xs.size) : SetTable.below xs (xs.toList.getD i 0 + 1) = i + 1 :=
  (below_parts hS _).uniq ⟨by rw [Array.length_toList]; exact hi, fun k hk => by
    by_cases e : k = i
    · rw [e]; lia
    · have := ris_at hS (i := k) (j := i) (by lia) (by simpa using hi)
      lia, fun k hk hl => by
    have := ris_at hS (i := i) (j := k) (by lia) hl
    lia⟩
theorem ins_ris {l : List Nat} {j p : Nat} (hS : l.Pairwise (· < ·)) (hp : Parts l j p) (hj : j ∉ l) : (l.take p ++ j :: l.drop p).Pairwise (· < ·) := by
  obtain ⟨a, b, c⟩ := hp
  refine List.pairwise_append.mpr ⟨hS.sublist (List.take_sublist _ _), List.pairwise_cons.mpr ⟨fun z hz => ?_, hS.sublist (List.drop_sublist _ _)⟩, fun z hz u hu => ?_⟩
  · obtain ⟨i, hi, rfl⟩ := List.mem_iff_getElem.mp hz
    have hm : (l.drop p)[i] ∈ l := List.mem_of_mem_drop hz
    rw [List.length_drop] at hi
    have := c (p + i) (by lia) (by lia)
    have e : l.getD (p + i) 0 = (l.drop p)[i]'(by simp; lia) := by simp [List.getD_eq_getElem?_getD, List.getElem?_eq_getElem, (by lia : p + i < l.length)]
    rw [e] at this
    rcases Nat.lt_or_eq_of_le this with h | h
    · exact h
    · exact absurd (h ▸ hm) hj
  · obtain ⟨i, hi, rfl⟩ := List.mem_iff_getElem.mp hz
    rw [List.length_take] at hi
    have h1 := b i (by lia)
    have e : l.getD i 0 = (l.take p)[i]'(by simp; lia) := by simp [List.getD_eq_getElem?_getD, List.getElem?_eq_getElem, (by lia : i < l.length)]
    rw [e] at h1
    rcases List.mem_cons.mp hu with rfl | hu
    · exact h1
    · obtain ⟨k, hk, rfl⟩ := List.mem_iff_getElem.mp hu
      rw [List.length_drop] at hk
      have := c (p + k) (by lia) (by lia)
      have e : l.getD (p + k) 0 = (l.drop p)[k]'(by simp; lia) := by simp [List.getD_eq_getElem?_getD, List.getElem?_eq_getElem, (by lia : p + k < l.length)]
      rw [e] at this
      lia
theorem slot_empty {t : SetTable} {j : Nat} (hd : t.dummies = #[]) (hj : j ∉ t.place.toList) : t.slot j = .empty := by
  unfold SetTable.slot
  dsimp only
  have h1 : (t.place[SetTable.below t.place j]? == some j) = false := by
    cases e : t.place[SetTable.below t.place j]? with
    | none => rfl
    | some z =>
      have : z ∈ t.place.toList := by rw [Array.mem_toList_iff]; exact Array.mem_of_getElem? e
      have hz : z ≠ j := fun q => hj (q ▸ this)
      simpa using hz
  rw [h1]
  have h2 : SetTable.has t.dummies j = false := by rw [hd]; simp [SetTable.has]
  rw [h2]
  rfl
theorem bits_small {h : Int} (h0 : 0 ≤ h) (h1 : h < 32) : SetTable.bits h = h.toNat := by
  unfold SetTable.bits
  rw [Int.emod_eq_of_lt h0 (Int.lt_trans h1 (by decide))]
theorem free31 {t : SetTable} {h : Int} (hm : t.mask = 31) (hd : t.dummies = #[]) (h0 : 0 ≤ h) (h1 : h < 32) (hj : h.toNat ∉ t.place.toList) : t.freeSlot h = some (h.toNat, false) := by
  unfold SetTable.freeSlot SetTable.probe
  have e : (t.probeStart h).j = h.toNat := by
    unfold SetTable.probeStart
    dsimp only
    rw [hm, bits_small h0 h1]
    lia
  have ed : (t.probeStart h).dummy = none := rfl
  rw [hm, show 10 * SetTable.turns 31 = 459 + 1 from rfl]
  unfold SetTable.probe.go
  rw [e, slot_empty hd hj]
  rw [ed]
  rfl
theorem slot_congr {t t' : SetTable} (hp : t.place = t'.place) (hd : t.dummies = t'.dummies) (j : Nat) : t.slot j = t'.slot j := by unfold SetTable.slot; rw [hp, hd]
theorem go_congr {t t' : SetTable} (hm : t.mask = t'.mask) (hp : t.place = t'.place) (hd : t.dummies = t'.dummies) (f : Nat → Int) (h : Int) : ∀ fuel p, SetTable.probe.go t f h fuel p = SetTable.probe.go t' f h fuel p
  | 0, p => rfl
  | fuel + 1, p => by
    have ea : ∀ p, t.advance p = t'.advance p := fun p => by unfold SetTable.advance; rw [hm]
    unfold SetTable.probe.go
    rw [slot_congr hp hd]
    cases t'.slot p.j with
    | empty => rfl
    | dummy => dsimp only; rw [ea]; exact go_congr hm hp hd f h fuel _
    | live i => dsimp only; rw [ea, go_congr hm hp hd f h fuel]
theorem free_congr {t t' : SetTable} (hm : t.mask = t'.mask) (hp : t.place = t'.place) (hd : t.dummies = t'.dummies) (h : Int) : t.freeSlot h = t'.freeSlot h := by
  unfold SetTable.freeSlot SetTable.probe
  have e : t.probeStart h = t'.probeStart h := by unfold SetTable.probeStart; rw [hm]
  rw [e, hm, go_congr hm hp hd]
noncomputable def tab7 (l : List Nat) : SetTable := { mask := 7, place := l.toArray, dummies := #[], finger := 0, led := true, moves := 0, plain := true }
noncomputable def ok7 (l : List Nat) (h : Nat) : Bool := match (tab7 l).freeSlot (h : Int) with
  | some (j, false) => decide (j < 8) && !l.contains j
  | _ => false
noncomputable def pick8 (b : List Bool) : List Nat := (List.range 8).filter fun i => b.getD i false
theorem all7 : ∀ b0 b1 b2 b3 b4 b5 b6 b7 : Bool, (pick8 [b0, b1, b2, b3, b4, b5, b6, b7]).length ≤ 4 → ∀ h, h < 20 → ok7 (pick8 [b0, b1, b2, b3, b4, b5, b6, b7]) h = true := by decide +kernel
theorem pick_eq {l : List Nat} (hS : l.Pairwise (· < ·)) (h8 : ∀ j ∈ l, j < 8) : pick8 [l.contains 0, l.contains 1, l.contains 2, l.contains 3, l.contains 4, l.contains 5, l.contains 6, l.contains 7] = l := by
  refine sorted_ext (r := (· < ·)) (fun a b h1 h2 => Nat.lt_asymm h1 h2) (List.Pairwise.filter _ List.pairwise_lt_range) hS fun z => ?_
  unfold pick8
  rw [List.mem_filter, List.mem_range]
  constructor
  · rintro ⟨h, hz⟩
    have e : ∀ z, z < 8 → [l.contains 0, l.contains 1, l.contains 2, l.contains 3, l.contains 4, l.contains 5, l.contains 6, l.contains 7].getD z false = l.contains z := by
      intro z hz
      match z, hz with
      | 0, _ | 1, _ | 2, _ | 3, _ | 4, _ | 5, _ | 6, _ | 7, _ => rfl
    rw [e z h] at hz
    simpa using hz
  · intro hz
    have h := h8 z hz
    refine ⟨h, ?_⟩
    have hz' : l.contains z = true := by simpa using hz
    match z, h, hz' with
    | 0, _, q | 1, _, q | 2, _, q | 3, _, q | 4, _, q | 5, _, q | 6, _, q | 7, _, q => exact q
theorem free7 {t : SetTable} {h : Int} (hm : t.mask = 7) (hd : t.dummies = #[]) (hS : t.place.toList.Pairwise (· < ·)) (h8 : ∀ j ∈ t.place.toList, j < 8) (hl : t.place.size ≤ 4) (h0 : 0 ≤ h) (h1 : h < 20) :
    ∃ j, t.freeSlot h = some (j, false) ∧ j < 8 ∧ j ∉ t.place.toList := by
  have e := pick_eq hS h8
  have q := all7 (t.place.toList.contains 0) (t.place.toList.contains 1) (t.place.toList.contains 2) (t.place.toList.contains 3) (t.place.toList.contains 4) (t.place.toList.contains 5) (t.place.toList.contains 6) (t.place.toList.contains 7) (by rw [e]; simpa using hl) h.toNat (by lia)
  rw [e] at q
  have c : t.freeSlot h = (tab7 t.place.toList).freeSlot h := free_congr hm (by simp [tab7]) (by rw [hd]; rfl) h
  unfold ok7 at q
  rw [show ((h.toNat : Nat) : Int) = h by lia, ← c] at q
  split at q
  · rename_i j e2
    simp only [Bool.and_eq_true, decide_eq_true_eq, Bool.not_eq_true', List.contains_eq_mem, decide_eq_false_iff_not] at q
    exact ⟨j, e2, q.1, q.2⟩
  · exact absurd q (by decide)
theorem fm_congr {β : Type} {f g : Nat → Option β} : ∀ {l : List Nat}, (∀ z ∈ l, f z = g z) → l.filterMap f = l.filterMap g
  | [], _ => rfl
  | a :: l, h => by
    rw [List.filterMap_cons, List.filterMap_cons, h a List.mem_cons_self, fm_congr fun z hz => h z (List.mem_cons_of_mem _ hz)]
theorem fm_perm {β : Type} {f f' : Nat → Option β} {x : Nat} {y : β} (hx : f x = none) (hx' : f' x = some y) (ho : ∀ z, z ≠ x → f' z = f z) : ∀ l : List Nat, l.Nodup → x ∈ l → (l.filterMap f').Perm (y :: l.filterMap f)
  | [], _, h => absurd h (by simp)
  | a :: l, hn, h => by
    obtain ⟨h1, h2⟩ := List.nodup_cons.mp hn
    by_cases e : a = x
    · subst e
      have q : l.filterMap f' = l.filterMap f := by
        refine fm_congr fun z hz => ho z fun q => h1 (q ▸ hz)
      rw [List.filterMap_cons, List.filterMap_cons, hx, hx', q]
    · have hm : x ∈ l := (List.mem_cons.mp h).resolve_left (fun q => e q.symm)
      have ih := fm_perm hx hx' ho l h2 hm
      rw [List.filterMap_cons, List.filterMap_cons, ho a e]
      cases f a with
      | none => exact ih
      | some b => exact (List.Perm.cons b ih).trans (List.Perm.swap y b _)
/-- what lies in a table being laid -/
noncomputable def live (owner : Array (Option Nat)) : List (Nat × Nat) := (List.range 32).filterMap fun j => (owner.getD j none).map (j, ·)
theorem live_zero : live (Array.replicate 32 none) = [] := by decide +kernel
theorem live_step {owner : Array (Option Nat)} {x k : Nat} (hs : owner.size = 32) (hx : x < 32) (hn : owner.getD x none = none) : (live (owner.setIfInBounds x (some k))).Perm ((x, k) :: live owner) := by
  refine fm_perm (x := x) (f := fun j => (owner.getD j none).map (j, ·)) (f' := fun j => ((owner.setIfInBounds x (some k)).getD j none).map (j, ·)) ?_ ?_ ?_ _ List.nodup_range (List.mem_range.mpr hx)
  · rw [hn]; rfl
  · simp [Array.getD_eq_getD_getElem?, hs, hx]
  · intro z hz
    congr 1
    simp [Array.getD_eq_getD_getElem?, Array.getElem?_setIfInBounds, Ne.symm hz]
theorem live_ris (owner : Array (Option Nat)) : ((live owner).map (·.1)).Pairwise (· < ·) := by
  unfold live
  rw [List.pairwise_map]
  refine List.Pairwise.filterMap _ (fun a a' h b hb b' hb' => ?_) List.pairwise_lt_range
  obtain ⟨c, _, rfl⟩ := Option.map_eq_some_iff.mp hb
  obtain ⟨c', _, rfl⟩ := Option.map_eq_some_iff.mp hb'
  exact h
theorem free_lay {owner : Array (Option Nat)} {x : Nat} (p : Nat) (hs : owner.size = 32) (hx : x < 32) (hn : owner.getD x none = none) : SetTable.layClean.free 31 owner (SetTable.turns 31) x p = some x := by
  have hg : owner.getD (x + 0) (some 0) = none := by
    have h1 : x < owner.size := by lia
    simp [Array.getD_eq_getD_getElem?, h1] at hn ⊢
    exact hn
  rw [show SetTable.turns 31 = 45 + 1 from rfl]
  unfold SetTable.layClean.free
  have e : ∃ n, SetTable.runEnd 31 x + 1 - x = n + 1 := ⟨SetTable.runEnd 31 x - x, by unfold SetTable.runEnd; split <;> lia⟩
  obtain ⟨n, e⟩ := e
  rw [e, List.range_succ_eq_map, List.find?_cons, hg]
  rfl
noncomputable abbrev layF : Option (Array (Option Nat) × Nat) → Int → Option (Array (Option Nat) × Nat) := fun acc h => do
    let (owner, k) ← acc
    let j ← SetTable.layClean.free 31 owner (SetTable.turns 31) (SetTable.bits h % (31 + 1)) (SetTable.bits h)
    pure (owner.setIfInBounds j (some k), k + 1)
theorem lay_fold : ∀ (hs : List Int) (owner : Array (Option Nat)) (k : Nat), owner.size = 32 → (∀ h ∈ hs, 0 ≤ h ∧ h < 32) → hs.Nodup → (∀ h ∈ hs, owner.getD h.toNat none = none) →
    ∃ owner', hs.foldl layF (some (owner, k)) = some (owner', k + hs.length) ∧ owner'.size = 32 ∧ (live owner').Perm ((hs.zipIdx k).map (fun p => (p.1.toNat, p.2)) ++ live owner)
  | [], owner, k, h1, _, _, _ => ⟨owner, rfl, h1, List.Perm.refl _⟩
  | h :: hs, owner, k, h1, h2, h3, h4 => by
    have hb := h2 h List.mem_cons_self
    obtain ⟨n1, n2⟩ := List.nodup_cons.mp h3
    have hx : h.toNat < 32 := by lia
    have hn := h4 h List.mem_cons_self
    have e : layF (some (owner, k)) h = some (owner.setIfInBounds h.toNat (some k), k + 1) := by
      unfold layF
      have eb : SetTable.bits h % (31 + 1) = h.toNat := by rw [bits_small hb.1 hb.2]; lia
      show (SetTable.layClean.free 31 owner (SetTable.turns 31) (SetTable.bits h % (31 + 1)) (SetTable.bits h)).bind _ = _
      rw [eb, free_lay _ h1 hx hn]
      rfl
    obtain ⟨o', q1, q2, q3⟩ := lay_fold hs (owner.setIfInBounds h.toNat (some k)) (k + 1) (by simpa using h1) (fun z hz => h2 z (List.mem_cons_of_mem _ hz)) n2 fun z hz => by
      have hz' := h4 z (List.mem_cons_of_mem _ hz)
      have hzb := h2 z (List.mem_cons_of_mem _ hz)
      have ne : h.toNat ≠ z.toNat := fun q => n1 (by rw [show h = z by lia]; exact hz)
      simp [Array.getD_eq_getD_getElem?, Array.getElem?_setIfInBounds, ne] at hz' ⊢
      exact hz'
    refine ⟨o', by rw [List.foldl_cons, e, q1, List.length_cons]; congr 2; lia, q2, q3.trans ?_⟩
    rw [List.zipIdx_cons, List.map_cons]
    exact (List.Perm.append_left _ (live_step h1 hx hn)).trans List.perm_middle
theorem lay31 {hs : Array Int} (hb : ∀ h ∈ hs.toList, 0 ≤ h ∧ h < 32) (hn : hs.toList.Nodup) : ∃ owner, SetTable.layClean 31 hs = some owner ∧ (live owner).Perm (hs.toList.zipIdx.map fun p => (p.1.toNat, p.2)) := by
  obtain ⟨o, q1, q2, q3⟩ := lay_fold hs.toList (Array.replicate 32 none) 0 (by simp) hb hn (fun h hh => by
    have := (hb h hh)
    have h32 : h.toNat < 32 := by lia
    simp [Array.getD_eq_getD_getElem?, h32])
  refine ⟨o, ?_, ?_⟩
  · unfold SetTable.layClean
    rw [← Array.foldl_toList]
    show Option.map (·.1) (hs.toList.foldl layF (some (Array.replicate 32 none, 0))) = some o
    rw [q1]; rfl
  · rw [live_zero, List.append_nil] at q3; exact q3
end Tb
end Mine
end
section
open PySem
set_option maxRecDepth 100000
namespace Mine.Tb
/-- a small set of small ints whose table has not given way -/
structure Good (t : SetTable) (es : Array (Int × Value)) : Prop where
  keys : ∀ e ∈ es.toList, (∃ tok, e.2 = .int e.1 tok) ∧ 0 ≤ e.1 ∧ e.1 < 20
  nodup : (es.toList.map (·.1)).Nodup
  dum : t.dummies = #[]
  plain : t.plain = true
  ris : t.place.toList.Pairwise (· < ·)
  size : t.place.size = es.size
  ph : (t.mask = 7 ∧ es.size ≤ 4 ∧ ∀ j ∈ t.place.toList, j < 8) ∨ (t.mask = 31 ∧ es.size ≤ 18 ∧ es.toList.map (·.1) = t.place.toList.map (fun (j : Nat) => (j : Int)))
theorem Good.fits {t : SetTable} {es : Array (Int × Value)} (g : Good t es) : t.fits es.size = true := by
  unfold SetTable.fits SetTable.fill
  rw [g.dum, g.size]
  have := g.ph
  simp only [Bool.and_eq_true, beq_iff_eq, decide_eq_true_eq]
  refine ⟨trivial, ?_⟩
  rcases this with ⟨h1, h2, _⟩ | ⟨h1, h2, _⟩
  · rw [h1]; simp; lia
  · rw [h1]; simp; lia
theorem good_empty {f mv : Nat} {led : Bool} : Good (SetTable.fresh f mv led) #[] :=
  ⟨fun e h => by simp at h, by simp, rfl, rfl, by simp [SetTable.fresh], rfl, .inl ⟨rfl, by simp, fun j h => by simp [SetTable.fresh] at h⟩⟩
theorem put_free {t : SetTable} {j : Nat} (hd : t.dummies = #[]) : t.put j = ({ t with place := SetTable.insertAt t.place (SetTable.below t.place j) j }, SetTable.below t.place j) := by
  unfold SetTable.put
  have h2 : SetTable.has t.dummies j = false := by rw [hd]; simp [SetTable.has]
  rw [h2]
  rfl
theorem ins_size {α : Type} (xs : Array α) (p : Nat) (x : α) (hp : p ≤ xs.size) : (SetTable.insertAt xs p x).size = xs.size + 1 := by
  rw [← Array.length_toList, SetTable.toList_insertAt, List.length_append, List.length_cons, List.length_take, List.length_drop, Array.length_toList]; lia
theorem relay5 {t : SetTable} {es : Array (Int × Value)} (hk : ∀ e ∈ es.toList, (∃ tok, e.2 = .int e.1 tok) ∧ 0 ≤ e.1 ∧ e.1 < 20) (hn : (es.toList.map (·.1)).Nodup) (h5 : es.size = 5) (hp : t.plain = true) :
    ∃ es' t', relayAll t es (SetTable.grown es.size) = (es', t', false) ∧ Good t' es' ∧ es'.toList.Perm es.toList ∧ t'.led = t.led := by
  obtain ⟨o, q1, q2⟩ := lay31 (hs := es.map (·.1)) (fun h hh => by
    rw [Array.toList_map] at hh
    obtain ⟨e, he, rfl⟩ := List.mem_map.mp hh
    have := (hk e he).2
    lia) (by rw [Array.toList_map]; exact hn)
  have e1 : t.relaid (es.map (·.1)) (SetTable.grown es.size) = some ({ mask := 31, place := ((live o).map (·.1)).toArray, dummies := #[], finger := t.finger, led := t.led, moves := t.movedTo 31, plain := t.plain }, ((live o).map (·.2)).toArray) := by
    rw [h5]
    unfold SetTable.relaid
    rw [show SetTable.sizeAbove (SetTable.grown 5) - 1 = 31 from by decide]
    unfold SetTable.laid
    rw [q1]
    rfl
  have hlen : (live o).length = 5 := by
    rw [q2.length_eq, List.length_map, List.length_zipIdx, Array.length_toList, Array.size_map, h5]
  have hat : ∀ p ∈ live o, ∃ e, es[p.2]? = some e ∧ e.1 = (p.1 : Int) := fun p hp => by
    obtain ⟨z, hz, rfl⟩ := List.mem_map.mp (q2.mem_iff.mp hp)
    have := List.mem_zipIdx' hz
    obtain ⟨hlt, hz1⟩ := this
    have hlt : z.2 < es.size := by simpa using hlt
    have hz2 : z.1 = es[z.2].1 := by rw [hz1]; simp
    refine ⟨es[z.2], by simp [hlt], ?_⟩
    have := (hk es[z.2] (by simp)).2
    dsimp only
    lia
  have hord : (((live o).map (·.2)).toArray.toList).Perm (List.range es.size) := by
    have h1 := q2.map (·.2)
    rw [List.map_map] at h1
    have e2 : (((es.map (·.1)).toList.zipIdx).map ((fun p : Nat × Nat => p.2) ∘ fun p : Int × Nat => (p.1.toNat, p.2))) = List.range es.size := by
      have e3 : ((fun p : Nat × Nat => p.2) ∘ fun p : Int × Nat => (p.1.toNat, p.2)) = Prod.snd := rfl
      rw [e3, List.zipIdx_map_snd, Array.length_toList, Array.size_map, List.range_eq_range']
    rw [e2] at h1
    simpa using h1
  have keys' : ∀ l : List (Nat × Nat), (∀ p ∈ l, ∃ e, es[p.2]? = some e ∧ e.1 = (p.1 : Int)) → ((l.map (·.2)).filterMap (es[·]?)).map (·.1) = (l.map (·.1)).map (fun (j : Nat) => (j : Int)) := by
    intro l
    induction l with
    | nil => intro _; rfl
    | cons p l ih =>
      intro h
      obtain ⟨e, he, he1⟩ := h p List.mem_cons_self
      rw [List.map_cons, List.filterMap_cons, he, List.map_cons, List.map_cons, List.map_cons, ih fun q hq => h q (List.mem_cons_of_mem _ hq), he1]
  have e4 : (((live o).map (·.2)).toArray.filterMap (es[·]?)).toList = ((live o).map (·.2)).filterMap (es[·]?) := by rw [Array.toList_filterMap]
  have hperm : (((live o).map (·.2)).toArray.filterMap (es[·]?)).toList.Perm es.toList := by
    rw [e4]
    have h1 := hord.filterMap (es[·]?)
    rw [filterMap_getElem?_range] at h1
    simpa using h1
  have hk1 := keys' _ hat
  have hsz : (((live o).map (·.2)).toArray.filterMap (es[·]?)).size = es.size := by rw [← Array.length_toList, hperm.length_eq, Array.length_toList]
  have G : Good { mask := 31, place := ((live o).map (·.1)).toArray, dummies := #[], finger := t.finger, led := t.led, moves := t.movedTo 31, plain := t.plain } (((live o).map (·.2)).toArray.filterMap (es[·]?)) := by
    refine ⟨fun e he => hk e (hperm.mem_iff.mp he), (hperm.map (·.1)).nodup_iff.mpr hn, rfl, hp, by simpa using live_ris o, ?_, .inr ⟨rfl, by rw [hsz, h5]; decide, ?_⟩⟩
    · rw [hsz, h5]; simpa using hlen
    · rw [e4, hk1]
  refine ⟨_, _, ?_, G, hperm, rfl⟩
  unfold relayAll
  rw [e1]
  dsimp only
  have hc : (coversAll ((live o).map (·.2)).toArray es.size) = true := List.isPerm_iff.mpr hord
  have hf := G.fits
  rw [hc, hf]
  rfl
/-- one more int into such a set -/
theorem good_add {t : SetTable} {es : Array (Int × Value)} (g : Good t es) {k : Int} {tok : Tok} (h0 : 0 ≤ k) (h1 : k < 20) (hk : k ∉ es.toList.map (·.1)) (hl : es.size ≤ 17) :
    ∃ es1 t1, layNew t es k (.int k tok) = (es1, t1, false, false) ∧ es1.toList.Perm (es.push (k, .int k tok)).toList ∧ t1.led = t.led ∧ t1.plain = true ∧ t1.fits es1.size = true ∧
      ((t1.tooFull = false ∧ Good t1 es1) ∨ (t1.tooFull = true ∧ ∃ es2 t2, relayAll t1 es1 (SetTable.grown es1.size) = (es2, t2, false) ∧ Good t2 es2 ∧ es2.toList.Perm es1.toList ∧ t2.led = t.led)) := by
  have key : ∃ j, t.freeSlot k = some (j, false) ∧ j ∉ t.place.toList ∧ (t.mask = 7 → j < 8) ∧ (t.mask = 31 → j = k.toNat) := by
    rcases g.ph with ⟨a, b, c⟩ | ⟨a, b, c⟩
    · obtain ⟨j, q1, q2, q3⟩ := free7 a g.dum g.ris c (by rw [g.size]; exact b) h0 h1
      exact ⟨j, q1, q3, fun _ => q2, fun h => (by rw [a] at h; cases h)⟩
    · have hj : k.toNat ∉ t.place.toList := fun h => hk (by
        rw [c]
        exact List.mem_map.mpr ⟨k.toNat, h, by lia⟩)
      exact ⟨k.toNat, free31 a g.dum h0 (by lia) hj, hj, fun h => (by rw [a] at h; cases h), fun _ => rfl⟩
  obtain ⟨j, q1, q2, q3, q4⟩ := key
  have hP := below_parts g.ris j
  generalize hpp : SetTable.below t.place j = p at hP
  have hp1 : p ≤ t.place.size := by simpa using hP.1
  have hp2 : p ≤ es.size := by rw [← g.size]; exact hp1
  have hr : (SetTable.insertAt t.place p j).toList.Pairwise (· < ·) := by rw [SetTable.toList_insertAt]; exact ins_ris g.ris hP q2
  have hs1 : (SetTable.insertAt t.place p j).size = t.place.size + 1 := ins_size _ _ _ hp1
  have hs2 : (SetTable.insertAt es p (k, Value.int k tok)).size = es.size + 1 := ins_size _ _ _ hp2
  have hperm : (SetTable.insertAt es p (k, Value.int k tok)).toList.Perm (es.push (k, .int k tok)).toList := SetTable.insertAt_perm _ _ _
  have hkeys : ∀ e ∈ (SetTable.insertAt es p (k, Value.int k tok)).toList, (∃ tok, e.2 = .int e.1 tok) ∧ 0 ≤ e.1 ∧ e.1 < 20 := fun e he => by
    have := hperm.mem_iff.mp he
    rw [Array.toList_push] at this
    rcases List.mem_append.mp this with h | h
    · exact g.keys e h
    · rw [List.mem_singleton.mp h]; exact ⟨⟨tok, rfl⟩, h0, h1⟩
  have hnd : ((SetTable.insertAt es p (k, Value.int k tok)).toList.map (·.1)).Nodup := by
    refine (hperm.map (·.1)).nodup_iff.mpr ?_
    rw [Array.toList_push, List.map_append]
    refine List.nodup_append.mpr ⟨g.nodup, by simp, fun a ha b hb => ?_⟩
    simp only [List.map_cons, List.map_nil, List.mem_singleton] at hb
    rintro rfl
    exact hk (hb ▸ ha)
  have hfit : ({ t with place := SetTable.insertAt t.place p j } : SetTable).fits (es.size + 1) = true := by
    unfold SetTable.fits SetTable.fill
    dsimp only
    rw [hs1, g.dum, g.size]
    simp only [Bool.and_eq_true, beq_iff_eq, decide_eq_true_eq]
    refine ⟨trivial, ?_⟩
    rcases g.ph with ⟨a, b, _⟩ | ⟨a, b, _⟩
    · rw [a]; simp; lia
    · rw [a]; simp; lia
  have eL : layNew t es k (.int k tok) = (SetTable.insertAt es p (k, Value.int k tok), { t with place := SetTable.insertAt t.place p j }, false, false) := by
    unfold layNew
    rw [q1]
    dsimp only
    rw [put_free g.dum, hpp]
    dsimp only
    rw [hs2]
    unfold SetTable.orStandIn
    rw [hfit]
    rfl
  refine ⟨_, _, eL, hperm, rfl, g.plain, by rw [hs2]; exact hfit, ?_⟩
  have hfull : ({ t with place := SetTable.insertAt t.place p j } : SetTable).tooFull = decide ((es.size + 1) * 5 ≥ t.mask * 3) := by
    unfold SetTable.tooFull SetTable.fill
    dsimp only
    rw [hs1, g.dum, g.size]
    rfl
  rcases g.ph with ⟨a, b, c⟩ | ⟨a, b, c⟩
  · by_cases h5 : es.size = 4
    · refine .inr ⟨by rw [hfull, a, h5]; decide, ?_⟩
      obtain ⟨es2, t2, r1, r2, r3, r4⟩ := relay5 (t := { t with place := SetTable.insertAt t.place p j }) hkeys hnd (by rw [hs2, h5]) g.plain
      exact ⟨es2, t2, r1, r2, r3, r4⟩
    · refine .inl ⟨by rw [hfull, a]; simp; lia, hkeys, hnd, g.dum, g.plain, hr, by rw [hs1, hs2, g.size], .inl ⟨a, by lia, fun z hz => ?_⟩⟩
      rw [SetTable.toList_insertAt] at hz
      rcases List.mem_append.mp hz with h | h
      · exact c z (List.mem_of_mem_take h)
      · rcases List.mem_cons.mp h with rfl | h
        · exact q3 a
        · exact c z (List.mem_of_mem_drop h)
  · refine .inl ⟨by rw [hfull, a]; simp; lia, hkeys, hnd, g.dum, g.plain, hr, by rw [hs1, hs2, g.size], .inr ⟨a, by lia, ?_⟩⟩
    rw [SetTable.toList_insertAt, SetTable.toList_insertAt, List.map_append, List.map_append, List.map_cons, List.map_cons, List.map_take, List.map_take, List.map_drop, List.map_drop, c, q4 a]
    congr 2
    lia
end Mine.Tb
end
section
open PySem PySem.W PyProof.Rows
set_option maxRecDepth 100000
namespace Mine
noncomputable def byTx (w : World) : Bool := w.params.followText "set-order"
noncomputable def keysOf (es : Array (Int × Value)) : List Int := es.toList.map (·.1)
section
variable {prog : Program} {w : World} {A : Around} {E : Value → Shared → Prop} {s : Shared}
theorem hash_small {k : Int} (h0 : 0 ≤ k) (h1 : k < 20) : hashInt k = k := by
  have : k = 0 ∨ k = 1 ∨ k = 2 ∨ k = 3 ∨ k = 4 ∨ k = 5 ∨ k = 6 ∨ k = 7 ∨ k = 8 ∨ k = 9 ∨ k = 10 ∨ k = 11 ∨ k = 12 ∨ k = 13 ∨ k = 14 ∨ k = 15 ∨ k = 16 ∨ k = 17 ∨ k = 18 ∨ k = 19 := by lia
  rcases this with rfl | rfl | rfl | rfl | rfl | rfl | rfl | rfl | rfl | rfl | rfl | rfl | rfl | rfl | rfl | rfl | rfl | rfl | rfl | rfl <;> decide
theorem good_elems {t : SetTable} {es : Array (Int × Value)} (g : Tb.Good t es) : ElemsOf (intKind prog w) es.toList := fun e he => by
  obtain ⟨⟨tok, q⟩, a, b⟩ := g.keys e he
  refine ⟨⟨e.1, by rw [q]; exact intKind_is _ _ _ _, ?_⟩, by rw [q]; rfl⟩
  exact (hash_small a b).symm
theorem set_put {h : Heap} {a : Addr} {o : Obj} {es : Array (Int × Value)} {ep : Nat} {t : SetTable} (ho : h.get? a = some o) (hd : o.data = .set es ep t) (es' : Array (Int × Value)) (t' : SetTable) :
    (h.update a (Obj.putSet es' t')).get? a = some { o with data := .set es' (ep + 1) t' } := by
  have := Heap.get?_update_self (Obj.putSet es' t') ho (by rw [putSet_of es' t' hd]; rfl)
  rw [putSet_of es' t' hd] at this
  exact this
theorem small_fits {es : Array (Int × Value)} (h : es.size ≤ 18) : es.size ≤ sizeLine := by rw [sizeLine_eq]; lia
theorem add_good {a : Addr} {o : Obj} {es : Array (Int × Value)} {ep : Nat} {t : SetTable} {k : Int} {tok : Tok} {Q : Bool → Shared → Prop} (ho : s.heap.get? a = some o) (hd : o.data = .set es ep t) (g : Tb.Good t es) (h0 : 0 ≤ k) (h1 : k < 20) (hl : es.size ≤ 17)
    (h : ∀ b h' es' ep' t', Heap.SameBut a s.heap h' → h'.get? a = some { o with data := .set es' ep' t' } → Tb.Good t' es' → t'.led = t.led → (keysOf es').Perm (if k ∈ keysOf es then keysOf es else keysOf es ++ [k]) → Q b { s with heap := h' }) :
    wpAny (model prog w) A (setAddHashed a (.int k tok) ((intKind prog w).hash k)) Q E s := by
  have hf := g.fits
  have hel := good_elems (prog := prog) (w := w) g
  have hkey : (intKind prog w).is k (.int k tok) = true := intKind_is _ _ _ _
  have hsc : (Value.int k tok).scannable = true := rfl
  have hmem : k ∈ keysOf es ↔ ∃ e ∈ es.toList, (intKind prog w).is k e.2 = true := by
    unfold keysOf
    rw [List.mem_map]
    constructor
    · rintro ⟨e, he, rfl⟩
      obtain ⟨⟨tk, q⟩, _⟩ := g.keys e he
      exact ⟨e, he, by rw [q]; exact intKind_is _ _ _ _⟩
    · rintro ⟨e, he, hp⟩
      obtain ⟨⟨tk, q⟩, _⟩ := g.keys e he
      refine ⟨e, he, ?_⟩
      rw [q] at hp
      exact (intKind prog w).inj (.int e.1 tk) e.1 k (intKind_is _ _ _ _) hp
  unfold setAddHashed setAddHashedIn
  refine wpAny_holding (wpAny_bind (wpAny_setState_of ho hd hf ?_))
  dsimp only
  rw [byScan_of hsc (by unfold scanBound; lia) hel]
  simp only [↓reduceIte]
  unfold setAddByScan
  refine wpAny_bind ?_
  refine wpAny_bind (wpAny_rule ?_)
  refine wpAny_bind (wpAny_setScan_of hkey ho hd hf hel ?_)
  cases hr : List.findIdx? (fun e => (intKind prog w).is k e.2) es.toList with
  | some j =>
    dsimp only
    obtain ⟨hj, hpj, _⟩ := List.findIdx?_eq_some_iff_getElem.mp hr
    have hk : k ∈ keysOf es := hmem.mpr ⟨_, List.getElem_mem hj, hpj⟩
    refine wpAny_pure (wpAny_pure ?_)
    have e : s = { s with heap := s.heap } := by cases s; rfl
    rw [e]
    exact h _ s.heap es ep t (Heap.SameBut.refl a s.heap) (by rw [ho]; obtain ⟨c, d, dt, sl⟩ := o; dsimp only at hd; rw [hd]) g rfl (by rw [if_pos hk])
  | none =>
    dsimp only
    have hk : k ∉ keysOf es := fun q => by
      obtain ⟨e, he, hp⟩ := hmem.mp q
      have := List.findIdx?_eq_none_iff.mp hr e he
      rw [hp] at this; cases this
    have hgw : ∀ {s₁ : Shared} {Q' : Unit → Shared → Prop}, Q' () s₁ → wpAny (model prog w) A (match false with | true => rule "set.scan.the-table-gave-way" | false => pure ()) Q' E s₁ := fun hq => wpAny_pure hq
    obtain ⟨es1, t1, eL, hperm, hled, hpl, hfit, hcase⟩ := Tb.good_add g (tok := tok) h0 h1 hk hl
    have ek : (intKind prog w).hash k = k := hash_small h0 h1
    rw [ek, eL]
    dsimp only
    refine wpAny_bind (hgw ?_)
    have hk1 : (keysOf es1).Perm (keysOf es ++ [k]) := by
      have := hperm.map (·.1)
      rw [Array.toList_push, List.map_append] at this
      exact this
    have hs1 : es1.size = es.size + 1 := by rw [← Array.length_toList, hperm.length_eq, Array.length_toList, Array.size_push]
    rw [hpl]
    simp only [↓reduceIte]
    rw [hashByValue_scannable 8 hsc]
    refine wpAny_bind (wpAny_pure ?_)
    simp only [plainKind, ↓reduceIte]
    refine wpAny_bind (wpAny_storeSet_of ho hd ?_ (small_fits (by lia)))
    have ho1 := set_put ho hd es1 t1
    have hsb1 := Heap.SameBut.update s.heap a (Obj.putSet es1 t1)
    rcases hcase with ⟨hfull, g1⟩ | ⟨hfull, es2, t2, eR, g2, hp2, hl2⟩
    · rw [hfull]
      simp only [Bool.and_false, Bool.false_eq_true, ↓reduceIte]
      refine wpAny_pure ?_
      refine wpAny_pure (h _ _ es1 _ t1 hsb1 ho1 g1 hled (by rw [if_neg hk]; exact hk1))
    · rw [hfull]
      simp only [Bool.not_false, Bool.and_true, ↓reduceIte]
      rw [eR]
      dsimp only
      refine wpAny_bind (hgw ?_)
      have hs2 : es2.size = es.size + 1 := by rw [← Array.length_toList, hp2.length_eq, Array.length_toList, hs1]
      refine wpAny_bind (wpAny_storeSet_of ho1 rfl ?_ (small_fits (by lia)))
      have ho2 := set_put ho1 rfl es2 t2
      refine wpAny_pure ?_
      refine wpAny_pure (h _ _ es2 _ t2 (hsb1.trans (Heap.SameBut.update _ a _)) ho2 g2 hl2 (by rw [if_neg hk]; exact List.Perm.trans (show (keysOf es2).Perm (keysOf es1) from hp2.map (fun (e : Int × Value) => e.1)) hk1))
theorem nodup_le : ∀ (l m : List Int), l.Nodup → (∀ z ∈ l, z ∈ m) → l.length ≤ m.length
  | [], m, _, _ => Nat.zero_le _
  | a :: l, m, hn, hs => by
    obtain ⟨h1, h2⟩ := List.nodup_cons.mp hn
    have ha := hs a List.mem_cons_self
    have := nodup_le l (m.erase a) h2 fun z hz => (List.mem_erase_of_ne (fun (e : z = a) => h1 (e ▸ hz))).mpr (hs z (List.mem_cons_of_mem _ hz))
    rw [List.length_erase_of_mem ha] at this
    have hp : 0 < m.length := List.length_pos_of_mem ha
    rw [List.length_cons]; lia
theorem ints_item0 {l : List Value} {ns : List Int} (h : IntsAre l ns) {i : Nat} {v : Value} (hv : l[i]? = some v) : ∃ c t, v = .int c t ∧ ns[i]? = some c := by
  induction h generalizing i with
  | nil => simp at hv
  | cons k t _ ih =>
    cases i with
    | zero => exact ⟨k, t, by simpa using hv.symm, rfl⟩
    | succ i => simpa using ih (i := i) (by simpa using hv)
noncomputable abbrev setO (es : Array (Int × Value)) (ep : Nat) (t : SetTable) : Obj := { cls := .type "set", dict := none, data := .set es ep t, slots := #[] }
theorem set_loop {R : Result → Shared → Prop} {I l S : Addr} {items : Array Value} {ns : List Int} (hh : A.in1.handled = none) (hne : l ≠ I) (hS1 : S ≠ I) (hS2 : S ≠ l) (hi : IntsAre items.toList ns) (hb : ∀ n ∈ ns, 0 ≤ n ∧ n < 20) (hc : ∀ m : List Int, m.Nodup → (∀ z ∈ m, z ∈ ns) → m.length ≤ 17) :
    ∀ (k i : Nat) (s : Shared) (es : Array (Int × Value)) (ep : Nat) (t : SetTable), items.size - i = k → i ≤ items.size → (s.heap.IsListIter I l i ∧ s.heap.IsList l items) → s.heap.get? S = some (setO es ep t) → Tb.Good t es → (∀ z, z ∈ keysOf es ↔ z ∈ ns.take i) →
      (∀ h' tk es' ep' t', (∀ b o, b ≠ S → b ≠ I → s.heap.get? b = some o → h'.get? b = some o) → h'.get? S = some (setO es' ep' t') → Tb.Good t' es' → t'.led = t.led → (∀ z, z ∈ keysOf es' ↔ z ∈ ns) → R (.ok (.ret .none)) { s with heap := h', toks := tk }) →
      codeAny (model prog w) A (.builtin "set.update.loop" ⟨[.ref S, .ref I], []⟩) R s := by
  have W := Walks.list (prog := prog) (w := w) (A := A.in1) hh I l hne items
  intro k
  induction k with
  | zero =>
    intro i s es ep t hk hi' hst hS g hm hR
    have hin : i = items.size := by lia
    subst hin
    refine codeAny_builtin F.entry_set_update_loop ?_
    rw [Around.under_plainId F.plain_set_update_loop _]
    show wpAny _ A.in1 (pyNext (.ref I) >>= _) _ _ s
    refine wpAny_bind (W.done s _ _ hst fun h' tk hk' => ?_)
    show wpAny _ A.in1 (ret Value.none) _ _ _
    refine wpAny_pure (hR h' tk es ep t (fun b o h1 h2 e => hk' b o (by simpa using h2) e) (hk' S _ (by simpa using hS1) hS) g rfl fun z => ?_)
    rw [hm z, List.take_of_length_le (by rw [← hi.length, Array.length_toList]; exact Nat.le_refl _)]
  | succ k ih =>
    intro i s es ep t hk hi' hst hS g hm hR
    have hlt : i < items.size := by lia
    refine codeAny_builtin F.entry_set_update_loop ?_
    rw [Around.under_plainId F.plain_set_update_loop _]
    show wpAny _ A.in1 (pyNext (.ref I) >>= _) _ _ s
    refine wpAny_bind (W.item i s _ _ hlt hst fun v h' tk hP hst' hk' => ?_)
    obtain ⟨c, tok, rfl, hc'⟩ := ints_item0 hi (i := i) (v := v) (by rw [Array.getElem?_toList]; exact hP)
    have hcb := hb c (List.mem_of_getElem? hc')
    have hl17 : es.size ≤ 17 := by
      have := hc (keysOf es) g.nodup fun z hz => List.mem_of_mem_take ((hm z).mp hz)
      simpa [keysOf] using this
    have hS' := hk' S _ (by simpa using hS1) hS
    show wpAny _ A.in1 (holding [Value.int c tok] (setAdd S (.int c tok)) >>= _) _ _ _
    refine wpAny_bind (wpAny_holding ?_)
    unfold setAdd
    refine wpAny_holding ?_
    refine wpAny_bind ((intKind prog w).pyHash (k := c) (intKind_is _ _ _ _) ?_)
    refine add_good (s := { s with heap := h', toks := tk + 1 }) hS' rfl g hcb.1 hcb.2 hl17 fun b h2 es2 ep2 t2 hsb hg2 g2 hl2 hp2 => ?_
    have keep : ∀ b o, b ≠ S → h'.get? b = some o → h2.get? b = some o := fun b o hb e => hsb.extBut b o hb e
    refine wpAny_pure ⟨plainId_quiet F.plain_set_update_loop _, ih (i + 1) _ es2 ep2 t2 (by lia) hlt (W.frame _ h' h2 hst' fun b hb o e => keep b o (fun q => ?_) e) hg2 g2 (fun z => ?_) fun h3 tk3 es3 ep3 t3 hk3 hg3 g3 hl3 hm3 => ?_⟩
    · rw [q] at hb
      rcases List.mem_cons.mp hb with q' | hb
      · exact hS1 q'
      · exact hS2 (List.mem_singleton.mp hb)
    · rw [hp2.mem_iff, show ns.take (i + 1) = ns.take i ++ [c] by simp [List.take_add_one, hc'], List.mem_append, List.mem_singleton, ← hm z]
      split
      · rename_i hin
        exact ⟨.inl, fun q => q.elim id fun e => e ▸ hin⟩
      · rw [List.mem_append, List.mem_singleton]
    · exact hR h3 tk3 es3 ep3 t3 (fun b o h1 h2' e => hk3 b o h1 h2' (keep b o h1 (hk' b o (by simpa using h2') e))) hg3 g3 (hl3.trans hl2) hm3
end
end Mine
end
section
open PySem PySem.W PyProof.Rows
set_option maxRecDepth 100000
namespace Mine
section
variable {prog : Program} {w : World} {A : Around} {E : Value → Shared → Prop} {s : Shared} {h₀ : Heap} {L : Addr} {m : Str → Option Value} {news : List (Addr × Obj)}
theorem code_new_set (a : Value) {Q₁ : Value → Shared → Prop}
    (h : Q₁ (.ref s.heap.objs.size) { s with heap := s.heap.push (setO #[] 0 (.fresh 0 0 (!byTx w))) }) :
    codeAny (model prog w) A (.call (.builtin "set.__new__") ⟨[.type "set", a], []⟩) (wants Q₁ E) s := by
  refine codeAny_of_tree ?_
  show wpAny _ A.in1 (do checkBuiltinCall "set.__new__" ⟨[.type "set", a], []⟩; again (.builtin "set.__new__" ⟨[.type "set", a], []⟩)) _ _ s
  refine wpAny_bind (wpAny_of_eq (PySem.F.newCall_set_1 a) (wpAny_pure ⟨plainId_quiet PySem.F.plain_set_new _, codeAny_builtin PySem.F.entry_set_new ?_⟩))
  rw [Around.under_plainId PySem.F.plain_set_new _]
  unfold Builtin.«set.__new__» Builtin.Frozenset.newClass
  have hsub := sub_set_self
  obtain ⟨hp, g, d, tk, os⟩ := s
  dsimp only
  wp_walk
  refine wpAny_askSetting (wpAny_pure ?_)
  dsimp only
  simp only [newObj]
  refine wpAny_bind (wpAny_alloc (wpAny_pure ?_))
  exact wpAny_pure h
set_option maxHeartbeats 3200000 in
theorem set_of_list {l : Addr} {vs : List Value} {ns : List Int} {Q : Value → Shared → Prop} (hh : A.handled = none) (F : Fr h₀ L s.heap m) (N : News h₀ L s.heap news) (hl : s.heap.IsList l vs.toArray) (hi : IntsAre vs ns) (hb : ∀ n ∈ ns, 0 ≤ n ∧ n < 20) (hc : ∀ m : List Int, m.Nodup → (∀ z ∈ m, z ∈ ns) → m.length ≤ 17)
    (h : ∀ S h' tk es ep t, Fr h₀ L h' m → News h₀ L h' ((S, setO es ep t) :: news) → (∀ p ∈ news, p.1 < S) → Tb.Good t es → t.led = !byTx w → (∀ z, z ∈ keysOf es ↔ z ∈ ns) → Q (.ref S) { s with heap := h', toks := tk }) :
    wpAny (model prog w) A (call (.type "set") [.ref l]) Q E s := by
  have key : ∀ h' tk es ep t, (∀ b o, s.heap.get? b = some o → h'.get? b = some o) → h'.get? s.heap.objs.size = some (setO es ep t) → Tb.Good t es → t.led = !byTx w → (∀ z, z ∈ keysOf es ↔ z ∈ ns) → Q (.ref s.heap.objs.size) { s with heap := h', toks := tk } := by
    intro h' tk es ep t hk hg g hled hm
    have hLlt : L < s.heap.objs.size := F.ns.lt
    refine h _ h' tk es ep t (F.keeps hk) (fun p hp => ?_) (fun p hp => Heap.lt_size (N p hp).1) g hled hm
    rcases List.mem_cons.mp hp with rfl | hp
    · refine ⟨hg, Nat.ne_of_gt hLlt, ?_⟩
      cases hq : h₀.get? s.heap.objs.size with
      | none => rfl
      | some o' => exact absurd (Heap.lt_size (F.keep _ _ hq)) (Nat.lt_irrefl _)
    · exact ⟨hk _ _ (N p hp).1, (N p hp).2⟩
  clear h
  obtain ⟨c, tl, hmro⟩ := PySem.F.called_set.mro
  have hmade := PySem.F.called_set.made
  have hsub := PySem.F.called_set.sub
  refine wpAny_call (codeAny_of_tree ?_)
  show wpAny _ _ (callAny (.type "set") _) _ _ _
  refine wpAny_pure ⟨Code.quiet_builtin _ (by decide +kernel), codeAny_builtin PySem.F.entry_type_call ?_⟩
  rw [Around.under_plain (weight_type_call_type "set" [.ref l] []) rfl]
  have h1 := PySem.F.called_set.notType
  have h2 := PySem.F.called_set.canCreate
  have hct := PySem.F.typeCall_set_1 (.ref l)
  repeat (any_goals (first | assumption | wp_step))
  refine codeAny_mono (code_new_set (.ref l) (E := E) (Q₁ := fun obj s₁ => obj = .ref s.heap.objs.size ∧ s₁ = { s with heap := s.heap.push (setO #[] 0 (.fresh 0 0 (!byTx w))) }) ⟨rfl, rfl⟩) fun r s₁ hr => ?_
  cases r with
  | error e => exact hr
  | ok fl =>
    cases fl with
    | ret obj =>
      obtain ⟨rfl, rfl⟩ := hr
      have hS : (s.heap.push (setO #[] 0 (.fresh 0 0 (!byTx w)))).get? s.heap.objs.size = some (setO #[] 0 (.fresh 0 0 (!byTx w))) := Heap.get?_push_size _ rfl
      have hT : Shared.TypeIs { s with heap := s.heap.push (setO #[] 0 (.fresh 0 0 (!byTx w))) } (.ref s.heap.objs.size) "set" := ⟨_, hS, rfl⟩
      have hli := PySem.F.called_set.init.lookup
      have hbi := PySem.F.called_set.init.bind (.ref s.heap.objs.size)
      repeat (any_goals (first | assumption | wp_step))
      refine codeAny_mono (codeAny_call_builtin (R := wants (fun r s₂ => r = .none ∧ ∃ h' tk es ep t, s₂ = { s with heap := h', toks := tk } ∧ (∀ b o, s.heap.get? b = some o → h'.get? b = some o) ∧ h'.get? s.heap.objs.size = some (setO es ep t) ∧ Tb.Good t es ∧ t.led = (!byTx w) ∧ (∀ z, z ∈ keysOf es ↔ z ∈ ns)) E)
        PySem.F.called_set.init.plain PySem.F.entry_set_init (check_set_init_1 hT ?_)) fun r₂ s₂ hr₂ => ?_
      · obtain ⟨ol, hol, hcl, nl, hdl⟩ := hl
        obtain ⟨ocls, odict, odata, oslots⟩ := ol
        simp only at hcl hdl
        subst hcl; subst hdl
        have hol' : (s.heap.push (setO #[] 0 (.fresh 0 0 (!byTx w)))).get? l = some { cls := .type "list", dict := odict, data := .seq vs.toArray nl, slots := oslots } := Heap.get?_push_of_some _ hol
        have hsls := PySem.F.sub_list_set
        have hslf := PySem.F.sub_list_frozenset
        have hne : (Value.type "list" == Value.type "dict") = false := by decide
        have hl1 : (s.heap.push (setO #[] 0 (.fresh 0 0 (!byTx w)))).IsList l vs.toArray := ⟨_, hol', rfl, nl, rfl⟩
        have hlS : l < s.heap.objs.size := Heap.lt_size hol
        unfold Builtin.«set.__init__» noKeywords Builtin.Frozenset.updateFrom
        generalize hPI : pyIter = PI
        wp_walk
        subst hPI
        refine wpAny_pyIter_list hl1 ?_
        refine wpAny_bind (wpAny_runValue ?_)
        have hh3 : A.in1.in1.in1.handled = none := by simp [hh]
        have hsz : (s.heap.push (setO #[] 0 (.fresh 0 0 (!byTx w)))).objs.size = s.heap.objs.size + 1 := Heap.size_push _ _
        refine set_loop (items := vs.toArray) (ns := ns) hh3 (Nat.ne_of_lt (by rw [hsz]; exact Nat.lt_succ_of_lt hlS)) (Nat.ne_of_lt (by rw [hsz]; lia)) (Nat.ne_of_gt hlS) (by simpa using hi) hb hc (vs.toArray.size - 0) 0 _ #[] 0 (.fresh 0 0 (!byTx w)) rfl (Nat.zero_le _)
          ⟨⟨_, Heap.get?_push_size _ rfl, rfl, rfl⟩, hl1.push _⟩ (Heap.get?_push_of_some _ hS) Tb.good_empty (fun z => by simp [keysOf]) fun h' tk es' ep' t' hk hg g hled hm => ?_
        show wpAny _ _ _ _ _ _
        refine wpAny_pure ?_
        show wpAny _ _ (ret Value.none) _ _ _
        refine wpAny_pure ⟨rfl, h', tk, es', ep', t', rfl, fun b o e => ?_, hg, g, hled, hm⟩
        have hb : b < s.heap.objs.size := Heap.lt_size e
        exact hk b o (Nat.ne_of_lt hb) (Nat.ne_of_lt (by rw [hsz]; exact Nat.lt_succ_of_lt hb)) (Heap.get?_push_of_some _ (Heap.get?_push_of_some _ e))
      · cases r₂ with
        | error e => exact hr₂
        | ok fl₂ =>
          cases fl₂ with
          | ret r =>
            obtain ⟨rfl, h', tk, es, ep, t, rfl, hk', hg, g, hled, hm⟩ := hr₂
            repeat (any_goals (first | assumption | wp_step))
            exact key h' tk es ep t hk' hg g hled hm
          | _ => exact hr₂.elim
    | _ => exact hr.elim
end
end Mine
end
section
open PySem PySem.W PyProof.Rows
set_option maxRecDepth 100000
namespace Mine
theorem slot_si_next : Slot "set_iterator" "__next__" "set_iterator.__next__" :=
  .of (owner := "set_iterator") (n := "__next__") (by rw [typeLookup_type, builtinLookup_eq_fast]; kernel_rfl) (by decide +kernel) (by decide +kernel) (by decide +kernel)
    (by first | exact .inl (by decide +kernel) | exact .inr (by decide +kernel)) (by rw [isSubtype_type]; kernel_rfl)
theorem slot_si_iter : Slot "set_iterator" "__iter__" "set_iterator.__iter__" :=
  .of (owner := "set_iterator") (n := "__iter__") (by rw [typeLookup_type, builtinLookup_eq_fast]; kernel_rfl) (by decide +kernel) (by decide +kernel) (by decide +kernel)
    (by first | exact .inl (by decide +kernel) | exact .inr (by decide +kernel)) (by rw [isSubtype_type]; kernel_rfl)
theorem entry_si_next : entryFor table "set_iterator.__next__" = some Builtin.«set_iterator.__next__» := entryFor_of_tree (by kernel_rfl)
theorem args_si_next (a : Value) : argsOk "set_iterator.__next__" ⟨[a], []⟩ := by unfold argsOk; kernel_rfl
theorem entry_si_iter : entryFor table "set_iterator.__iter__" = some Builtin.«dict_keyiterator.__iter__» :=
  entryFor_alias (id' := "dict_keyiterator.__iter__") (by kernel_rfl) (by first | rfl | decide +kernel | (unfold String.splitOn; simp +decide [String.splitOnAux])) (by decide +kernel) (by kernel_rfl)
theorem args_si_iter (a : Value) : argsOk "set_iterator.__iter__" ⟨[a], []⟩ := by unfold argsOk; kernel_rfl
theorem entry_s_iter : entryFor table "set.__iter__" = some Builtin.«frozenset.__iter__» :=
  entryFor_alias (id' := "frozenset.__iter__") (by kernel_rfl) (by first | rfl | decide +kernel | (unfold String.splitOn; simp +decide [String.splitOnAux])) (by decide +kernel) (by kernel_rfl)
theorem args_s_iter (a : Value) : argsOk "set.__iter__" ⟨[a], []⟩ := by unfold argsOk; kernel_rfl
noncomputable abbrev siO (slot i : Nat) (S : Addr) (n ep : Nat) : Obj := { cls := .type "set_iterator", data := .fields #[rawInt slot, rawInt i, .ref S, rawInt n, rawInt ep] }
noncomputable def ordOf (w : World) (S : Addr) (ep : Nat) (es : Array (Int × Value)) : Array (Int × Value) := if byTx w = true then pickOrder (w.params.setOrder S ep) es else es
section
variable {prog : Program} {w : World} {A : Around} {E : Value → Shared → Prop} {s : Shared} {S I : Addr} {es : Array (Int × Value)} {ep : Nat} {t : SetTable}
theorem set_type {s : Shared} (hS : s.heap.get? S = some (setO es ep t)) : s.TypeIs (.ref S) "set" := ⟨_, hS, rfl⟩
theorem not_drawn (hS : s.heap.get? S = some (setO es ep t)) (g : Tb.Good t es) {Q : Bool → Shared → Prop} (h : Q false s) : wpAny (model prog w) A (setDrawn S) Q E s := by
  unfold setDrawn
  refine wpAny_bind (wpAny_setState_of hS rfl g.fits ?_)
  dsimp only
  unfold setsByText
  refine wpAny_bind (wpAny_bind (wpAny_askSetting (wpAny_pure ?_)))
  refine wpAny_pure ?_
  have e : (!(byTx w) && (!t.plain && decide (es.size > 1))) = false := by rw [g.plain]; simp
  show Q (!(byTx w) && (!t.plain && decide (es.size > 1))) s
  rw [e]
  exact h
theorem iter_set {Q : Value → Shared → Prop} (hS : s.heap.get? S = some (setO es ep t)) (g : Tb.Good t es)
    (hQ : Q (.ref s.heap.objs.size) { s with heap := s.heap.push (siO 0 0 S es.size ep) }) : wpAny (model prog w) A (pyIter (.ref S)) Q E s := by
  refine wpAny_pyIter_slot (set_type hS) PySem.F.slot_set_iter (wpAny_call_entry PySem.F.slot_set_iter (set_type hS) entry_s_iter ?_ (args_s_iter _))
  unfold Builtin.«frozenset.__iter__» Builtin.Frozenset.slot0 slotArgs
  simp only [List.isEmpty_nil, Bool.not_true, Bool.false_eq_true, ↓reduceIte, bind_assoc, List.length_nil, bne_self_eq_false]
  unfold Builtin.Frozenset.addrOf Builtin.Frozenset.sizeOf
  refine wpAny_bind (wpAny_pure ?_)
  try dsimp only
  refine wpAny_bind (wpAny_pure ?_)
  refine wpAny_bind (wpAny_bind (wpAny_setEntries_of hS rfl g.fits (wpAny_pure ?_)))
  refine wpAny_bind (not_drawn hS g ?_)
  simp only [Bool.false_eq_true, ↓reduceIte]
  refine wpAny_bind (wpAny_pure ?_)
  refine wpAny_bind (wpAny_setEpoch_of hS rfl g.fits ?_)
  exact wpAny_bind (wpAny_newObj_type (wpAny_pure ⟨_, rfl, "set_iterator", _, ⟨_, Heap.get?_push_size _ rfl, rfl⟩, slot_si_next.lookup, hQ⟩))
theorem erase_perm {α : Type} : ∀ {l : List α} {i : Nat} {x : α}, l[i]? = some x → (x :: l.eraseIdx i).Perm l
  | [], i, x, h => by simp at h
  | a :: l, 0, x, h => by
    obtain rfl : a = x := by simpa using h
    exact List.Perm.refl _
  | a :: l, i + 1, x, h => by
    have h' : l[i]? = some x := by simpa using h
    rw [List.eraseIdx_cons_succ]
    exact (List.Perm.swap a x _).trans (List.Perm.cons a (erase_perm h'))
theorem pick_go {α : Type} (next : Nat → Nat) : ∀ fuel k (left : List α) (out : Array α), left.length ≤ fuel → (pickOrder.go next fuel k left out).toList.Perm (out.toList ++ left)
  | 0, k, left, out, h => by
    have : left = [] := List.length_eq_zero_iff.mp (by lia)
    subst this
    unfold pickOrder.go
    rw [List.append_nil]
  | fuel + 1, k, left, out, h => by
    unfold pickOrder.go
    cases e : left[next k % left.length]? with
    | none =>
      have : left = [] := by
        cases left with
        | nil => rfl
        | cons a l =>
          rw [List.getElem?_eq_none_iff] at e
          have := Nat.mod_lt (next k) (show (a :: l).length > 0 by simp)
          lia
      subst this
      dsimp only
      rw [List.append_nil]
    | some x =>
      dsimp only
      have hp := erase_perm e
      have hl := hp.length_eq
      rw [List.length_cons] at hl
      refine (pick_go next fuel (k + 1) _ _ (by lia)).trans ?_
      rw [Array.toList_push, List.append_assoc]
      exact List.Perm.append_left _ hp
theorem ord_perm : (ordOf w S ep es).toList.Perm es.toList := by
  unfold ordOf
  split
  · unfold pickOrder
    have := pick_go (w.params.setOrder S ep) es.size 0 es.toList #[] (by simp)
    simpa using this
  · exact List.Perm.refl _
/-- the slot at which the i-th turn begins -/
noncomputable def slotAt (t : SetTable) : Nat → Nat
  | 0 => 0
  | i + 1 => t.place.toList.getD i 0 + 1
theorem below_slot (g : Tb.Good t es) {i : Nat} (hi : i ≤ es.size) : SetTable.below t.place (slotAt t i) = i := by
  cases i with
  | zero => exact Tb.below_zero g.ris
  | succ i => exact Tb.below_next g.ris (by rw [g.size]; lia)
noncomputable def SiAt (w : World) (I S : Addr) (es : Array (Int × Value)) (ep : Nat) (t : SetTable) (i : Nat) (h : Heap) : Prop := ∃ slot, h.get? I = some (siO slot i S es.size ep) ∧ h.get? S = some (setO es ep t) ∧ (byTx w = false → slot = slotAt t i)
theorem set_next (g : Tb.Good t es) (hled : t.led = !byTx w) (hS : s.heap.get? S = some (setO es ep t)) {slot i : Nat} (hs : byTx w = false → slot = slotAt t i) (hi : i ≤ es.size) {Q : Option (Value × Nat) → Shared → Prop}
    (hQ : ∀ r, (match (ordOf w S ep es)[i]? with | none => r = none | some e => ∃ nx, r = some (e.2, nx) ∧ (byTx w = false → nx = slotAt t (i + 1))) → Q r s) : wpAny (model prog w) A (setNext S slot i ep) Q E s := by
  unfold setNext
  refine wpAny_bind (wpAny_setState_of hS rfl g.fits ?_)
  dsimp only
  unfold setsByText
  refine wpAny_bind (wpAny_bind (wpAny_askSetting (wpAny_pure ?_)))
  show wpAny _ _ (if byTx w = true then _ else _) _ _ _
  by_cases hb : byTx w = true
  · rw [if_pos hb]
    have e0 : ordOf w S ep es = pickOrder (w.params.setOrder S ep) es := by unfold ordOf; rw [if_pos hb]
    rw [e0] at hQ
    simp only [bne_self_eq_false, Bool.false_eq_true, ↓reduceIte]
    unfold setWalk
    refine wpAny_bind (wpAny_bind (wpAny_setState_of hS rfl g.fits ?_))
    dsimp only
    unfold setsByText
    refine wpAny_bind (wpAny_bind (wpAny_askSetting (wpAny_pure ?_)))
    show wpAny _ _ (if byTx w = true then _ else _) _ _ _
    rw [if_pos hb]
    refine wpAny_bind (wpAny_askSetting (wpAny_pure ?_))
    refine wpAny_pure (hQ _ ?_)
    show (match (pickOrder (w.params.setOrder S ep) es)[i]? with | none => _ | some e => _)
    cases e : (pickOrder (w.params.setOrder S ep) es)[i]? with
    | none => show Option.map _ ((pickOrder (w.params.setOrder S ep) es)[i]?) = none; rw [e]; rfl
    | some x => exact ⟨slot, by show Option.map _ ((pickOrder (w.params.setOrder S ep) es)[i]?) = _; rw [e]; rfl, fun h => by rw [hb] at h; cases h⟩
  · have hb' : byTx w = false := by simpa using hb
    rw [if_neg hb]
    have e0 : ordOf w S ep es = es := by unfold ordOf; rw [if_neg hb]
    rw [e0] at hQ
    have hslot := hs hb'
    have c1 : ¬ (!t.plain && decide (es.size > 1)) = true := by rw [g.plain]; simp
    refine wpAny_ite_split (fun h => absurd h c1) fun _ => ?_
    have c2 : ¬ (!t.led && !es.isEmpty) = true := by rw [hled, hb']; simp
    refine wpAny_bind (m := (if (!t.led && !es.isEmpty) = true then _ else pure ())) ?_
    rw [if_neg c2]
    refine wpAny_pure ?_
    rw [hslot, below_slot g hi]
    refine wpAny_pure (hQ _ ?_)
    cases e : es[i]? with
    | none => rfl
    | some x =>
      have hlt : i < es.size := by
        obtain ⟨q, _⟩ := Array.getElem?_eq_some_iff.mp e
        exact q
      have hp : t.place[i]? = some (t.place.toList.getD i 0) := by
        have : i < t.place.size := by rw [g.size]; exact hlt
        simp [List.getD_eq_getElem?_getD, this]
      rw [hp]
      exact ⟨_, rfl, fun _ => rfl⟩
end
end Mine
end
section
open PySem PySem.W PyProof.Rows
set_option maxRecDepth 100000
namespace Mine
section
variable {prog : Program} {w : World} {A : Around} {E : Value → Shared → Prop} {s : Shared} {S I : Addr} {es : Array (Int × Value)} {ep : Nat} {t : SetTable}
theorem fields2 {h : Heap} {slot i nx : Nat} (hI : h.get? I = some (siO slot i S es.size ep)) : ((h.update I (Obj.mapFields (·.setIfInBounds 0 (rawInt nx)))).update I (Obj.mapFields (·.setIfInBounds 1 (rawInt ((i : Nat) + 1 : Int))))).get? I = some (siO nx (i + 1) S es.size ep) := by
  have h1 := Heap.get?_update_self (Obj.mapFields (·.setIfInBounds 0 (rawInt nx))) hI rfl
  have h2 := Heap.get?_update_self (Obj.mapFields (·.setIfInBounds 1 (rawInt ((i : Nat) + 1 : Int)))) h1 rfl
  exact h2
theorem si_item {slot i : Nat} {x : Value} {Q : Option Value → Shared → Prop} (g : Tb.Good t es) (hled : t.led = !byTx w) (hst : SiAt w I S es ep t i s.heap) (hi : i < es.size) (hx : (ordOf w S ep es)[i]?.map (·.2) = some x) (hne : S ≠ I)
    (hQ : ∀ h', SiAt w I S es ep t (i + 1) h' → Heap.SameBut I s.heap h' → Q (some x) { s with heap := h' }) :
    wpAny (model prog w) A (pyNext (.ref I)) Q E s := by
  obtain ⟨slot, hI, hS, hs⟩ := hst
  have hT : s.TypeIs (.ref I) "set_iterator" := ⟨_, hI, rfl⟩
  unfold pyNext
  refine wpAny_bind (wpAny_attempt (wpAny_callSpecial?_slot (name := Str.ofString "__next__") hT slot_si_next (wpAny_call_entry slot_si_next hT entry_si_next ?_ (args_si_next _))))
  unfold Builtin.«set_iterator.__next__» slotArgs
  simp only [List.isEmpty_nil, Bool.not_true, Bool.false_eq_true, ↓reduceIte, bind_assoc, List.length_nil, bne_self_eq_false]
  refine wpAny_bind (wpAny_pure ?_)
  refine wpAny_bind (wpAny_fieldsOf hI rfl ?_)
  dsimp only [rawInt]
  refine wpAny_bind (wpAny_setEntries_of hS rfl g.fits ?_)
  simp only [bne_self_eq_false, Bool.false_eq_true, ↓reduceIte]
  refine wpAny_bind (set_next (i := i) (slot := slot) g hled hS hs (Nat.le_of_lt hi) fun r hr => ?_)
  obtain ⟨e, he, rfl⟩ := Option.map_eq_some_iff.mp hx
  rw [he] at hr
  obtain ⟨nx, rfl, hnx⟩ := hr
  dsimp only
  refine wpAny_bind (wpAny_setField hI rfl (by simp) ?_)
  have h1 := Heap.get?_update_self (Obj.mapFields (·.setIfInBounds 0 (rawInt nx))) hI rfl
  refine wpAny_bind (wpAny_setField h1 rfl (by simp [Array.size_setIfInBounds]) ?_)
  refine wpAny_pure ⟨e.2, rfl, wpAny_pure (hQ _ ⟨nx, fields2 hI, ?_, hnx⟩ ((Heap.SameBut.update ..).trans (Heap.SameBut.update ..)))⟩
  exact ((Heap.SameBut.update s.heap I (Obj.mapFields (·.setIfInBounds 0 (rawInt nx)))).trans (Heap.SameBut.update ..)).extBut S _ hne hS
theorem si_end {i : Nat} {Q : Option Value → Shared → Prop} (hh : A.handled = none) (g : Tb.Good t es) (hled : t.led = !byTx w) (hst : SiAt w I S es ep t i s.heap) (hi : i = es.size)
    (hQ : ∀ h', Heap.ExtBut I s.heap h' → Q none { s with heap := h' }) :
    wpAny (model prog w) A (pyNext (.ref I)) Q E s := by
  obtain ⟨slot, hI, hS, hs⟩ := hst
  have hT : s.TypeIs (.ref I) "set_iterator" := ⟨_, hI, rfl⟩
  unfold pyNext
  refine wpAny_bind (wpAny_attempt (wpAny_callSpecial?_slot (name := Str.ofString "__next__") hT slot_si_next (wpAny_call_entry slot_si_next hT entry_si_next ?_ (args_si_next _))))
  unfold Builtin.«set_iterator.__next__» slotArgs
  simp only [List.isEmpty_nil, Bool.not_true, Bool.false_eq_true, ↓reduceIte, bind_assoc, List.length_nil, bne_self_eq_false]
  refine wpAny_bind (wpAny_pure ?_)
  refine wpAny_bind (wpAny_fieldsOf hI rfl ?_)
  dsimp only [rawInt]
  refine wpAny_bind (wpAny_setEntries_of hS rfl g.fits ?_)
  simp only [bne_self_eq_false, Bool.false_eq_true, ↓reduceIte]
  refine wpAny_bind (set_next (i := i) (slot := slot) g hled hS hs (Nat.le_of_eq hi) fun r hr => ?_)
  have hsz : (ordOf w S ep es).size = es.size := by rw [← Array.length_toList, ord_perm.length_eq, Array.length_toList]
  have he : (ordOf w S ep es)[i]? = none := by rw [Array.getElem?_eq_none_iff, hsz, hi]; exact Nat.le_refl _
  rw [he] at hr
  subst hr
  dsimp only
  refine wpAny_bind (wpAny_setField hI rfl (by simp) ?_)
  show wpAny _ _ (newExc (.type "StopIteration") [] >>= _) _ _ _
  refine wpAny_bind ?_
  simp only [newExc, newTuple]
  refine wpAny_bind (wpAny_newObj_type ?_ (by size_fits))
  refine wpAny_bind (m := firstArgMember _ _) (wpAny_of_eq (a := Value.none) (by first | rfl | (simp only [firstArgMember]; rfl)) ?_)
  refine wpAny_newObj_type ?_ (by size_fits)
  simp only [raiseNew]
  refine wpAny_bind (wpAny_handled ?_)
  first | rw [show A.in1.handled = none from hh] | rw [hh]
  refine wpAny_bind (wpAny_pure (wpAny_throw ?_))
  refine wpAny_bind (wpAny_isInstance (T := "StopIteration") (b := true) ⟨_, Heap.get?_push_size _ rfl, rfl⟩ isSubtype_stop ?_)
  exact wpAny_pure (hQ _ (((Heap.SameBut.update ..).extBut.push _).push _))
theorem si_self {i : Nat} {Q : Value → Shared → Prop} (hst : SiAt w I S es ep t i s.heap) (h : Q (.ref I) s) : wpAny (model prog w) A (pyIter (.ref I)) Q E s := by
  obtain ⟨slot, hI, hS, hs⟩ := hst
  have hT : s.TypeIs (.ref I) "set_iterator" := ⟨_, hI, rfl⟩
  refine wpAny_pyIter_slot hT slot_si_iter (wpAny_call_entry slot_si_iter hT entry_si_iter ?_ (args_si_iter _))
  show wpAny _ _ (ret (.ref I)) _ _ s
  exact wpAny_pure ⟨_, rfl, "set_iterator", _, hT, slot_si_next.lookup, h⟩
theorem walks_set (hh : A.handled = none) (I S : Addr) (hne : S ≠ I) (g : Tb.Good t es) (hled : t.led = !byTx w) :
    Walks prog w A I [I, S] [I] es.size (fun i v => (ordOf w S ep es)[i]?.map (·.2) = some v) (SiAt w I S es ep t) where
  sub := fun b hb => by simp at hb; simp [hb]
  frame := fun i h h' st hk => by
    obtain ⟨slot, hI, hS, hs⟩ := st
    exact ⟨slot, hk I (by simp) _ hI, hk S (by simp) _ hS, hs⟩
  item := fun i s Q E hi st hQ => by
    have hsz : (ordOf w S ep es).size = es.size := by rw [← Array.length_toList, ord_perm.length_eq, Array.length_toList]
    have hlt : i < (ordOf w S ep es).size := by omega
    refine si_item (slot := 0) g hled st hi (x := (ordOf w S ep es)[i].2) (by simp [hlt]) hne fun h' st' hs' => ?_
    exact hQ _ h' s.toks (by simp [hlt]) st' fun b o hb e => hs'.extBut b o (fun h => hb (by simp [h])) e
  done := fun s Q E st hQ => si_end hh g hled st rfl fun h' he' => hQ h' s.toks fun b o hb e => he' b o (fun h => hb (by simp [h])) e
  self := fun i s Q E st hQ => si_self st hQ
theorem hint_set {Q : Bool → Shared → Prop} (hT : s.TypeIs (.ref S) "set") (h : Q false s) : wpAny (model prog w) A (Builtin.List.listLengthHint (.ref S)) Q E s := by
  unfold Builtin.List.listLengthHint
  refine wpAny_bind (wpAny_specialOf hT PySem.F.slot_set_len.lookup ?_)
  generalize hid : ("set.__len__" : String) = id0
  wp_delta
  rw [show splitId id0 = some ("set", "__len__") from by subst hid; decide +kernel]
  subst hid
  refine wpAny_bind (wpAny_isInstance (T := "set") (b := true) hT (by rw [isSubtype_type]; kernel_rfl) ?_)
  refine wpAny_ite_split (fun hab => absurd hab (by decide)) (fun _ => ?_)
  refine wpAny_ite_split (fun _ => ?_) (fun hab => absurd (by decide +kernel) hab)
  refine wpAny_bind (wpAny_typeOf hT ?_)
  exact wpAny_pure h
theorem src_set (g : Tb.Good t es) (hled : t.led = !byTx w) : KdlSrc prog w "set" S S es.size (fun i v => (ordOf w S ep es)[i]?.map (·.2) = some v) (fun h => h.get? S = some (setO es ep t)) where
  type := fun _ hm => set_type hm
  there := fun _ hm => ⟨Heap.lt_size hm, Heap.lt_size hm⟩
  keep := fun _ _ hm hk => hk S (.inl rfl) _ hm
  notList := by decide
  notTuple := by decide
  hint := fun _ _ _ _ hm hq => hint_set (set_type hm) hq
  iter := fun _ s hh hm => ⟨_, _, (fun _ _ hq => iter_set hm g hq), walks_set hh _ S (Nat.ne_of_lt (Heap.lt_size hm)) g hled, ⟨0, Heap.get?_push_size _ rfl, Heap.get?_push_of_some _ hm, fun _ => rfl⟩⟩
end
end Mine
end
section
open PySem PySem.W PyProof.Rows
set_option maxRecDepth 100000
namespace Mine
theorem ints_pairs : ∀ {l : List (Int × Value)}, (∀ e ∈ l, ∃ tok, e.2 = .int e.1 tok) → IntsAre (l.map (·.2)) (l.map (·.1))
  | [], _ => .nil
  | e :: l, h => by
    obtain ⟨tok, q⟩ := h e List.mem_cons_self
    have ih := ints_pairs (l := l) fun e he => h e (List.mem_cons_of_mem _ he)
    rw [List.map_cons, List.map_cons, q]
    exact .cons _ _ ih
theorem vals_eq {l : List (Int × Value)} {vs : List Value} (hl : vs.length = l.length) (h : ∀ (j : Nat) (v : Value), vs[j]? = some v → l[j]?.map (fun (e : Int × Value) => e.2) = some v) : vs = l.map (·.2) := by
  refine List.ext_getElem? fun j => ?_
  cases e : vs[j]? with
  | none =>
    rw [List.getElem?_eq_none_iff] at e
    symm
    rw [List.getElem?_eq_none_iff, List.length_map]
    lia
  | some v => rw [List.getElem?_map, h j v e]
theorem lt_of_nodup {l : List Int} (h : l.Pairwise (fun x y => x ≤ y)) (n : l.Nodup) : l.Pairwise (· < ·) :=
  (List.Pairwise.and h n).imp fun ⟨a, b⟩ => by lia
section
variable {prog : Program} {w : World} {A : Around} {E : Value → Shared → Prop} {s : Shared} {S : Addr} {es : Array (Int × Value)} {ep : Nat} {t : SetTable} {h₀ : Heap} {L : Addr} {m : Str → Option Value} {news : List (Addr × Obj)}
theorem sorted_set {ns : List Int} {Q : Value → Shared → Prop} (hh : A.handled = none) (F : Fr h₀ L s.heap m) (N : News h₀ L s.heap news) (hS : (S, setO es ep t) ∈ news) (g : Tb.Good t es) (hled : t.led = !byTx w) (hm : ∀ z, z ∈ keysOf es ↔ z ∈ ns)
    (h : ∀ D h' tk vs ks c, Fr h₀ L h' m → News h₀ L h' ((D, listOf (List.toArray vs) c) :: news) → (∀ p ∈ news, p.1 < D) → IntsAre vs ks → ks.Pairwise (· < ·) → (∀ z, z ∈ ks ↔ z ∈ ns) → Q (.ref D) { s with heap := h', toks := tk }) :
    wpAny (model prog w) A (call (.builtin "sorted") [.ref S]) Q E s := by
  have hph : es.size ≤ 18 := by
    rcases g.ph with ⟨_, a, _⟩ | ⟨_, a, _⟩
    · lia
    · exact a
  refine kdu_sorted (src_set g hled) hh F N (N _ hS).1 (small_fits hph) fun D h' tk vs F' N' l1 hl hv => ?_
  have hop := ord_perm (w := w) (S := S) (ep := ep) (es := es)
  have hsz : (ordOf w S ep es).toList.length = es.size := by rw [hop.length_eq, Array.length_toList]
  have e1 : vs = (ordOf w S ep es).toList.map (·.2) := vals_eq (hl.trans hsz.symm) fun j v hj => by
    rw [Array.getElem?_toList]
    exact hv j v hj
  have hI : IntsAre vs ((ordOf w S ep es).toList.map (·.1)) := by
    rw [e1]
    exact ints_pairs fun e he => (g.keys e (hop.mem_iff.mp he)).1
  have hkp : ((ordOf w S ep es).toList.map (·.1)).Perm (keysOf es) := hop.map (fun (e : Int × Value) => e.1)
  refine ksk_lsort (its := vs.toArray) (vs := vs) (news' := fun o => (D, o) :: news) F' N' (fun o => .head fun p hp => Nat.ne_of_lt (l1 p hp)) rfl hI (by rw [List.length_map, hsz]; lia) fun vs' ns' c h2 F2 N2 i2 e2 p2 o2 _ => ?_
  have hp := p2.trans hkp
  exact h D h2 tk vs' ns' c F2 N2 l1 i2 (lt_of_nodup o2 (hp.nodup_iff.mpr g.nodup)) fun z => (hp.mem_iff).trans (hm z)
end
end Mine
end
section
open PySem PySem.W PyProof.Rows PySem.Calls PySem.Spec PyProof.Rows.LCg
set_option maxRecDepth 100000
namespace Mine
noncomputable def trip (r : Int) : Int × Int × Int := (rowC 6).getD r.toNat (0, 0, 0)
noncomputable def sidesAll (rs : List Int) : List (Int × Int) := rs.flatMap fun r => sidesOf (trip r)
theorem sidesAll_snoc (rs : List Int) (r : Int) : sidesAll (rs ++ [r]) = sidesAll rs ++ sidesOf (trip r) := by unfold sidesAll; rw [List.flatMap_append]; simp
theorem sidesAll_len : ∀ rs : List Int, (sidesAll rs).length = 3 * rs.length
  | [] => rfl
  | r :: rs => by
    have := sidesAll_len rs
    unfold sidesAll at this ⊢
    rw [List.flatMap_cons, List.length_append, this, List.length_cons]
    show 3 + _ = _
    lia
theorem tri_get {extra : List (Addr × Obj)} {ys : List Value} {l : List (Int × Int × Int)} (h : TriAre extra ys l) {i : Nat} (hi : i < l.length) : ∃ q t1 t2 t3, ys[i]? = some (.ref q) ∧ (q, ({ cls := .type "tuple", data := .seq #[.int (l.getD i (0, 0, 0)).1 t1, .int (l.getD i (0, 0, 0)).2.1 t2, .int (l.getD i (0, 0, 0)).2.2 t3] } : Obj)) ∈ extra := by
  induction h generalizing i with
  | nil => exact absurd hi (Nat.not_lt_zero _)
  | cons hh _ ih =>
    cases i with
    | zero =>
      obtain ⟨q, t1, t2, t3, rfl, hm⟩ := hh
      exact ⟨q, t1, t2, t3, rfl, hm⟩
    | succ i =>
      obtain ⟨q, t1, t2, t3, e, hm⟩ := ih (i := i) (by simpa using hi)
      exact ⟨q, t1, t2, t3, by simpa using e, by simpa using hm⟩
theorem ints_itemL {vs : List Value} {ns : List Int} (h : IntsAre vs ns) {i : Nat} {v : Value} (hv : vs.toArray[i]? = some v) : ∃ c t, v = .int c t ∧ ns[i]? = some c := ints_item0 h (by simpa using hv)
section
variable {w : World} {mean : ExcName → Option Value} {mg mb : Str → Option Value} {g : Heap} {L a : Addr} {ccd : Value} {s : Shared} {m : Str → Option Value} {p p0 tp px px2 : Pos} {kk : Nat} {C D I : Addr}
theorem sid_lvl0 (X : (Mine.hd.heap_39 w.params).In g) (T : Top Mine.hd.view_39 lo mean mg mb g) {lt ld : Addr} {oc : Obj} {vt vd : List Value} {nt nd : Nat} {rs : List Int} {mC : Str → Option Value} {extra : List (Addr × Obj)} {K : Shared → Prop}
    (st : CSt g L m C D mC [] extra s.heap) (hI : s.heap.IsListIter I ld 0 ∧ s.heap.IsList ld vd.toArray) (iC : I ≠ C) (iD : I ≠ D) (iL : I ≠ L) (i0 : g.get? I = none) (ix : ∀ q ∈ extra, q.1 ≠ I)
    (hd : (ld, listOf vd.toArray nd) ∈ extra) (hdi : IntsAre vd rs) (hrs : ∀ r ∈ rs, 0 ≤ r ∧ r < 20) (hl : rs.length ≤ 12)
    (hc : (L + 1, oc) ∈ extra) (hcd : oc.data = .cell (some (.ref lt))) (hlt : (lt, listOf vt.toArray nt) ∈ extra) (hT : TriAre extra vt (rowC 6))
    (done : ∀ mC' ys' extra' h' tk', CSt g L m C D mC' ys' extra' h' → Grown extra extra' → PrsAre extra' ys' (sidesAll rs) → K { s with heap := h', toks := tk' }) :
    codeAny (model rprog w) (lawA L a ccd) (.compLoop (sidL p p0 tp px px2 kk) 0 (.ref I) (.ref D) (sidC L a ccd C)) (fun r s₅ => ∃ f, r = .ok f ∧ K s₅) s := by
  have hln : vd.toArray.size = rs.length := by rw [List.size_toArray, hdi.length]
  refine level_w (Sx := SrcAt g ld vd.toArray) (Code0 := fun R0 => codeAny (model rprog w) (lawA L a ccd) (.compLoop (sidL p p0 tp px px2 kk) 0 (.ref I) (.ref D) (sidC L a ccd C)) (fun r s₅ => ∃ f, r = .ok f ∧ R0 s₅) s)
    (TURN := fun v s₁ K' => wpAny (model rprog w) (lawA L a ccd) (assign (.Name (Str.ofString "rank") p0) (sidC L a ccd C) v) (fun _ s₂ => wpAny (model rprog w) (lawA L a ccd) (eval (iterOf sidE 1) (sidC L a ccd C)) (fun x s₃ => wpAny (model rprog w) (lawA L a ccd) (pyIter x) (fun it2 s₄ => codeAny (model rprog w) (lawA L a ccd) (.compStart (sidL p p0 tp px px2 kk) 1 it2 (.ref D) (sidC L a ccd C)) (fun r s₅ => ∃ f, r = .ok f ∧ K' s₅) s₄) NoE s₃) NoE s₂) NoE s₁)
    (J := fun i mC' ys' extra' => Grown extra extra' ∧ PrsAre extra' ys' (sidesAll (rs.take i)))
    (fun R0 Inv turn k hk => loop_nest (turn2_0 _ _ _ _ _ _ _ _ _ _) Inv (fun k s' hs' => wpAny_mono (turn k s' hs') (fun r s₁ hr => by
      cases r with
      | none => exact ⟨_, rfl, hr⟩
      | some v => exact hr) fun _ _ e => e) k hk (fun _ => rfl) (fun _ => rfl)) (Walks.list rfl I ld (ix _ hd) vd.toArray) (fun i h st => by obtain ⟨o, e, hcl, _⟩ := st.1; exact ⟨o, e, by rw [hcl]; decide⟩) list_st st hI iC iD iL i0 ix (fun i mC' ys' extra' hJ => .inr ⟨_, hJ.1.sub _ hd, rfl, _, rfl⟩)
    ⟨.refl, .nil⟩ (fun i v mC' ys' extra' h tk o K' hi hv' hJ st' hst' ix' ho k => ?_) (fun mC' ys' extra' h' tk' st' hJ => ?_)
  · obtain ⟨hg, hP'⟩ := hJ
    obtain ⟨r, tr, rfl, hr⟩ := ints_itemL hdi hv'
    have hrb := hrs r (List.mem_of_getElem? hr)
    have hsn : rs.take (i + 1) = rs.take i ++ [r] := by simp [List.take_add_one, hr]
    have hlen : ys'.length ≤ 60 := by
      rw [hP'.length, sidesAll_len, List.length_take]; lia
    refine assign_nameC (s := { s with heap := h, toks := tk }) st' rfl rfl fun h2 tk2 st2 => ?_
    obtain ⟨oC, hoC, NN⟩ := st2.ledger
    refine sid_i1 (s := { s with heap := h2, toks := tk2 }) hoC X T st2.fr NN fun T0 p1 p2 p3 t1 t2 t3 u1 u2 u3 h3 tk3 F3 N3 ne1 of1 => ?_
    have st3' := st2.back hoC F3 (fun e he => N3 e (List.mem_cons_of_mem _ (List.mem_cons_of_mem _ (List.mem_cons_of_mem _ (List.mem_cons_of_mem _ he)))))
    have oC1 := of1 _ List.mem_cons_self
    have oD1 := of1 _ (List.mem_cons_of_mem _ List.mem_cons_self)
    have st3 : CSt g L m C D _ ys' ((T0, ({ cls := .type "tuple", data := .seq #[.ref p1, .ref p2, .ref p3] } : Obj)) :: (p3, pairObj 1 2 t3 u3) :: (p2, pairObj 0 2 t2 u2) :: (p1, pairObj 0 1 t1 u1) :: (I, o) :: extra') h3 := ⟨st3'.fr, fun e he => N3 e (by
        simp only [List.mem_cons] at he ⊢
        rcases he with h | h | h | h | h | h
        · exact .inl h
        · exact .inr (.inl h)
        · exact .inr (.inr (.inl h))
        · exact .inr (.inr (.inr (.inl h)))
        · exact .inr (.inr (.inr (.inr (.inr (.inr (.inl h))))))
        · exact .inr (.inr (.inr (.inr (.inr (.inr (.inr h))))))), st3'.dl, st3'.ns, st3'.cd, st3'.cl, st3'.dL, st3'.c0, st3'.d0, fun e he => by
        simp only [List.mem_cons] at he
        rcases he with rfl | rfl | rfl | rfl | h
        · exact ⟨oC1.2.2.2.symm, oD1.2.2.2.symm⟩
        · exact ⟨oC1.2.2.1.symm, oD1.2.2.1.symm⟩
        · exact ⟨oC1.2.1.symm, oD1.2.1.symm⟩
        · exact ⟨oC1.1.symm, oD1.1.symm⟩
        · exact st3'.offs e (List.mem_cons.mpr h)⟩
    refine clause_tup (s := { s with heap := h3, toks := tk3 }) (d := 1) rfl rfl st3 (T0 := T0) (its := #[.ref p1, .ref p2, .ref p3]) ⟨_, List.mem_cons_self, rfl, _, rfl⟩ fun I2 h4 st4 hI2 i2C i2D i2L i20 i2x => ?_
    obtain ⟨tq, tc, tb, tz, htq, htm⟩ := tri_get hT (i := r.toNat) (by rw [rowC_len]; lia)
    have up : ∀ e ∈ extra, e ∈ (T0, ({ cls := .type "tuple", data := .seq #[.ref p1, .ref p2, .ref p3] } : Obj)) :: (p3, pairObj 1 2 t3 u3) :: (p2, pairObj 0 2 t2 u2) :: (p1, pairObj 0 1 t1 u1) :: (I, o) :: extra' := fun e he =>
      List.mem_cons_of_mem _ (List.mem_cons_of_mem _ (List.mem_cons_of_mem _ (List.mem_cons_of_mem _ (List.mem_cons_of_mem _ (hg.sub e he)))))
    refine sid_lvl1 (s := { s with heap := h4, toks := tk3 }) X T st4 hI2 i2C i2D i2L i20 i2x List.mem_cons_self (List.mem_cons_of_mem _ (List.mem_cons_of_mem _ (List.mem_cons_of_mem _ List.mem_cons_self))) (List.mem_cons_of_mem _ (List.mem_cons_of_mem _ List.mem_cons_self)) (List.mem_cons_of_mem _ List.mem_cons_self)
      (up _ hc) hcd (up _ hlt) (by simpa using htq) (up _ htm) hrb.1 (by lia) (if_pos rfl) hlen (hP'.more fun e he => List.mem_cons_of_mem _ (List.mem_cons_of_mem _ (List.mem_cons_of_mem _ (List.mem_cons_of_mem _ (List.mem_cons_of_mem _ he))))) fun mC5 ys5 e5 h5 tk5 st5 hg5 hP5 => ?_
    have hgI : Grown ((I, o) :: extra') e5 := by
      have q1 : Grown ((I, o) :: extra') ((T0, ({ cls := .type "tuple", data := .seq #[.ref p1, .ref p2, .ref p3] } : Obj)) :: (p3, pairObj 1 2 t3 u3) :: (p2, pairObj 0 2 t2 u2) :: (p1, pairObj 0 1 t1 u1) :: (I, o) :: extra') := by
        have ofs : ∀ e ∈ (I, o) :: extra', e.1 ≠ p1 ∧ e.1 ≠ p2 ∧ e.1 ≠ p3 ∧ e.1 ≠ T0 := fun e he => of1 e (List.mem_cons_of_mem _ (List.mem_cons_of_mem _ he))
        refine .cons (.cons (.cons (.cons .refl fun e he => (ofs e he).1.symm) fun e he => ?_) fun e he => ?_) fun e he => ?_
        · rcases List.mem_cons.mp he with rfl | he
          · exact ne1.1.symm
          · exact (ofs e he).2.1.symm
        · rcases List.mem_cons.mp he with rfl | he
          · exact ne1.2.2.1.symm
          · rcases List.mem_cons.mp he with rfl | he
            · exact ne1.2.1.symm
            · exact (ofs e he).2.2.1.symm
        · rcases List.mem_cons.mp he with rfl | he
          · exact ne1.2.2.2.2.2.symm
          · rcases List.mem_cons.mp he with rfl | he
            · exact ne1.2.2.2.2.1.symm
            · rcases List.mem_cons.mp he with rfl | he
              · exact ne1.2.2.2.1.symm
              · exact (ofs e he).2.2.2.symm
      exact q1.trans hg5
    obtain ⟨e3, g3, x3, k3⟩ := hgI.off ix'
    refine k mC5 ys5 e3 h5 tk5 (st5.mono fun e he => ?_) x3 ⟨hg.trans g3, ?_⟩
    · rcases List.mem_cons.mp he with rfl | he
      · exact (k3 _).mpr (.inl rfl)
      · exact (k3 _).mpr (.inr he)
    · rw [hsn, sidesAll_snoc]
      exact hP5.off ho k3
  · refine done _ _ _ _ _ st' hJ.1 ?_
    have := hJ.2
    rwa [List.take_of_length_le (by rw [hln]; exact Nat.le_refl _)] at this
end
end Mine
end
section
open PySem PySem.W PyProof.Rows
set_option maxRecDepth 100000
namespace Mine
theorem rot_is {v1 : List Value} {a b c o : Int} (h : StrsAre v1 ([a, b, c].map wordOf)) (o0 : 0 ≤ o) (o1 : o < 3) : ∃ k0 k1 k2 u0 u1 u2, kms_pick v1 (some o) none ++ kms_pick v1 none (some o) = [.str (wordOf k0) u0, .str (wordOf k1) u1, .str (wordOf k2) u2] ∧
    ((k0 = a ∧ k1 = b ∧ k2 = c) ∨ (k0 = b ∧ k1 = c ∧ k2 = a) ∨ (k0 = c ∧ k1 = a ∧ k2 = b)) := by
  have ho : o = 0 ∨ o = 1 ∨ o = 2 := by lia
  simp only [List.map_cons, List.map_nil] at h
  cases h with
  | cons _ t0 h => cases h with
    | cons _ t1 h => cases h with
      | cons _ t2 h =>
        cases h
        rcases ho with rfl | rfl | rfl
        · exact ⟨a, b, c, t0, t1, t2, rfl, .inl ⟨rfl, rfl, rfl⟩⟩
        · exact ⟨b, c, a, t1, t2, t0, rfl, .inr (.inl ⟨rfl, rfl, rfl⟩)⟩
        · exact ⟨c, a, b, t2, t0, t1, rfl, .inr (.inr ⟨rfl, rfl, rfl⟩)⟩
theorem downs_rot {a b c k0 k1 k2 : Int} (h1 : b < a) (h2 : c < b) (h : (k0 = a ∧ k1 = b ∧ k2 = c) ∨ (k0 = b ∧ k1 = c ∧ k2 = a) ∨ (k0 = c ∧ k1 = a ∧ k2 = b)) : Downs [k1, k2, k0] [a, b, c] := by
  intro ns' hp hs
  have hp2 : ns'.Perm [a, b, c] := by
    refine hp.trans ?_
    rcases h with ⟨rfl, rfl, rfl⟩ | ⟨rfl, rfl, rfl⟩ | ⟨rfl, rfl, rfl⟩
    · exact (List.perm_append_comm (l₁ := [k1, k2]) (l₂ := [k0]))
    · exact (List.perm_append_comm (l₁ := [k1]) (l₂ := [k2, k0]))
    · exact List.Perm.refl _
  have hl := hp2.length_eq
  match ns', hl with
  | [x, y, z], _ =>
    simp only [List.pairwise_cons, List.mem_cons, List.not_mem_nil, or_false, forall_eq_or_imp, forall_eq] at hs
    have hx : x ∈ [a, b, c] := hp2.mem_iff.mp (by simp)
    have hz : z ∈ [a, b, c] := hp2.mem_iff.mp (by simp)
    have hy : y ∈ [a, b, c] := hp2.mem_iff.mp (by simp)
    have ga : a ∈ [x, y, z] := hp2.mem_iff.mpr (by simp)
    have gb : b ∈ [x, y, z] := hp2.mem_iff.mpr (by simp)
    have gc : c ∈ [x, y, z] := hp2.mem_iff.mpr (by simp)
    simp only [List.mem_cons, List.not_mem_nil, or_false] at hx hy hz ga gb gc
    have e1 : a = x := by lia
    have e3 : c = z := by lia
    have e2 : b = y := by lia
    rw [e1, e2, e3]
theorem trip_down : ∀ i : Nat, i < 20 → ((rowC 6).getD i (0, 0, 0)).2.1 < ((rowC 6).getD i (0, 0, 0)).1 ∧ ((rowC 6).getD i (0, 0, 0)).2.2 < ((rowC 6).getD i (0, 0, 0)).2.1 := by decide
end Mine
end
section
open PySem PySem.W PyProof.Rows PySem.Calls PySem.Spec PyProof.Rows.LCg
set_option maxRecDepth 100000
namespace Mine
local macro_rules | `(tactic| omega) => `(tactic| lia)
local macro_rules | `(tactic| ktr_unf) => `(tactic| first | assumption | (dsimp only; (repeat (first | (rw [if_pos (by decide)]) | (rw [if_neg (by decide)]))); first | rfl | assumption))
local macro_rules | `(tactic| k_all) => `(tactic| assumption)
local macro_rules | `(tactic| k_mem) => `(tactic| assumption)
example (w : World) (h : Heap) : (Mine.hd.heap_39 w.params).In h → rprog = PySem.Challenge.rw_wy0014_01.prog → True := by
  k_fill
  intros; trivial
theorem fm_lo7 {n : Int} : 0 ≤ n.fmod 3 := Int.fmod_nonneg_of_pos _ (by decide)
theorem fm_hi7 {n : Int} : n.fmod 3 < 3 := Int.fmod_lt_of_pos _ (by decide)
theorem fm5_lo7 {n : Int} : 0 ≤ n.fmod 5 := Int.fmod_nonneg_of_pos _ (by decide)
theorem fm5_hi7 {n : Int} : n.fmod 5 < 5 := Int.fmod_lt_of_pos _ (by decide)
section
variable {w : World} {mean : ExcName → Option Value} {mg mb : Str → Option Value} {g : Heap} {L a : Addr} {ccd : Value} {s : Shared} {m : Str → Option Value} {news : List (Addr × Obj)} {Q : Flow → Shared → Prop} {E : Value → Shared → Prop}

set_option maxHeartbeats 4000000 in
theorem st_foreign {n : Int} {t ty : Tok} {y : Str} (hn : m (Str.ofString "rank") = some (.int n t)) (hm2 : m (Str.ofString "reply") = some (.str y ty)) (h0 : 0 ≤ n) (hy : y.length ≤ 1000)
   (X : (Mine.hd.heap_39 w.params).In g) (T : Top Mine.hd.view_39 lo mean mg mb g) (F : Fr g L s.heap m) (N : News g L s.heap news)
   (hQ : ∀ t' h' tk', Fr g L h' (fun z => if z = (Str.ofString "foreign") then some (.str ([Str.ofString "129", Str.ofString "209", Str.ofString "220", Str.ofString "228", Str.ofString "329"].getD (n.fmod 5).toNat Str.empty ++ Txt.slice y (some 3) none) t') else m z) → News g L h' news → Q .next { s with heap := h', toks := tk' }) :
   wpAny (model rprog w) (callerA.deeper (envOfC (Str.ofString "law") lawScope L a ccd)) (exec (loopS 21) (envOfC (Str.ofString "law") lawScope L a ccd)) Q E s := by
  show wpAny _ _ (exec (Stmt.Assign _ _ _) _) _ _ _
  w_strict (repeat' (first | (k_unfold; (try dsimp only)) | (k_end; wrow_close) | ((with_reducible show wpAny _ _ (subscriptTail _ _ _ _) _ _ _); (k_here; k_dflt (refine' KTb.item_list ?zzl ?zzw ?zza ?zzb ?zzc ?_; (case zzl => exact list_at (by k_asm) (List.Mem.head _)); (case zzw => repeat constructor); (case zza => first | exact fm_lo7 | exact fm5_lo7); (case zzb => first | exact fm_hi7 | exact fm5_hi7); (case zzc => first | exact Int.lt_of_lt_of_le fm_hi7 (by decide) | exact Int.lt_of_lt_of_le fm5_hi7 (by decide))); intro _ _)) | ((with_reducible show wpAny _ _ (eval (Expr.Name ..) _) _ _ _); (k_here; k_dflt (first | (refine' nameX_L ?zzF ?zzv ?_ ?zza ?zzb; (case zzF => k_asm); (case zza => rfl); (case zzb => rfl); (case zzv => ktr_unf); k_whole) | (refine' nameX_C ?zzN ?zzc ?zzm ?zzd ?_ ?zza ?zzb; (case zza => rfl); (case zzb => rfl); (case zzN => k_asm); (case zzc => rfl); (case zzm => first | k_mem | assumption); (case zzd => first | assumption | rfl); k_whole)))) | walk1 | (dsimp only; first | ((with_reducible show wpAny _ _ (subscriptTail _ _ _ _) _ _ _); (k_here; k_dflt (refine' KTb.item_list ?zzl ?zzw ?zza ?zzb ?zzc ?_; (case zzl => exact list_at (by k_asm) (List.Mem.head _)); (case zzw => repeat constructor); (case zza => first | exact fm_lo7 | exact fm5_lo7); (case zzb => first | exact fm_hi7 | exact fm5_hi7); (case zzc => first | exact Int.lt_of_lt_of_le fm_hi7 (by decide) | exact Int.lt_of_lt_of_le fm5_hi7 (by decide))); intro _ _)) | ((with_reducible show wpAny _ _ (eval (Expr.Name ..) _) _ _ _); (k_here; k_dflt (first | (refine' nameX_L ?zzF ?zzv ?_ ?zza ?zzb; (case zzF => k_asm); (case zza => rfl); (case zzb => rfl); (case zzv => ktr_unf); k_whole) | (refine' nameX_C ?zzN ?zzc ?zzm ?zzd ?_ ?zza ?zzb; (case zza => rfl); (case zzb => rfl); (case zzN => k_asm); (case zzc => rfl); (case zzm => first | k_mem | assumption); (case zzd => first | assumption | rfl); k_whole)))) | walk1) | (leave1; try dsimp only) | fail "no step"))
  exact hQ _ _ _ (by assumption) (fun p hp => (by assumption : News _ _ _ (_ :: news)) p (List.mem_cons_of_mem _ hp))

set_option maxHeartbeats 4000000 in
theorem st_void {n : Int} {t ty tx : Tok} {x y : Str} (hn : m (Str.ofString "dress") = some (.int n t)) (hm : m (Str.ofString "front") = some (.str x tx)) (hm2 : m (Str.ofString "reply") = some (.str y ty)) (h0 : 0 ≤ n) (hx : x.length ≤ 1000) (hy : y.length ≤ 1000)
   (X : (Mine.hd.heap_39 w.params).In g) (T : Top Mine.hd.view_39 lo mean mg mb g) (F : Fr g L s.heap m) (N : News g L s.heap news)
   (hQ : ∀ t' h' tk', Fr g L h' (fun z => if z = (Str.ofString "void") then some (.str ([x, x ++ Str.ofString ") FLAGS ()", Str.ofString "229)\r\n" ++ Txt.slice y (some 4) none].getD ((n.fdiv 144).fmod 3).toNat Str.empty) t') else m z) → News g L h' news → Q .next { s with heap := h', toks := tk' }) :
   wpAny (model rprog w) (callerA.deeper (envOfC (Str.ofString "law") lawScope L a ccd)) (exec (loopS 18) (envOfC (Str.ofString "law") lawScope L a ccd)) Q E s := by
  show wpAny _ _ (exec (Stmt.Assign _ _ _) _) _ _ _
  w_strict (repeat' (first | (k_unfold; (try dsimp only)) | (k_end; wrow_close) | ((with_reducible show wpAny _ _ (subscriptTail _ _ _ _) _ _ _); (k_here; k_dflt (refine' KTb.item_list ?zzl ?zzw ?zza ?zzb ?zzc ?_; (case zzl => exact list_at (by k_asm) (List.Mem.head _)); (case zzw => repeat constructor); (case zza => first | exact fm_lo7 | exact fm5_lo7); (case zzb => first | exact fm_hi7 | exact fm5_hi7); (case zzc => first | exact Int.lt_of_lt_of_le fm_hi7 (by decide) | exact Int.lt_of_lt_of_le fm5_hi7 (by decide))); intro _ _)) | ((with_reducible show wpAny _ _ (eval (Expr.Name ..) _) _ _ _); (k_here; k_dflt (first | (refine' nameX_L ?zzF ?zzv ?_ ?zza ?zzb; (case zzF => k_asm); (case zza => rfl); (case zzb => rfl); (case zzv => ktr_unf); k_whole) | (refine' nameX_C ?zzN ?zzc ?zzm ?zzd ?_ ?zza ?zzb; (case zza => rfl); (case zzb => rfl); (case zzN => k_asm); (case zzc => rfl); (case zzm => first | k_mem | assumption); (case zzd => first | assumption | rfl); k_whole)))) | walk1 | (dsimp only; first | ((with_reducible show wpAny _ _ (subscriptTail _ _ _ _) _ _ _); (k_here; k_dflt (refine' KTb.item_list ?zzl ?zzw ?zza ?zzb ?zzc ?_; (case zzl => exact list_at (by k_asm) (List.Mem.head _)); (case zzw => repeat constructor); (case zza => first | exact fm_lo7 | exact fm5_lo7); (case zzb => first | exact fm_hi7 | exact fm5_hi7); (case zzc => first | exact Int.lt_of_lt_of_le fm_hi7 (by decide) | exact Int.lt_of_lt_of_le fm5_hi7 (by decide))); intro _ _)) | ((with_reducible show wpAny _ _ (eval (Expr.Name ..) _) _ _ _); (k_here; k_dflt (first | (refine' nameX_L ?zzF ?zzv ?_ ?zza ?zzb; (case zzF => k_asm); (case zza => rfl); (case zzb => rfl); (case zzv => ktr_unf); k_whole) | (refine' nameX_C ?zzN ?zzc ?zzm ?zzd ?_ ?zza ?zzb; (case zza => rfl); (case zzb => rfl); (case zzN => k_asm); (case zzc => rfl); (case zzm => first | k_mem | assumption); (case zzd => first | assumption | rfl); k_whole)))) | walk1) | (leave1; try dsimp only) | fail "no step"))
  exact hQ _ _ _ (by assumption) (fun p hp => (by assumption : News _ _ _ (_ :: news)) p (List.mem_cons_of_mem _ hp))
end
end Mine
end
section
open PySem PySem.W PyProof.Rows PySem.Calls PySem.Spec
set_option maxRecDepth 100000
namespace Mine
local macro_rules | `(tactic| omega) => `(tactic| lia)
local macro_rules | `(tactic| ktr_unf) => `(tactic| first | assumption | (dsimp only; (repeat (first | (rw [if_pos (by decide)]) | (rw [if_neg (by decide)]))); first | rfl | assumption))
local macro_rules | `(tactic| k_all) => `(tactic| assumption)
local macro_rules | `(tactic| k_mem) => `(tactic| assumption)
example (w : World) (h : Heap) : (Mine.hd.heap_39 w.params).In h → rprog = PySem.Challenge.rw_wy0014_01.prog → True := by
  k_fill
  intros; trivial
section
variable {w : World} {mean : ExcName → Option Value} {mg mb : Str → Option Value} {g : Heap} {L a : Addr} {ccd : Value} {s : Shared} {m : Str → Option Value} {news : List (Addr × Obj)} {Q : Flow → Shared → Prop} {E : Value → Shared → Prop}

set_option maxHeartbeats 4000000 in
theorem st_told {n : Int} {t : Tok} (hn : m (Str.ofString "number") = some (.int n t))
   (X : (Mine.hd.heap_39 w.params).In g) (T : Top Mine.hd.view_39 lo mean mg mb g) (F : Fr g L s.heap m) (N : News g L s.heap news)
   (hQ : ∀ t' h' tk', Fr g L h' (fun y => if y = (Str.ofString "told") then some (.int (n.fmod 57600) t') else m y) → News g L h' news → Q .next { s with heap := h', toks := tk' }) :
   wpAny (model rprog w) (callerA.deeper (envOfC (Str.ofString "law") lawScope L a ccd)) (exec (loopS 0) (envOfC (Str.ofString "law") lawScope L a ccd)) Q E s := by
  show wpAny _ _ (exec (Stmt.Assign _ _ _) _) _ _ _
  w_strict (repeat' (first | (k_unfold; (try dsimp only)) | (k_end; wrow_close) | ((with_reducible show wpAny _ _ (eval (Expr.Name ..) _) _ _ _); (k_here; k_dflt (first | (refine' nameX_L ?zzF ?zzv ?_ ?zza ?zzb; (case zzF => k_asm); (case zza => rfl); (case zzb => rfl); (case zzv => ktr_unf); k_whole) | (refine' nameX_C ?zzN ?zzc ?zzm ?zzd ?_ ?zza ?zzb; (case zza => rfl); (case zzb => rfl); (case zzN => k_asm); (case zzc => rfl); (case zzm => first | k_mem | assumption); (case zzd => first | assumption | rfl); k_whole)))) | walk1 | (dsimp only; first | ((with_reducible show wpAny _ _ (eval (Expr.Name ..) _) _ _ _); (k_here; k_dflt (first | (refine' nameX_L ?zzF ?zzv ?_ ?zza ?zzb; (case zzF => k_asm); (case zza => rfl); (case zzb => rfl); (case zzv => ktr_unf); k_whole) | (refine' nameX_C ?zzN ?zzc ?zzm ?zzd ?_ ?zza ?zzb; (case zza => rfl); (case zzb => rfl); (case zzN => k_asm); (case zzc => rfl); (case zzm => first | k_mem | assumption); (case zzd => first | assumption | rfl); k_whole)))) | walk1) | (leave1; try dsimp only) | fail "no step"))
  exact hQ _ _ _ (by assumption) (by assumption)

set_option maxHeartbeats 4000000 in
theorem st_rank {n : Int} {t : Tok} (hn : m (Str.ofString "told") = some (.int n t))
   (X : (Mine.hd.heap_39 w.params).In g) (T : Top Mine.hd.view_39 lo mean mg mb g) (F : Fr g L s.heap m) (N : News g L s.heap news)
   (hQ : ∀ t' h' tk', Fr g L h' (fun y => if y = (Str.ofString "rank") then some (.int (n.fmod 20) t') else m y) → News g L h' news → Q .next { s with heap := h', toks := tk' }) :
   wpAny (model rprog w) (callerA.deeper (envOfC (Str.ofString "law") lawScope L a ccd)) (exec (loopS 1) (envOfC (Str.ofString "law") lawScope L a ccd)) Q E s := by
  show wpAny _ _ (exec (Stmt.Assign _ _ _) _) _ _ _
  w_strict (repeat' (first | (k_unfold; (try dsimp only)) | (k_end; wrow_close) | ((with_reducible show wpAny _ _ (eval (Expr.Name ..) _) _ _ _); (k_here; k_dflt (first | (refine' nameX_L ?zzF ?zzv ?_ ?zza ?zzb; (case zzF => k_asm); (case zza => rfl); (case zzb => rfl); (case zzv => ktr_unf); k_whole) | (refine' nameX_C ?zzN ?zzc ?zzm ?zzd ?_ ?zza ?zzb; (case zza => rfl); (case zzb => rfl); (case zzN => k_asm); (case zzc => rfl); (case zzm => first | k_mem | assumption); (case zzd => first | assumption | rfl); k_whole)))) | walk1 | (dsimp only; first | ((with_reducible show wpAny _ _ (eval (Expr.Name ..) _) _ _ _); (k_here; k_dflt (first | (refine' nameX_L ?zzF ?zzv ?_ ?zza ?zzb; (case zzF => k_asm); (case zza => rfl); (case zzb => rfl); (case zzv => ktr_unf); k_whole) | (refine' nameX_C ?zzN ?zzc ?zzm ?zzd ?_ ?zza ?zzb; (case zza => rfl); (case zzb => rfl); (case zzN => k_asm); (case zzc => rfl); (case zzm => first | k_mem | assumption); (case zzd => first | assumption | rfl); k_whole)))) | walk1) | (leave1; try dsimp only) | fail "no step"))
  exact hQ _ _ _ (by assumption) (by assumption)

set_option maxHeartbeats 4000000 in
theorem st_dress {n : Int} {t : Tok} (hn : m (Str.ofString "told") = some (.int n t))
   (X : (Mine.hd.heap_39 w.params).In g) (T : Top Mine.hd.view_39 lo mean mg mb g) (F : Fr g L s.heap m) (N : News g L s.heap news)
   (hQ : ∀ t' h' tk', Fr g L h' (fun y => if y = (Str.ofString "dress") then some (.int (n.fdiv 20) t') else m y) → News g L h' news → Q .next { s with heap := h', toks := tk' }) :
   wpAny (model rprog w) (callerA.deeper (envOfC (Str.ofString "law") lawScope L a ccd)) (exec (loopS 2) (envOfC (Str.ofString "law") lawScope L a ccd)) Q E s := by
  show wpAny _ _ (exec (Stmt.Assign _ _ _) _) _ _ _
  w_strict (repeat' (first | (k_unfold; (try dsimp only)) | (k_end; wrow_close) | ((with_reducible show wpAny _ _ (eval (Expr.Name ..) _) _ _ _); (k_here; k_dflt (first | (refine' nameX_L ?zzF ?zzv ?_ ?zza ?zzb; (case zzF => k_asm); (case zza => rfl); (case zzb => rfl); (case zzv => ktr_unf); k_whole) | (refine' nameX_C ?zzN ?zzc ?zzm ?zzd ?_ ?zza ?zzb; (case zza => rfl); (case zzb => rfl); (case zzN => k_asm); (case zzc => rfl); (case zzm => first | k_mem | assumption); (case zzd => first | assumption | rfl); k_whole)))) | walk1 | (dsimp only; first | ((with_reducible show wpAny _ _ (eval (Expr.Name ..) _) _ _ _); (k_here; k_dflt (first | (refine' nameX_L ?zzF ?zzv ?_ ?zza ?zzb; (case zzF => k_asm); (case zza => rfl); (case zzb => rfl); (case zzv => ktr_unf); k_whole) | (refine' nameX_C ?zzN ?zzc ?zzm ?zzd ?_ ?zza ?zzb; (case zza => rfl); (case zzb => rfl); (case zzN => k_asm); (case zzc => rfl); (case zzm => first | k_mem | assumption); (case zzd => first | assumption | rfl); k_whole)))) | walk1) | (leave1; try dsimp only) | fail "no step"))
  exact hQ _ _ _ (by assumption) (by assumption)

set_option maxHeartbeats 4000000 in
theorem st_mark {n : Int} {t : Tok} (hn : m (Str.ofString "dress") = some (.int n t)) (h0 : 0 ≤ n)
   (X : (Mine.hd.heap_39 w.params).In g) (T : Top Mine.hd.view_39 lo mean mg mb g) (F : Fr g L s.heap m) (N : News g L s.heap news)
   (hQ : ∀ t' h' tk', Fr g L h' (fun y => if y = (Str.ofString "mark") then some (.str (Txt.item (Str.ofString "|/!=") ((n.fdiv 3).fmod 4)) t') else m y) → News g L h' news → Q .next { s with heap := h', toks := tk' }) :
   wpAny (model rprog w) (callerA.deeper (envOfC (Str.ofString "law") lawScope L a ccd)) (exec (loopS 7) (envOfC (Str.ofString "law") lawScope L a ccd)) Q E s := by
  show wpAny _ _ (exec (Stmt.Assign _ _ _) _) _ _ _
  w_strict (repeat' (first | (k_unfold; (try dsimp only)) | (k_end; wrow_close) | ((with_reducible show wpAny _ _ (eval (Expr.Name ..) _) _ _ _); (k_here; k_dflt (first | (refine' nameX_L ?zzF ?zzv ?_ ?zza ?zzb; (case zzF => k_asm); (case zza => rfl); (case zzb => rfl); (case zzv => ktr_unf); k_whole) | (refine' nameX_C ?zzN ?zzc ?zzm ?zzd ?_ ?zza ?zzb; (case zza => rfl); (case zzb => rfl); (case zzN => k_asm); (case zzc => rfl); (case zzm => first | k_mem | assumption); (case zzd => first | assumption | rfl); k_whole)))) | walk1 | (dsimp only; first | ((with_reducible show wpAny _ _ (eval (Expr.Name ..) _) _ _ _); (k_here; k_dflt (first | (refine' nameX_L ?zzF ?zzv ?_ ?zza ?zzb; (case zzF => k_asm); (case zza => rfl); (case zzb => rfl); (case zzv => ktr_unf); k_whole) | (refine' nameX_C ?zzN ?zzc ?zzm ?zzd ?_ ?zza ?zzb; (case zza => rfl); (case zzb => rfl); (case zzN => k_asm); (case zzc => rfl); (case zzm => first | k_mem | assumption); (case zzd => first | assumption | rfl); k_whole)))) | walk1) | (leave1; try dsimp only) | fail "no step"))
  exact hQ _ _ _ (by assumption) (by assumption)

set_option maxHeartbeats 4000000 in
theorem st_field {n : Int} {t tm : Tok} {x : Str} (hn : m (Str.ofString "told") = some (.int n t)) (hm : m (Str.ofString "mark") = some (.str x tm)) (h0 : 0 ≤ n) (h1 : n < 57600) (hx : x.length = 1)
   (X : (Mine.hd.heap_39 w.params).In g) (T : Top Mine.hd.view_39 lo mean mg mb g) (F : Fr g L s.heap m) (N : News g L s.heap news)
   (hQ : ∀ t' h' tk', Fr g L h' (fun y => if y = (Str.ofString "field") then some (.str (x ++ Str.ofString "1" ++ x ++ Str.ofString "x" ++ x ++ Str.ofString "0" ++ Str.ofString (toString n) ++ x) t') else m y) → News g L h' news → Q .next { s with heap := h', toks := tk' }) :
   wpAny (model rprog w) (callerA.deeper (envOfC (Str.ofString "law") lawScope L a ccd)) (exec (loopS 10) (envOfC (Str.ofString "law") lawScope L a ccd)) Q E s := by
  show wpAny _ _ (exec (Stmt.Assign _ _ _) _) _ _ _
  w_strict (repeat' (first | (k_unfold; (try dsimp only)) | (k_end; wrow_close) | ((with_reducible show wpAny _ _ (eval (Expr.Name ..) _) _ _ _); (k_here; k_dflt (first | (refine' nameX_L ?zzF ?zzv ?_ ?zza ?zzb; (case zzF => k_asm); (case zza => rfl); (case zzb => rfl); (case zzv => ktr_unf); k_whole) | (refine' nameX_C ?zzN ?zzc ?zzm ?zzd ?_ ?zza ?zzb; (case zza => rfl); (case zzb => rfl); (case zzN => k_asm); (case zzc => rfl); (case zzm => first | k_mem | assumption); (case zzd => first | assumption | rfl); k_whole)))) | walk1 | (dsimp only; first | ((with_reducible show wpAny _ _ (eval (Expr.Name ..) _) _ _ _); (k_here; k_dflt (first | (refine' nameX_L ?zzF ?zzv ?_ ?zza ?zzb; (case zzF => k_asm); (case zza => rfl); (case zzb => rfl); (case zzv => ktr_unf); k_whole) | (refine' nameX_C ?zzN ?zzc ?zzm ?zzd ?_ ?zza ?zzb; (case zza => rfl); (case zzb => rfl); (case zzN => k_asm); (case zzc => rfl); (case zzm => first | k_mem | assumption); (case zzd => first | assumption | rfl); k_whole)))) | walk1) | (leave1; try dsimp only) | fail "no step"))
  exact hQ _ _ _ (by assumption) (by assumption)

set_option maxHeartbeats 4000000 in
theorem st_front {tm : Tok} {x : Str} (hm : m (Str.ofString "field") = some (.str x tm)) (hx : x.length ≤ 1000)
   (X : (Mine.hd.heap_39 w.params).In g) (T : Top Mine.hd.view_39 lo mean mg mb g) (F : Fr g L s.heap m) (N : News g L s.heap news)
   (hQ : ∀ t' h' tk', Fr g L h' (fun y => if y = (Str.ofString "front") then some (.str (Str.ofString "229) FLAGS (" ++ x) t') else m y) → News g L h' news → Q .next { s with heap := h', toks := tk' }) :
   wpAny (model rprog w) (callerA.deeper (envOfC (Str.ofString "law") lawScope L a ccd)) (exec (loopS 11) (envOfC (Str.ofString "law") lawScope L a ccd)) Q E s := by
  show wpAny _ _ (exec (Stmt.Assign _ _ _) _) _ _ _
  w_strict (repeat' (first | (k_unfold; (try dsimp only)) | (k_end; wrow_close) | ((with_reducible show wpAny _ _ (eval (Expr.Name ..) _) _ _ _); (k_here; k_dflt (first | (refine' nameX_L ?zzF ?zzv ?_ ?zza ?zzb; (case zzF => k_asm); (case zza => rfl); (case zzb => rfl); (case zzv => ktr_unf); k_whole) | (refine' nameX_C ?zzN ?zzc ?zzm ?zzd ?_ ?zza ?zzb; (case zza => rfl); (case zzb => rfl); (case zzN => k_asm); (case zzc => rfl); (case zzm => first | k_mem | assumption); (case zzd => first | assumption | rfl); k_whole)))) | walk1 | (dsimp only; first | ((with_reducible show wpAny _ _ (eval (Expr.Name ..) _) _ _ _); (k_here; k_dflt (first | (refine' nameX_L ?zzF ?zzv ?_ ?zza ?zzb; (case zzF => k_asm); (case zza => rfl); (case zzb => rfl); (case zzv => ktr_unf); k_whole) | (refine' nameX_C ?zzN ?zzc ?zzm ?zzd ?_ ?zza ?zzb; (case zza => rfl); (case zzb => rfl); (case zzN => k_asm); (case zzc => rfl); (case zzm => first | k_mem | assumption); (case zzd => first | assumption | rfl); k_whole)))) | walk1) | (leave1; try dsimp only) | fail "no step"))
  exact hQ _ _ _ (by assumption) (by assumption)

set_option maxHeartbeats 4000000 in
theorem st_reply {tm tg : Tok} {x gp : Str} (hm : m (Str.ofString "cut") = some (.str x tm)) (hx : x.length ≤ 1000) (hgp : m (Str.ofString "tail") = some (.str gp tg)) (hx2 : gp.length ≤ 20)
   (X : (Mine.hd.heap_39 w.params).In g) (T : Top Mine.hd.view_39 lo mean mg mb g) (F : Fr g L s.heap m) (N : News g L s.heap news)
   (hQ : ∀ t' h' tk', Fr g L h' (fun y => if y = (Str.ofString "reply") then some (.str (x ++ Str.ofString ")" ++ gp) t') else m y) → News g L h' news → Q .next { s with heap := h', toks := tk' }) :
   wpAny (model rprog w) (callerA.deeper (envOfC (Str.ofString "law") lawScope L a ccd)) (exec (loopS 13) (envOfC (Str.ofString "law") lawScope L a ccd)) Q E s := by
  show wpAny _ _ (exec (Stmt.Assign _ _ _) _) _ _ _
  w_strict (repeat' (first | (k_unfold; (try dsimp only)) | (k_end; wrow_close) | ((with_reducible show wpAny _ _ (eval (Expr.Name ..) _) _ _ _); (k_here; k_dflt (first | (refine' nameX_L ?zzF ?zzv ?_ ?zza ?zzb; (case zzF => k_asm); (case zza => rfl); (case zzb => rfl); (case zzv => ktr_unf); k_whole) | (refine' nameX_C ?zzN ?zzc ?zzm ?zzd ?_ ?zza ?zzb; (case zza => rfl); (case zzb => rfl); (case zzN => k_asm); (case zzc => rfl); (case zzm => first | k_mem | assumption); (case zzd => first | assumption | rfl); k_whole)))) | walk1 | (dsimp only; first | ((with_reducible show wpAny _ _ (eval (Expr.Name ..) _) _ _ _); (k_here; k_dflt (first | (refine' nameX_L ?zzF ?zzv ?_ ?zza ?zzb; (case zzF => k_asm); (case zza => rfl); (case zzb => rfl); (case zzv => ktr_unf); k_whole) | (refine' nameX_C ?zzN ?zzc ?zzm ?zzd ?_ ?zza ?zzb; (case zza => rfl); (case zzb => rfl); (case zzN => k_asm); (case zzc => rfl); (case zzm => first | k_mem | assumption); (case zzd => first | assumption | rfl); k_whole)))) | walk1) | (leave1; try dsimp only) | fail "no step"))
  exact hQ _ _ _ (by assumption) (by assumption)
end
theorem fm_lo {n : Int} : 0 ≤ n.fmod 4 := Int.fmod_nonneg_of_pos _ (by decide)
theorem fm_hi {n : Int} : n.fmod 4 < 4 := Int.fmod_lt_of_pos _ (by decide)
theorem fm3_lo {n : Int} : 0 ≤ n.fmod 3 := Int.fmod_nonneg_of_pos _ (by decide)
theorem fm3_hi {n : Int} : n.fmod 3 < 3 := Int.fmod_lt_of_pos _ (by decide)
theorem fm5_lo {n : Int} : 0 ≤ n.fmod 5 := Int.fmod_nonneg_of_pos _ (by decide)
theorem fm5_hi {n : Int} : n.fmod 5 < 5 := Int.fmod_lt_of_pos _ (by decide)
section
variable {w : World} {mean : ExcName → Option Value} {mg mb : Str → Option Value} {g : Heap} {L a : Addr} {ccd : Value} {s : Shared} {m : Str → Option Value} {news : List (Addr × Obj)} {Q : Flow → Shared → Prop} {E : Value → Shared → Prop}

set_option maxHeartbeats 4000000 in
theorem st_gap {n : Int} {t : Tok} (hn : m (Str.ofString "dress") = some (.int n t)) (h0 : 0 ≤ n)
   (X : (Mine.hd.heap_39 w.params).In g) (T : Top Mine.hd.view_39 lo mean mg mb g) (F : Fr g L s.heap m) (N : News g L s.heap news)
   (hQ : ∀ t' h' tk', Fr g L h' (fun y => if y = (Str.ofString "gap") then some (.str ([Str.ofString " ", Str.ofString "\t", Str.ofString "\r\n", Str.ofString "  "].getD ((n.fdiv 12).fmod 4).toNat Str.empty) t') else m y) → News g L h' news → Q .next { s with heap := h', toks := tk' }) :
   wpAny (model rprog w) (callerA.deeper (envOfC (Str.ofString "law") lawScope L a ccd)) (exec (loopS 8) (envOfC (Str.ofString "law") lawScope L a ccd)) Q E s := by
  show wpAny _ _ (exec (Stmt.Assign _ _ _) _) _ _ _
  w_strict (repeat' (first | (k_unfold; (try dsimp only)) | (k_end; wrow_close) | ((with_reducible show wpAny _ _ (subscriptTail _ _ _ _) _ _ _); (k_here; k_dflt (refine' KTb.item_list ?zzl ?zzw ?zza ?zzb ?zzc ?_; (case zzl => exact list_at (by k_asm) (List.Mem.head _)); (case zzw => repeat constructor); (case zza => first | exact fm_lo | exact fm3_lo | exact fm5_lo); (case zzb => first | exact fm_hi | exact fm3_hi | exact fm5_hi); (case zzc => first | exact Int.lt_of_lt_of_le fm_hi (by decide) | exact Int.lt_of_lt_of_le fm3_hi (by decide) | exact Int.lt_of_lt_of_le fm5_hi (by decide))); intro _ _)) | ((with_reducible show wpAny _ _ (eval (Expr.Name ..) _) _ _ _); (k_here; k_dflt (first | (refine' nameX_L ?zzF ?zzv ?_ ?zza ?zzb; (case zzF => k_asm); (case zza => rfl); (case zzb => rfl); (case zzv => ktr_unf); k_whole) | (refine' nameX_C ?zzN ?zzc ?zzm ?zzd ?_ ?zza ?zzb; (case zza => rfl); (case zzb => rfl); (case zzN => k_asm); (case zzc => rfl); (case zzm => first | k_mem | assumption); (case zzd => first | assumption | rfl); k_whole)))) | walk1 | (dsimp only; first | ((with_reducible show wpAny _ _ (subscriptTail _ _ _ _) _ _ _); (k_here; k_dflt (refine' KTb.item_list ?zzl ?zzw ?zza ?zzb ?zzc ?_; (case zzl => exact list_at (by k_asm) (List.Mem.head _)); (case zzw => repeat constructor); (case zza => first | exact fm_lo | exact fm3_lo | exact fm5_lo); (case zzb => first | exact fm_hi | exact fm3_hi | exact fm5_hi); (case zzc => first | exact Int.lt_of_lt_of_le fm_hi (by decide) | exact Int.lt_of_lt_of_le fm3_hi (by decide) | exact Int.lt_of_lt_of_le fm5_hi (by decide))); intro _ _)) | ((with_reducible show wpAny _ _ (eval (Expr.Name ..) _) _ _ _); (k_here; k_dflt (first | (refine' nameX_L ?zzF ?zzv ?_ ?zza ?zzb; (case zzF => k_asm); (case zza => rfl); (case zzb => rfl); (case zzv => ktr_unf); k_whole) | (refine' nameX_C ?zzN ?zzc ?zzm ?zzd ?_ ?zza ?zzb; (case zza => rfl); (case zzb => rfl); (case zzN => k_asm); (case zzc => rfl); (case zzm => first | k_mem | assumption); (case zzd => first | assumption | rfl); k_whole)))) | walk1) | (leave1; try dsimp only) | fail "no step"))
  exact hQ _ _ _ (by assumption) (fun p hp => (by assumption : News _ _ _ _) p (List.mem_cons_of_mem _ hp))

set_option maxHeartbeats 4000000 in
theorem st_tail {n : Int} {t : Tok} (hn : m (Str.ofString "dress") = some (.int n t)) (h0 : 0 ≤ n)
   (X : (Mine.hd.heap_39 w.params).In g) (T : Top Mine.hd.view_39 lo mean mg mb g) (F : Fr g L s.heap m) (N : News g L s.heap news)
   (hQ : ∀ t' h' tk', Fr g L h' (fun y => if y = (Str.ofString "tail") then some (.str ([Str.ofString " flags (z)", Str.ofString " FLAGS (z", Str.ofString "\r\nFLAGS (y)"].getD ((n.fdiv 48).fmod 3).toNat Str.empty) t') else m y) → News g L h' news → Q .next { s with heap := h', toks := tk' }) :
   wpAny (model rprog w) (callerA.deeper (envOfC (Str.ofString "law") lawScope L a ccd)) (exec (loopS 9) (envOfC (Str.ofString "law") lawScope L a ccd)) Q E s := by
  show wpAny _ _ (exec (Stmt.Assign _ _ _) _) _ _ _
  w_strict (repeat' (first | (k_unfold; (try dsimp only)) | (k_end; wrow_close) | ((with_reducible show wpAny _ _ (subscriptTail _ _ _ _) _ _ _); (k_here; k_dflt (refine' KTb.item_list ?zzl ?zzw ?zza ?zzb ?zzc ?_; (case zzl => exact list_at (by k_asm) (List.Mem.head _)); (case zzw => repeat constructor); (case zza => first | exact fm_lo | exact fm3_lo | exact fm5_lo); (case zzb => first | exact fm_hi | exact fm3_hi | exact fm5_hi); (case zzc => first | exact Int.lt_of_lt_of_le fm_hi (by decide) | exact Int.lt_of_lt_of_le fm3_hi (by decide) | exact Int.lt_of_lt_of_le fm5_hi (by decide))); intro _ _)) | ((with_reducible show wpAny _ _ (eval (Expr.Name ..) _) _ _ _); (k_here; k_dflt (first | (refine' nameX_L ?zzF ?zzv ?_ ?zza ?zzb; (case zzF => k_asm); (case zza => rfl); (case zzb => rfl); (case zzv => ktr_unf); k_whole) | (refine' nameX_C ?zzN ?zzc ?zzm ?zzd ?_ ?zza ?zzb; (case zza => rfl); (case zzb => rfl); (case zzN => k_asm); (case zzc => rfl); (case zzm => first | k_mem | assumption); (case zzd => first | assumption | rfl); k_whole)))) | walk1 | (dsimp only; first | ((with_reducible show wpAny _ _ (subscriptTail _ _ _ _) _ _ _); (k_here; k_dflt (refine' KTb.item_list ?zzl ?zzw ?zza ?zzb ?zzc ?_; (case zzl => exact list_at (by k_asm) (List.Mem.head _)); (case zzw => repeat constructor); (case zza => first | exact fm_lo | exact fm3_lo | exact fm5_lo); (case zzb => first | exact fm_hi | exact fm3_hi | exact fm5_hi); (case zzc => first | exact Int.lt_of_lt_of_le fm_hi (by decide) | exact Int.lt_of_lt_of_le fm3_hi (by decide) | exact Int.lt_of_lt_of_le fm5_hi (by decide))); intro _ _)) | ((with_reducible show wpAny _ _ (eval (Expr.Name ..) _) _ _ _); (k_here; k_dflt (first | (refine' nameX_L ?zzF ?zzv ?_ ?zza ?zzb; (case zzF => k_asm); (case zza => rfl); (case zzb => rfl); (case zzv => ktr_unf); k_whole) | (refine' nameX_C ?zzN ?zzc ?zzm ?zzd ?_ ?zza ?zzb; (case zza => rfl); (case zzb => rfl); (case zzN => k_asm); (case zzc => rfl); (case zzm => first | k_mem | assumption); (case zzd => first | assumption | rfl); k_whole)))) | walk1) | (leave1; try dsimp only) | fail "no step"))
  exact hQ _ _ _ (by assumption) (fun p hp => (by assumption : News _ _ _ _) p (List.mem_cons_of_mem _ hp))

set_option maxHeartbeats 4000000 in
theorem st_app {n : Int} {t : Tok} (hn : m (Str.ofString "rank") = some (.int n t)) {ld : Addr} {vd : List Value} {nd : Nat} (hd : m (Str.ofString "drawn") = some (.ref ld)) (hsz : vd.length ≤ 100) (hne : ∀ p ∈ news, p.1 ≠ ld)
   (X : (Mine.hd.heap_39 w.params).In g) (T : Top Mine.hd.view_39 lo mean mg mb g) (F : Fr g L s.heap m) (N : News g L s.heap ((ld, listOf vd.toArray nd) :: news))
   (hQ : ∀ h' tk', Fr g L h' m → News g L h' ((ld, listOf (vd.toArray.push (.int n t)) (nd + 1)) :: news) → Q .next { s with heap := h', toks := tk' }) :
   wpAny (model rprog w) (callerA.deeper (envOfC (Str.ofString "law") lawScope L a ccd)) (exec (loopS 3) (envOfC (Str.ofString "law") lawScope L a ccd)) Q E s := by
  show wpAny _ _ (exec (Stmt.Expr _ _) _) _ _ _
  w_strict (repeat' (first | (k_unfold; (try dsimp only)) | (k_end; wrow_close) | ((with_reducible show wpAny _ _ (subscriptTail _ _ _ _) _ _ _); (k_here; k_dflt (refine' KTb.item_list ?zzl ?zzw ?zza ?zzb ?zzc ?_; (case zzl => exact list_at (by k_asm) (List.Mem.head _)); (case zzw => repeat constructor); (case zza => first | exact fm_lo | exact fm3_lo | exact fm5_lo); (case zzb => first | exact fm_hi | exact fm3_hi | exact fm5_hi); (case zzc => first | exact Int.lt_of_lt_of_le fm_hi (by decide) | exact Int.lt_of_lt_of_le fm3_hi (by decide) | exact Int.lt_of_lt_of_le fm5_hi (by decide))); intro _ _)) | ((with_reducible show wpAny _ _ (eval (Expr.Name ..) _) _ _ _); (k_here; k_dflt (first | (refine' nameX_L ?zzF ?zzv ?_ ?zza ?zzb; (case zzF => k_asm); (case zza => rfl); (case zzb => rfl); (case zzv => ktr_unf); k_whole) | (refine' nameX_C ?zzN ?zzc ?zzm ?zzd ?_ ?zza ?zzb; (case zza => rfl); (case zzb => rfl); (case zzN => k_asm); (case zzc => rfl); (case zzm => first | k_mem | assumption); (case zzd => first | assumption | rfl); k_whole)))) | walk1 | (dsimp only; first | ((with_reducible show wpAny _ _ (subscriptTail _ _ _ _) _ _ _); (k_here; k_dflt (refine' KTb.item_list ?zzl ?zzw ?zza ?zzb ?zzc ?_; (case zzl => exact list_at (by k_asm) (List.Mem.head _)); (case zzw => repeat constructor); (case zza => first | exact fm_lo | exact fm3_lo | exact fm5_lo); (case zzb => first | exact fm_hi | exact fm3_hi | exact fm5_hi); (case zzc => first | exact Int.lt_of_lt_of_le fm_hi (by decide) | exact Int.lt_of_lt_of_le fm3_hi (by decide) | exact Int.lt_of_lt_of_le fm5_hi (by decide))); intro _ _)) | ((with_reducible show wpAny _ _ (eval (Expr.Name ..) _) _ _ _); (k_here; k_dflt (first | (refine' nameX_L ?zzF ?zzv ?_ ?zza ?zzb; (case zzF => k_asm); (case zza => rfl); (case zzb => rfl); (case zzv => ktr_unf); k_whole) | (refine' nameX_C ?zzN ?zzc ?zzm ?zzd ?_ ?zza ?zzb; (case zza => rfl); (case zzb => rfl); (case zzN => k_asm); (case zzc => rfl); (case zzm => first | k_mem | assumption); (case zzd => first | assumption | rfl); k_whole)))) | walk1) | (leave1; try dsimp only) | fail "no step"))
  exact hQ _ _ (by assumption) (by assumption)
end
section
variable {w : World} {mean : ExcName → Option Value} {mg mb : Str → Option Value} {g : Heap} {L a : Addr} {ccd : Value} {s : Shared} {m : Str → Option Value} {news : List (Addr × Obj)} {Q : Flow → Shared → Prop} {E : Value → Shared → Prop}

set_option maxHeartbeats 4000000 in
theorem st_app2 {v : Value} {ld : Addr} {vd : List Value} {nd : Nat} (hv : vd.toArray[(0 : Int).toNat]? = some v) (hd : m (Str.ofString "words") = some (.ref ld)) (hsz : vd.length ≤ 100) (hne : ∀ p ∈ news, p.1 ≠ ld)
   (X : (Mine.hd.heap_39 w.params).In g) (T : Top Mine.hd.view_39 lo mean mg mb g) (F : Fr g L s.heap m) (N : News g L s.heap ((ld, listOf vd.toArray nd) :: news))
   (hQ : ∀ h' tk', Fr g L h' m → News g L h' ((ld, listOf (vd.toArray.push v) (nd + 1)) :: news) → Q .next { s with heap := h', toks := tk' }) :
   wpAny (model rprog w) (callerA.deeper (envOfC (Str.ofString "law") lawScope L a ccd)) (exec (loopS 6) (envOfC (Str.ofString "law") lawScope L a ccd)) Q E s := by
  show wpAny _ _ (exec (Stmt.Expr _ _) _) _ _ _
  w_strict (repeat' (first | (k_unfold; (try dsimp only)) | (k_end; wrow_close) | ((with_reducible show wpAny _ _ (subscriptTail _ _ _ _) _ _ _); (k_here; k_dflt (refine' item_any ?zzl ?zza ?zzb ?zzx ?_; (case zzl => exact list_at (by k_asm) (List.Mem.head _)); (case zza => decide); (case zzb => decide); (case zzx => assumption); k_whole))) | ((with_reducible show wpAny _ _ (subscriptTail _ _ _ _) _ _ _); (k_here; k_dflt (refine' KTb.item_list ?zzl ?zzw ?zza ?zzb ?zzc ?_; (case zzl => exact list_at (by k_asm) (List.Mem.head _)); (case zzw => repeat constructor); (case zza => first | exact fm_lo | exact fm3_lo | exact fm5_lo); (case zzb => first | exact fm_hi | exact fm3_hi | exact fm5_hi); (case zzc => first | exact Int.lt_of_lt_of_le fm_hi (by decide) | exact Int.lt_of_lt_of_le fm3_hi (by decide) | exact Int.lt_of_lt_of_le fm5_hi (by decide))); intro _ _)) | ((with_reducible show wpAny _ _ (eval (Expr.Name ..) _) _ _ _); (k_here; k_dflt (first | (refine' nameX_L ?zzF ?zzv ?_ ?zza ?zzb; (case zzF => k_asm); (case zza => rfl); (case zzb => rfl); (case zzv => ktr_unf); k_whole) | (refine' nameX_C ?zzN ?zzc ?zzm ?zzd ?_ ?zza ?zzb; (case zza => rfl); (case zzb => rfl); (case zzN => k_asm); (case zzc => rfl); (case zzm => first | k_mem | assumption); (case zzd => first | assumption | rfl); k_whole)))) | walk1 | (dsimp only; first | ((with_reducible show wpAny _ _ (subscriptTail _ _ _ _) _ _ _); (k_here; k_dflt (refine' item_any ?zzl ?zza ?zzb ?zzx ?_; (case zzl => exact list_at (by k_asm) (List.Mem.head _)); (case zza => decide); (case zzb => decide); (case zzx => assumption); k_whole))) | ((with_reducible show wpAny _ _ (subscriptTail _ _ _ _) _ _ _); (k_here; k_dflt (refine' KTb.item_list ?zzl ?zzw ?zza ?zzb ?zzc ?_; (case zzl => exact list_at (by k_asm) (List.Mem.head _)); (case zzw => repeat constructor); (case zza => first | exact fm_lo | exact fm3_lo | exact fm5_lo); (case zzb => first | exact fm_hi | exact fm3_hi | exact fm5_hi); (case zzc => first | exact Int.lt_of_lt_of_le fm_hi (by decide) | exact Int.lt_of_lt_of_le fm3_hi (by decide) | exact Int.lt_of_lt_of_le fm5_hi (by decide))); intro _ _)) | ((with_reducible show wpAny _ _ (eval (Expr.Name ..) _) _ _ _); (k_here; k_dflt (first | (refine' nameX_L ?zzF ?zzv ?_ ?zza ?zzb; (case zzF => k_asm); (case zza => rfl); (case zzb => rfl); (case zzv => ktr_unf); k_whole) | (refine' nameX_C ?zzN ?zzc ?zzm ?zzd ?_ ?zza ?zzb; (case zza => rfl); (case zzb => rfl); (case zzN => k_asm); (case zzc => rfl); (case zzm => first | k_mem | assumption); (case zzd => first | assumption | rfl); k_whole)))) | walk1) | (leave1; try dsimp only) | fail "no step"))
  exact hQ _ _ (by assumption) (by assumption)
end
section
variable {w : World} {mean : ExcName → Option Value} {mg mb : Str → Option Value} {g : Heap} {L a : Addr} {ccd : Value} {s : Shared} {m : Str → Option Value} {news : List (Addr × Obj)} {Q : Flow → Shared → Prop} {E : Value → Shared → Prop}

set_option maxHeartbeats 4000000 in
theorem st_cut {tm tg : Tok} {x gp : Str} (hm : m (Str.ofString "front") = some (.str x tm)) (hx : x.length ≤ 1000) (hgp : m (Str.ofString "gap") = some (.str gp tg)) (hx2 : gp.length ≤ 2) {lw : Addr} {wx : List Value} {xs : List Str} {nw : Nat} (hw : m (Str.ofString "words") = some (.ref lw)) (hd : (lw, listOf wx.toArray nw) ∈ news) (hW : StrsAre wx xs) (hJ : (xs.map (·.length)).sum + xs.length * 64 ≤ 16777216) (hJl : (Txt.join gp xs).length ≤ 1000)
   (X : (Mine.hd.heap_39 w.params).In g) (T : Top Mine.hd.view_39 lo mean mg mb g) (F : Fr g L s.heap m) (N : News g L s.heap news)
   (hQ : ∀ t' h' tk', Fr g L h' (fun y => if y = (Str.ofString "cut") then some (.str (x ++ Str.ofString ") PERMANENTFLAGS (" ++ Txt.join gp xs) t') else m y) → News g L h' news → Q .next { s with heap := h', toks := tk' }) :
   wpAny (model rprog w) (callerA.deeper (envOfC (Str.ofString "law") lawScope L a ccd)) (exec (loopS 12) (envOfC (Str.ofString "law") lawScope L a ccd)) Q E s := by
  show wpAny _ _ (exec (Stmt.Assign _ _ _) _) _ _ _
  w_strict (repeat' (first | (k_unfold; (try dsimp only)) | (k_end; wrow_close) | ((with_reducible show wpAny _ _ (call (Value.builtin "str.join") _ _) _ _ _); (k_here; k_dflt (refine' join_listC ?zzl ?zzi ?zzp ?zzo ?_; (case zzl => exact list_at (by k_asm) (by assumption)); (case zzi => simpa using (by assumption : StrsAre _ _)); (case zzp => omega); (case zzo => assumption); k_whole); intro _ _)) | ((with_reducible show wpAny _ _ (subscriptTail _ _ _ _) _ _ _); (k_here; k_dflt (refine' item_any ?zzl ?zza ?zzb ?zzx ?_; (case zzl => exact list_at (by k_asm) (List.Mem.head _)); (case zza => decide); (case zzb => decide); (case zzx => assumption); k_whole))) | ((with_reducible show wpAny _ _ (subscriptTail _ _ _ _) _ _ _); (k_here; k_dflt (refine' KTb.item_list ?zzl ?zzw ?zza ?zzb ?zzc ?_; (case zzl => exact list_at (by k_asm) (List.Mem.head _)); (case zzw => repeat constructor); (case zza => first | exact fm_lo | exact fm3_lo | exact fm5_lo); (case zzb => first | exact fm_hi | exact fm3_hi | exact fm5_hi); (case zzc => first | exact Int.lt_of_lt_of_le fm_hi (by decide) | exact Int.lt_of_lt_of_le fm3_hi (by decide) | exact Int.lt_of_lt_of_le fm5_hi (by decide))); intro _ _)) | ((with_reducible show wpAny _ _ (eval (Expr.Name ..) _) _ _ _); (k_here; k_dflt (first | (refine' nameX_L ?zzF ?zzv ?_ ?zza ?zzb; (case zzF => k_asm); (case zza => rfl); (case zzb => rfl); (case zzv => ktr_unf); k_whole) | (refine' nameX_C ?zzN ?zzc ?zzm ?zzd ?_ ?zza ?zzb; (case zza => rfl); (case zzb => rfl); (case zzN => k_asm); (case zzc => rfl); (case zzm => first | k_mem | assumption); (case zzd => first | assumption | rfl); k_whole)))) | walk1 | (dsimp only; first | ((with_reducible show wpAny _ _ (call (Value.builtin "str.join") _ _) _ _ _); (k_here; k_dflt (refine' join_listC ?zzl ?zzi ?zzp ?zzo ?_; (case zzl => exact list_at (by k_asm) (by assumption)); (case zzi => simpa using (by assumption : StrsAre _ _)); (case zzp => omega); (case zzo => assumption); k_whole); intro _ _)) | ((with_reducible show wpAny _ _ (subscriptTail _ _ _ _) _ _ _); (k_here; k_dflt (refine' item_any ?zzl ?zza ?zzb ?zzx ?_; (case zzl => exact list_at (by k_asm) (List.Mem.head _)); (case zza => decide); (case zzb => decide); (case zzx => assumption); k_whole))) | ((with_reducible show wpAny _ _ (subscriptTail _ _ _ _) _ _ _); (k_here; k_dflt (refine' KTb.item_list ?zzl ?zzw ?zza ?zzb ?zzc ?_; (case zzl => exact list_at (by k_asm) (List.Mem.head _)); (case zzw => repeat constructor); (case zza => first | exact fm_lo | exact fm3_lo | exact fm5_lo); (case zzb => first | exact fm_hi | exact fm3_hi | exact fm5_hi); (case zzc => first | exact Int.lt_of_lt_of_le fm_hi (by decide) | exact Int.lt_of_lt_of_le fm3_hi (by decide) | exact Int.lt_of_lt_of_le fm5_hi (by decide))); intro _ _)) | ((with_reducible show wpAny _ _ (eval (Expr.Name ..) _) _ _ _); (k_here; k_dflt (first | (refine' nameX_L ?zzF ?zzv ?_ ?zza ?zzb; (case zzF => k_asm); (case zza => rfl); (case zzb => rfl); (case zzv => ktr_unf); k_whole) | (refine' nameX_C ?zzN ?zzc ?zzm ?zzd ?_ ?zza ?zzb; (case zza => rfl); (case zzb => rfl); (case zzN => k_asm); (case zzc => rfl); (case zzm => first | k_mem | assumption); (case zzd => first | assumption | rfl); k_whole)))) | walk1) | (leave1; try dsimp only) | fail "no step"))
  exact hQ _ _ _ (by assumption) (by assumption)
end
end Mine
end
section
open PySem PySem.W PyProof.Rows PySem.Calls PySem.Spec
set_option maxRecDepth 100000
namespace Mine
local macro_rules | `(tactic| ktr_unf) => `(tactic| first | assumption | (dsimp only; (repeat (first | (rw [if_pos (by decide)]) | (rw [if_neg (by decide)]))); first | rfl | assumption))
local macro_rules | `(tactic| k_all) => `(tactic| assumption)
local macro_rules | `(tactic| k_mem) => `(tactic| assumption)
example (w : World) (h : Heap) : (Mine.hd.heap_39 w.params).In h → rprog = PySem.Challenge.rw_wy0014_01.prog → True := by
  k_fill
  intros; trivial
section
variable {w : World} {mean : ExcName → Option Value} {mg mb : Str → Option Value} {g : Heap} {L a : Addr} {ccd : Value} {s : Shared} {m : Str → Option Value} {news : List (Addr × Obj)} {Q : Flow → Shared → Prop} {E : Value → Shared → Prop}

set_option maxHeartbeats 4000000 in
theorem st_parse {x : Str} {tm : Tok} (hm : m (Str.ofString "reply") = some (.str x tm)) {lw : Addr} {wx : List Value} {nw : Nat} {hv : Value} (hw : m (Str.ofString "words") = some (.ref lw)) (hd : (lw, listOf wx.toArray nw) ∈ news) (hv0 : wx.toArray[(0 : Int).toNat]? = some hv)
  {p0 p1 p2 p3 p4 : Str} {n : Int} (hx : x.length ≤ 1000) (h29 : (Txt.slice x none (some 3) != Str.ofString "229") = false) (hf : ¬ Txt.find x (Str.ofString "(") < 0) (hf3 : ¬ Txt.find3 x (Str.ofString ")") (Txt.find x (Str.ofString "(") + 1) < 0) (hit : (Txt.item x (Txt.find x (Str.ofString "(") + 1) != Txt.item x (Txt.find3 x (Str.ofString ")") (Txt.find x (Str.ofString "(") + 1) - 1)) = false)
   (hsp : Txt.split (Txt.slice x (some (Txt.find x (Str.ofString "(") + 1)) (some (Txt.find3 x (Str.ofString ")") (Txt.find x (Str.ofString "(") + 1)))) (Txt.item x (Txt.find x (Str.ofString "(") + 1)) = [p0, p1, p2, p3, p4]) (hin : PySem.intText? p3 = some n) (hin2 : p3.length ≤ 640) {base : Heap} (B : Below callerA base [] g)
   (X : (Mine.hd.heap_39 w.params).In g) (T : Top Mine.hd.view_39 lo mean mg mb g) (F : Fr g L s.heap m) (N : News g L s.heap news)
   (hQ : ∀ t' h' tk', Fr g L h' (fun y => if y = Str.ofString "port" then some (.int n t') else if y = Str.ofString "host" then some hv else m y) → News g L h' news → Q .next { s with heap := h', toks := tk' }) :
   wpAny (model rprog w) (callerA.deeper (envOfC (Str.ofString "law") lawScope L a ccd)) (exec (loopS 14) (envOfC (Str.ofString "law") lawScope L a ccd)) Q E s := by
  show wpAny _ _ (exec (Stmt.Assign _ _ _) _) _ _ _
  w_strict (repeat' (first | (k_unfold; (try dsimp only)) | (k_end; wrow_close) | ((with_reducible show wpAny _ _ (call (Value.ref _) _ _) _ _ _); (k_here; k_dflt (refine' parse229_spec ?zzB ?zzF ?zzX ?zzN ?zzT ?zzhk ?zzhdp ?zzhun ?zzhp ?zzhx ?zzh29 ?zzhf ?zzhf3 ?zzhit ?zzhsp ?zzhin ?zzhin2 ?_; (case zzB => k_asm); (case zzF => k_asm); (case zzX => k_asm); (case zzN => k_asm); (case zzT => k_asm); (case zzhk => exact rfl); (case zzhp => exact tup_at (by k_asm) (List.Mem.head _)); (case zzhx => assumption); (case zzh29 => assumption); (case zzhf => assumption); (case zzhf3 => assumption); (case zzhit => assumption); (case zzhsp => assumption); (case zzhin => assumption); (case zzhin2 => assumption); (case zzhdp => decide); (case zzhun => decide); k_whole); intro _ _ _ _ _ _ _ _)) | ((with_reducible show wpAny _ _ (subscriptTail _ _ _ _) _ _ _); (k_here; k_dflt (refine' item_any ?zzl ?zza ?zzb ?zzx ?_; (case zzl => exact list_at (by k_asm) (by assumption)); (case zza => decide); (case zzb => decide); (case zzx => assumption); k_whole))) | ((with_reducible show wpAny _ _ (eval (Expr.Name ..) _) _ _ _); (k_here; k_dflt (first | (refine' nameX_L ?zzF ?zzv ?_ ?zza ?zzb; (case zzF => k_asm); (case zza => rfl); (case zzb => rfl); (case zzv => ktr_unf); k_whole) | (refine' nameX_C ?zzN ?zzc ?zzm ?zzd ?_ ?zza ?zzb; (case zza => rfl); (case zzb => rfl); (case zzN => k_asm); (case zzc => rfl); (case zzm => first | k_mem | assumption); (case zzd => first | assumption | rfl); k_whole)))) | walk1 | (dsimp only; first | ((with_reducible show wpAny _ _ (call (Value.ref _) _ _) _ _ _); (k_here; k_dflt (refine' parse229_spec ?zzB ?zzF ?zzX ?zzN ?zzT ?zzhk ?zzhdp ?zzhun ?zzhp ?zzhx ?zzh29 ?zzhf ?zzhf3 ?zzhit ?zzhsp ?zzhin ?zzhin2 ?_; (case zzB => k_asm); (case zzF => k_asm); (case zzX => k_asm); (case zzN => k_asm); (case zzT => k_asm); (case zzhk => exact rfl); (case zzhp => exact tup_at (by k_asm) (List.Mem.head _)); (case zzhx => assumption); (case zzh29 => assumption); (case zzhf => assumption); (case zzhf3 => assumption); (case zzhit => assumption); (case zzhsp => assumption); (case zzhin => assumption); (case zzhin2 => assumption); (case zzhdp => decide); (case zzhun => decide); k_whole); intro _ _ _ _ _ _ _ _)) | ((with_reducible show wpAny _ _ (subscriptTail _ _ _ _) _ _ _); (k_here; k_dflt (refine' item_any ?zzl ?zza ?zzb ?zzx ?_; (case zzl => exact list_at (by k_asm) (by assumption)); (case zza => decide); (case zzb => decide); (case zzx => assumption); k_whole))) | ((with_reducible show wpAny _ _ (eval (Expr.Name ..) _) _ _ _); (k_here; k_dflt (first | (refine' nameX_L ?zzF ?zzv ?_ ?zza ?zzb; (case zzF => k_asm); (case zza => rfl); (case zzb => rfl); (case zzv => ktr_unf); k_whole) | (refine' nameX_C ?zzN ?zzc ?zzm ?zzd ?_ ?zza ?zzb; (case zza => rfl); (case zzb => rfl); (case zzN => k_asm); (case zzc => rfl); (case zzm => first | k_mem | assumption); (case zzd => first | assumption | rfl); k_whole)))) | walk1) | (leave1; try dsimp only) | fail "no step"))
  exact hQ _ _ _ (by assumption) (fun p hp => (by assumption : News g L _ _) p (List.mem_cons_of_mem _ (List.mem_cons_of_mem _ hp)))
end
section
variable {w : World} {mean : ExcName → Option Value} {mg mb : Str → Option Value} {g : Heap} {L a : Addr} {ccd : Value} {s : Shared} {m : Str → Option Value} {news : List (Addr × Obj)} {Q : Flow → Shared → Prop} {E : Value → Shared → Prop}

set_option maxHeartbeats 4000000 in
theorem st_flags {x : Str} {tm : Tok} (hm : m (Str.ofString "reply") = some (.str x tm)) (ha : ∀ c ∈ x.cps, c < 128) (hl : x.length ≤ 1000) (h0 : 0 < x.length) (hx : (x.cps.map (·.toUInt8)).size ≤ 1000) (h8 : 8 ≤ (x.cps.map (·.toUInt8)).size) (hw : (flagWords (x.cps.map (·.toUInt8))).length ≤ 1000) {base : Heap} (B : Below callerA base [] g)
   (X : (Mine.hd.heap_39 w.params).In g) (T : Top Mine.hd.view_39 lo mean mg mb g) (F : Fr g L s.heap m) (N : News g L s.heap news)
   (hQ : ∀ q vs h' tk', BytesAre vs (flagWords (x.cps.map (·.toUInt8))) → Fr g L h' (fun y => if y = Str.ofString "flags" then some (.ref q) else m y) → News g L h' ((q, ({ cls := .type "tuple", data := .seq (List.toArray vs) } : Obj)) :: news) → (∀ p ∈ news, p.1 ≠ q) → Q .next { s with heap := h', toks := tk' }) :
   wpAny (model rprog w) (callerA.deeper (envOfC (Str.ofString "law") lawScope L a ccd)) (exec (loopS 15) (envOfC (Str.ofString "law") lawScope L a ccd)) Q E s := by
  show wpAny _ _ (exec (Stmt.Assign _ _ _) _) _ _ _
  w_strict (repeat' (first | (k_unfold; (try dsimp only)) | (k_end; wrow_close) | ((with_reducible show wpAny _ _ (call (Value.ref _) _ _) _ _ _); (k_here; k_dflt (refine' parseFlags_spec ?zzB ?zzF ?zzX ?zzN ?zzT ?zzhk ?zzhdp ?zzhun ?zzhx ?zzh8 ?zzhw ?_; (case zzB => k_asm); (case zzF => k_asm); (case zzX => k_asm); (case zzN => k_asm); (case zzT => k_asm); (case zzhk => exact rfl); (case zzhx => assumption); (case zzh8 => assumption); (case zzhw => assumption); (case zzhdp => decide); (case zzhun => decide); k_whole); intro _ _ _ _ _ _ _ _ _)) | ((with_reducible show wpAny _ _ (call (Value.builtin "str.encode") _ _) _ _ _); (k_here; k_dflt (refine' call_encode ?zza ?zzb ?zzc ?_; (case zza => assumption); (case zzb => assumption); (case zzc => assumption); k_whole))) | ((with_reducible show wpAny _ _ (getMethod (Value.str ..) _ _) _ _ _); (k_here; (refine getMethod_encode ?_))) | ((with_reducible show wpAny _ _ (call (Value.ref _) _ _) _ _ _); (k_here; k_dflt (refine' parse229_spec ?zzB ?zzF ?zzX ?zzN ?zzT ?zzhk ?zzhdp ?zzhun ?zzhp ?zzhx ?zzh29 ?zzhf ?zzhf3 ?zzhit ?zzhsp ?zzhin ?zzhin2 ?_; (case zzB => k_asm); (case zzF => k_asm); (case zzX => k_asm); (case zzN => k_asm); (case zzT => k_asm); (case zzhk => exact rfl); (case zzhp => exact tup_at (by k_asm) (List.Mem.head _)); (case zzhx => assumption); (case zzh29 => assumption); (case zzhf => assumption); (case zzhf3 => assumption); (case zzhit => assumption); (case zzhsp => assumption); (case zzhin => assumption); (case zzhin2 => assumption); (case zzhdp => decide); (case zzhun => decide); k_whole); intro _ _ _ _ _ _ _ _)) | ((with_reducible show wpAny _ _ (subscriptTail _ _ _ _) _ _ _); (k_here; k_dflt (refine' item_any ?zzl ?zza ?zzb ?zzx ?_; (case zzl => exact list_at (by k_asm) (by assumption)); (case zza => decide); (case zzb => decide); (case zzx => assumption); k_whole))) | ((with_reducible show wpAny _ _ (eval (Expr.Name ..) _) _ _ _); (k_here; k_dflt (first | (refine' nameX_L ?zzF ?zzv ?_ ?zza ?zzb; (case zzF => k_asm); (case zza => rfl); (case zzb => rfl); (case zzv => ktr_unf); k_whole) | (refine' nameX_C ?zzN ?zzc ?zzm ?zzd ?_ ?zza ?zzb; (case zza => rfl); (case zzb => rfl); (case zzN => k_asm); (case zzc => rfl); (case zzm => first | k_mem | assumption); (case zzd => first | assumption | rfl); k_whole)))) | walk1 | (dsimp only; first | ((with_reducible show wpAny _ _ (call (Value.ref _) _ _) _ _ _); (k_here; k_dflt (refine' parseFlags_spec ?zzB ?zzF ?zzX ?zzN ?zzT ?zzhk ?zzhdp ?zzhun ?zzhx ?zzh8 ?zzhw ?_; (case zzB => k_asm); (case zzF => k_asm); (case zzX => k_asm); (case zzN => k_asm); (case zzT => k_asm); (case zzhk => exact rfl); (case zzhx => assumption); (case zzh8 => assumption); (case zzhw => assumption); (case zzhdp => decide); (case zzhun => decide); k_whole); intro _ _ _ _ _ _ _ _ _)) | ((with_reducible show wpAny _ _ (call (Value.builtin "str.encode") _ _) _ _ _); (k_here; k_dflt (refine' call_encode ?zza ?zzb ?zzc ?_; (case zza => assumption); (case zzb => assumption); (case zzc => assumption); k_whole))) | ((with_reducible show wpAny _ _ (getMethod (Value.str ..) _ _) _ _ _); (k_here; (refine getMethod_encode ?_))) | ((with_reducible show wpAny _ _ (call (Value.ref _) _ _) _ _ _); (k_here; k_dflt (refine' parse229_spec ?zzB ?zzF ?zzX ?zzN ?zzT ?zzhk ?zzhdp ?zzhun ?zzhp ?zzhx ?zzh29 ?zzhf ?zzhf3 ?zzhit ?zzhsp ?zzhin ?zzhin2 ?_; (case zzB => k_asm); (case zzF => k_asm); (case zzX => k_asm); (case zzN => k_asm); (case zzT => k_asm); (case zzhk => exact rfl); (case zzhp => exact tup_at (by k_asm) (List.Mem.head _)); (case zzhx => assumption); (case zzh29 => assumption); (case zzhf => assumption); (case zzhf3 => assumption); (case zzhit => assumption); (case zzhsp => assumption); (case zzhin => assumption); (case zzhin2 => assumption); (case zzhdp => decide); (case zzhun => decide); k_whole); intro _ _ _ _ _ _ _ _)) | ((with_reducible show wpAny _ _ (subscriptTail _ _ _ _) _ _ _); (k_here; k_dflt (refine' item_any ?zzl ?zza ?zzb ?zzx ?_; (case zzl => exact list_at (by k_asm) (by assumption)); (case zza => decide); (case zzb => decide); (case zzx => assumption); k_whole))) | ((with_reducible show wpAny _ _ (eval (Expr.Name ..) _) _ _ _); (k_here; k_dflt (first | (refine' nameX_L ?zzF ?zzv ?_ ?zza ?zzb; (case zzF => k_asm); (case zza => rfl); (case zzb => rfl); (case zzv => ktr_unf); k_whole) | (refine' nameX_C ?zzN ?zzc ?zzm ?zzd ?_ ?zza ?zzb; (case zza => rfl); (case zzb => rfl); (case zzN => k_asm); (case zzc => rfl); (case zzm => first | k_mem | assumption); (case zzd => first | assumption | rfl); k_whole)))) | walk1) | (leave1; try dsimp only) | fail "no step"))
  exact hQ _ _ _ _ (by assumption) (by assumption) (by assumption) (by assumption)
end
theorem fm20 {n : Int} : 0 ≤ n.fmod 20 := Int.fmod_nonneg_of_pos _ (by decide)
section
variable {w : World} {mean : ExcName → Option Value} {mg mb : Str → Option Value} {g : Heap} {L a : Addr} {ccd : Value} {s : Shared} {m : Str → Option Value} {news : List (Addr × Obj)} {Q : Flow → Shared → Prop} {E : Value → Shared → Prop}

set_option maxHeartbeats 4000000 in
theorem st_tops {n : Int} {tn : Tok} {lw : Addr} (hn : m (Str.ofString "port") = some (.int n tn)) (hw : m (Str.ofString "ways") = some (.ref lw)) (hW : WaysIn news lw) {base : Heap} (B : Below callerA base [] g)
   (X : (Mine.hd.heap_39 w.params).In g) (T : Top Mine.hd.view_39 lo mean mg mb g) (F : Fr g L s.heap m) (N : News g L s.heap news)
   (hQ : ∀ q vs nn h' tk', IntsAre vs (topsOf (n.fmod 20)) → Fr g L h' (fun y => if y = Str.ofString "tops" then some (.ref q) else m y) → News g L h' ((q, listOf (List.toArray vs) nn) :: news) → (∀ p ∈ news, p.1 ≠ q) → Q .next { s with heap := h', toks := tk' }) :
   wpAny (model rprog w) (callerA.deeper (envOfC (Str.ofString "law") lawScope L a ccd)) (exec (loopS 23) (envOfC (Str.ofString "law") lawScope L a ccd)) Q E s := by
  show wpAny _ _ (exec (Stmt.Assign _ _ _) _) _ _ _
  w_strict (repeat' (first | (k_unfold; (try dsimp only)) | (k_end; wrow_close) | ((with_reducible show wpAny _ _ (call (Value.ref _) _ _) _ _ _); (k_here; k_dflt (refine' law_tops_spec ?zzB ?zzF ?zzX ?zzN ?zzT ?zzhk ?zzhdp ?zzhun ?zzhW ?zzh0 ?_; (case zzB => k_asm); (case zzF => k_asm); (case zzX => k_asm); (case zzN => k_asm); (case zzT => k_asm); (case zzhk => exact rfl); (case zzhW => exact WaysIn.at_ (by assumption) (by k_asm)); (case zzh0 => exact fm20); (case zzhdp => decide); (case zzhun => decide); k_whole); intro _ _ _ _ _ _ _ _ _ _)) | ((with_reducible show wpAny _ _ (call (Value.ref _) _ _) _ _ _); (k_here; k_dflt (refine' parseFlags_spec ?zzB ?zzF ?zzX ?zzN ?zzT ?zzhk ?zzhdp ?zzhun ?zzhx ?zzh8 ?zzhw ?_; (case zzB => k_asm); (case zzF => k_asm); (case zzX => k_asm); (case zzN => k_asm); (case zzT => k_asm); (case zzhk => exact rfl); (case zzhx => assumption); (case zzh8 => assumption); (case zzhw => assumption); (case zzhdp => decide); (case zzhun => decide); k_whole); intro _ _ _ _ _ _ _ _ _)) | ((with_reducible show wpAny _ _ (call (Value.builtin "str.encode") _ _) _ _ _); (k_here; k_dflt (refine' call_encode ?zza ?zzb ?zzc ?_; (case zza => assumption); (case zzb => assumption); (case zzc => assumption); k_whole))) | ((with_reducible show wpAny _ _ (getMethod (Value.str ..) _ _) _ _ _); (k_here; (refine getMethod_encode ?_))) | ((with_reducible show wpAny _ _ (call (Value.ref _) _ _) _ _ _); (k_here; k_dflt (refine' parse229_spec ?zzB ?zzF ?zzX ?zzN ?zzT ?zzhk ?zzhdp ?zzhun ?zzhp ?zzhx ?zzh29 ?zzhf ?zzhf3 ?zzhit ?zzhsp ?zzhin ?zzhin2 ?_; (case zzB => k_asm); (case zzF => k_asm); (case zzX => k_asm); (case zzN => k_asm); (case zzT => k_asm); (case zzhk => exact rfl); (case zzhp => exact tup_at (by k_asm) (List.Mem.head _)); (case zzhx => assumption); (case zzh29 => assumption); (case zzhf => assumption); (case zzhf3 => assumption); (case zzhit => assumption); (case zzhsp => assumption); (case zzhin => assumption); (case zzhin2 => assumption); (case zzhdp => decide); (case zzhun => decide); k_whole); intro _ _ _ _ _ _ _ _)) | ((with_reducible show wpAny _ _ (subscriptTail _ _ _ _) _ _ _); (k_here; k_dflt (refine' item_any ?zzl ?zza ?zzb ?zzx ?_; (case zzl => exact list_at (by k_asm) (by assumption)); (case zza => decide); (case zzb => decide); (case zzx => assumption); k_whole))) | ((with_reducible show wpAny _ _ (eval (Expr.Name ..) _) _ _ _); (k_here; k_dflt (first | (refine' nameX_L ?zzF ?zzv ?_ ?zza ?zzb; (case zzF => k_asm); (case zza => rfl); (case zzb => rfl); (case zzv => ktr_unf); k_whole) | (refine' nameX_C ?zzN ?zzc ?zzm ?zzd ?_ ?zza ?zzb; (case zza => rfl); (case zzb => rfl); (case zzN => k_asm); (case zzc => rfl); (case zzm => first | k_mem | assumption); (case zzd => first | assumption | rfl); k_whole)))) | walk1 | (dsimp only; first | ((with_reducible show wpAny _ _ (call (Value.ref _) _ _) _ _ _); (k_here; k_dflt (refine' law_tops_spec ?zzB ?zzF ?zzX ?zzN ?zzT ?zzhk ?zzhdp ?zzhun ?zzhW ?zzh0 ?_; (case zzB => k_asm); (case zzF => k_asm); (case zzX => k_asm); (case zzN => k_asm); (case zzT => k_asm); (case zzhk => exact rfl); (case zzhW => exact WaysIn.at_ (by assumption) (by k_asm)); (case zzh0 => exact fm20); (case zzhdp => decide); (case zzhun => decide); k_whole); intro _ _ _ _ _ _ _ _ _ _)) | ((with_reducible show wpAny _ _ (call (Value.ref _) _ _) _ _ _); (k_here; k_dflt (refine' parseFlags_spec ?zzB ?zzF ?zzX ?zzN ?zzT ?zzhk ?zzhdp ?zzhun ?zzhx ?zzh8 ?zzhw ?_; (case zzB => k_asm); (case zzF => k_asm); (case zzX => k_asm); (case zzN => k_asm); (case zzT => k_asm); (case zzhk => exact rfl); (case zzhx => assumption); (case zzh8 => assumption); (case zzhw => assumption); (case zzhdp => decide); (case zzhun => decide); k_whole); intro _ _ _ _ _ _ _ _ _)) | ((with_reducible show wpAny _ _ (call (Value.builtin "str.encode") _ _) _ _ _); (k_here; k_dflt (refine' call_encode ?zza ?zzb ?zzc ?_; (case zza => assumption); (case zzb => assumption); (case zzc => assumption); k_whole))) | ((with_reducible show wpAny _ _ (getMethod (Value.str ..) _ _) _ _ _); (k_here; (refine getMethod_encode ?_))) | ((with_reducible show wpAny _ _ (call (Value.ref _) _ _) _ _ _); (k_here; k_dflt (refine' parse229_spec ?zzB ?zzF ?zzX ?zzN ?zzT ?zzhk ?zzhdp ?zzhun ?zzhp ?zzhx ?zzh29 ?zzhf ?zzhf3 ?zzhit ?zzhsp ?zzhin ?zzhin2 ?_; (case zzB => k_asm); (case zzF => k_asm); (case zzX => k_asm); (case zzN => k_asm); (case zzT => k_asm); (case zzhk => exact rfl); (case zzhp => exact tup_at (by k_asm) (List.Mem.head _)); (case zzhx => assumption); (case zzh29 => assumption); (case zzhf => assumption); (case zzhf3 => assumption); (case zzhit => assumption); (case zzhsp => assumption); (case zzhin => assumption); (case zzhin2 => assumption); (case zzhdp => decide); (case zzhun => decide); k_whole); intro _ _ _ _ _ _ _ _)) | ((with_reducible show wpAny _ _ (subscriptTail _ _ _ _) _ _ _); (k_here; k_dflt (refine' item_any ?zzl ?zza ?zzb ?zzx ?_; (case zzl => exact list_at (by k_asm) (by assumption)); (case zza => decide); (case zzb => decide); (case zzx => assumption); k_whole))) | ((with_reducible show wpAny _ _ (eval (Expr.Name ..) _) _ _ _); (k_here; k_dflt (first | (refine' nameX_L ?zzF ?zzv ?_ ?zza ?zzb; (case zzF => k_asm); (case zza => rfl); (case zzb => rfl); (case zzv => ktr_unf); k_whole) | (refine' nameX_C ?zzN ?zzc ?zzm ?zzd ?_ ?zza ?zzb; (case zza => rfl); (case zzb => rfl); (case zzN => k_asm); (case zzc => rfl); (case zzm => first | k_mem | assumption); (case zzd => first | assumption | rfl); k_whole)))) | walk1) | (leave1; try dsimp only) | fail "no step"))
  exact hQ _ _ _ _ _ (by assumption) (by assumption) (by assumption) (by assumption)
end
end Mine
end
section
open PySem PySem.W PyProof.Rows PySem.Calls PySem.Spec
set_option maxRecDepth 100000
namespace Mine
local macro_rules | `(tactic| ktr_unf) => `(tactic| first | assumption | (dsimp only; (repeat (first | (rw [if_pos (by decide)]) | (rw [if_neg (by decide)]))); first | rfl | assumption))
local macro_rules | `(tactic| k_all) => `(tactic| assumption)
local macro_rules | `(tactic| k_mem) => `(tactic| assumption)
example (w : World) (h : Heap) : (Mine.hd.heap_39 w.params).In h → rprog = PySem.Challenge.rw_wy0014_01.prog → True := by
  k_fill
  intros; trivial
section
variable {w : World} {mean : ExcName → Option Value} {mg mb : Str → Option Value} {g : Heap} {L a : Addr} {ccd : Value} {s : Shared} {m : Str → Option Value} {news : List (Addr × Obj)} {Q : Flow → Shared → Prop} {E : Value → Shared → Prop}
end
section
variable {w : World} {mean : ExcName → Option Value} {mg mb : Str → Option Value} {g : Heap} {L a : Addr} {ccd : Value} {s : Shared} {m : Str → Option Value} {news : List (Addr × Obj)} {Q : Flow → Shared → Prop} {E : Value → Shared → Prop}

set_option maxHeartbeats 4000000 in
theorem st_refused {n : Int} {tn : Tok} {y : Str} {ty : Tok} (hn : m (Str.ofString "rank") = some (.int n tn)) (h0 : 0 ≤ n) (h1 : n < 20) (hy : m (Str.ofString "foreign") = some (.str y ty)) (hyl : y.length ≤ 1000) (hy29 : (Txt.slice y none (some 3) != Str.ofString "229") = true) (hxl : (Str.ofString "229 x20" ++ Str.ofString (toString n) ++ Str.ofString "2)").length ≤ 1000) (hx29 : (Txt.slice (Str.ofString "229 x20" ++ Str.ofString (toString n) ++ Str.ofString "2)") none (some 3) != Str.ofString "229") = false) (hD : ¬ Txt.find (Str.ofString "229 x20" ++ Str.ofString (toString n) ++ Str.ofString "2)") (Str.ofString "(") < 0 → ¬ Txt.find3 (Str.ofString "229 x20" ++ Str.ofString (toString n) ++ Str.ofString "2)") (Str.ofString ")") (Txt.find (Str.ofString "229 x20" ++ Str.ofString (toString n) ++ Str.ofString "2)") (Str.ofString "(") + 1) < 0 → Txt.item (Str.ofString "229 x20" ++ Str.ofString (toString n) ++ Str.ofString "2)") (Txt.find (Str.ofString "229 x20" ++ Str.ofString (toString n) ++ Str.ofString "2)") (Str.ofString "(") + 1) = Txt.item (Str.ofString "229 x20" ++ Str.ofString (toString n) ++ Str.ofString "2)") (Txt.find3 (Str.ofString "229 x20" ++ Str.ofString (toString n) ++ Str.ofString "2)") (Str.ofString ")") (Txt.find (Str.ofString "229 x20" ++ Str.ofString (toString n) ++ Str.ofString "2)") (Str.ofString "(") + 1) - 1) → (Txt.split (Txt.slice (Str.ofString "229 x20" ++ Str.ofString (toString n) ++ Str.ofString "2)") (some (Txt.find (Str.ofString "229 x20" ++ Str.ofString (toString n) ++ Str.ofString "2)") (Str.ofString "(") + 1)) (some (Txt.find3 (Str.ofString "229 x20" ++ Str.ofString (toString n) ++ Str.ofString "2)") (Str.ofString ")") (Txt.find (Str.ofString "229 x20" ++ Str.ofString (toString n) ++ Str.ofString "2)") (Str.ofString "(") + 1)))) (Txt.item (Str.ofString "229 x20" ++ Str.ofString (toString n) ++ Str.ofString "2)") (Txt.find (Str.ofString "229 x20" ++ Str.ofString (toString n) ++ Str.ofString "2)") (Str.ofString "(") + 1))).length ≠ 5) {base : Heap} (B : Below callerA base [] g) (XB : (Mine.hd.heap_39 w.params).In base) (TB : Top Mine.hd.view_39 lo mean mg mb base)
   (X : (Mine.hd.heap_39 w.params).In g) (T : Top Mine.hd.view_39 lo mean mg mb g) (F : Fr g L s.heap m) (N : News g L s.heap news)
   (hQ : ∀ h' tk', Fr g L h' m → News g L h' news → Q .next { s with heap := h', toks := tk' }) :
   wpAny (model rprog w) (callerA.deeper (envOfC (Str.ofString "law") lawScope L a ccd)) (exec (loopS 22) (envOfC (Str.ofString "law") lawScope L a ccd)) Q E s := by
  show wpAny _ _ (exec (Stmt.If _ _ _ _) _) _ _ _
  w_strict (repeat' (first | (k_unfold; (try dsimp only)) | (k_end; wrow_close) | ((with_reducible show wpAny _ _ (call (Value.ref _) _ _) _ _ _); (k_here; k_dflt (refine' law_foreign_spec ?zzB ?zzF ?zzX ?zzN ?zzT ?zzhk ?zzXB ?zzTB ?zzhdp ?zzhun ?zzhx ?zzh29 ?_; (case zzB => k_asm); (case zzF => k_asm); (case zzX => k_asm); (case zzN => k_asm); (case zzT => k_asm); (case zzhk => exact rfl); (case zzXB => assumption); (case zzTB => assumption); (case zzhx => assumption); (case zzh29 => assumption); (case zzhdp => decide); (case zzhun => decide); k_whole); intro _ _ _ _ _)) | ((with_reducible show wpAny _ _ (call (Value.ref _) _ _) _ _ _); (k_here; k_dflt (refine' law_spoilt_spec ?zzB ?zzF ?zzX ?zzN ?zzT ?zzhk ?zzXB ?zzTB ?zzhdp ?zzhun ?zzhx ?zzh29 ?zzhD ?_; (case zzB => k_asm); (case zzF => k_asm); (case zzX => k_asm); (case zzN => k_asm); (case zzT => k_asm); (case zzhk => exact rfl); (case zzXB => assumption); (case zzTB => assumption); (case zzhx => assumption); (case zzh29 => assumption); (case zzhD => assumption); (case zzhdp => decide); (case zzhun => decide); k_whole); intro _ _ _ _ _)) | ((with_reducible show wpAny _ _ (eval (Expr.Name ..) _) _ _ _); (k_here; k_dflt (first | (refine' nameX_L ?zzF ?zzv ?_ ?zza ?zzb; (case zzF => k_asm); (case zza => rfl); (case zzb => rfl); (case zzv => ktr_unf); k_whole) | (refine' nameX_C ?zzN ?zzc ?zzm ?zzd ?_ ?zza ?zzb; (case zza => rfl); (case zzb => rfl); (case zzN => k_asm); (case zzc => rfl); (case zzm => first | k_mem | assumption); (case zzd => first | assumption | rfl); k_whole)))) | walk1 | (dsimp only; first | ((with_reducible show wpAny _ _ (call (Value.ref _) _ _) _ _ _); (k_here; k_dflt (refine' law_foreign_spec ?zzB ?zzF ?zzX ?zzN ?zzT ?zzhk ?zzXB ?zzTB ?zzhdp ?zzhun ?zzhx ?zzh29 ?_; (case zzB => k_asm); (case zzF => k_asm); (case zzX => k_asm); (case zzN => k_asm); (case zzT => k_asm); (case zzhk => exact rfl); (case zzXB => assumption); (case zzTB => assumption); (case zzhx => assumption); (case zzh29 => assumption); (case zzhdp => decide); (case zzhun => decide); k_whole); intro _ _ _ _ _)) | ((with_reducible show wpAny _ _ (call (Value.ref _) _ _) _ _ _); (k_here; k_dflt (refine' law_spoilt_spec ?zzB ?zzF ?zzX ?zzN ?zzT ?zzhk ?zzXB ?zzTB ?zzhdp ?zzhun ?zzhx ?zzh29 ?zzhD ?_; (case zzB => k_asm); (case zzF => k_asm); (case zzX => k_asm); (case zzN => k_asm); (case zzT => k_asm); (case zzhk => exact rfl); (case zzXB => assumption); (case zzTB => assumption); (case zzhx => assumption); (case zzh29 => assumption); (case zzhD => assumption); (case zzhdp => decide); (case zzhun => decide); k_whole); intro _ _ _ _ _)) | ((with_reducible show wpAny _ _ (eval (Expr.Name ..) _) _ _ _); (k_here; k_dflt (first | (refine' nameX_L ?zzF ?zzv ?_ ?zza ?zzb; (case zzF => k_asm); (case zza => rfl); (case zzb => rfl); (case zzv => ktr_unf); k_whole) | (refine' nameX_C ?zzN ?zzc ?zzm ?zzd ?_ ?zza ?zzb; (case zza => rfl); (case zzb => rfl); (case zzN => k_asm); (case zzc => rfl); (case zzm => first | k_mem | assumption); (case zzd => first | assumption | rfl); k_whole)))) | walk1) | (leave1; try dsimp only) | fail "no step"))
  exact hQ _ _ (by assumption) (by assumption)
end
end Mine
end
section
open PySem PySem.W PyProof.Rows PySem.Calls PySem.Spec PyProof.Rows.LCg
set_option maxRecDepth 100000
namespace Mine
section
variable {prog : Program} {w : World} {A : Around} {E : Value → Shared → Prop} {s : Shared}
theorem nextT_item {it t : Addr} {i : Nat} {items : Array Value} {x : Value} {Q : Value → Shared → Prop} (hit : s.heap.IsTupleIter it t i) (ht : s.heap.IsTuple t items) (hx : items[i]? = some x)
    (hQ : ∀ h', h'.IsTupleIter it t (i + 1) → Heap.SameBut it s.heap h' → Q x { s with heap := h' }) : wpAny (model prog w) A (Builtin.SmallTypes.nextOf (.ref it)) Q E s := by
  obtain ⟨o, ho, hc, hd⟩ := id hit
  obtain ⟨ol, hol, _, nl, hdl⟩ := ht
  unfold Builtin.SmallTypes.nextOf
  refine wpAny_bind (wpAny_callSpecial?_slot (name := Str.ofString "__next__") hit.typeIs PySem.F.slot_tuple_iterator_next
    (wpAny_call_entry PySem.F.slot_tuple_iterator_next hit.typeIs PySem.F.entry_tuple_iterator_next ?_ (PySem.F.args_tuple_iterator_next_1 _)))
  show wpAny _ _ (field (.ref it) 0 >>= _) _ _ s
  refine wpAny_bind (wpAny_field ho hd (x := .ref t) rfl ?_)
  show wpAny _ _ (if (Value.ref t == Value.none) = true then _ else _) _ _ s
  rw [if_neg (show ¬ ((Value.ref t == Value.none) = true) from Bool.false_ne_true)]
  show wpAny _ _ (field (.ref it) 1 >>= _) _ _ s
  refine wpAny_bind (wpAny_field ho hd (x := .int i 0) rfl ?_)
  show wpAny _ _ (seqItems? (.ref t) >>= _) _ _ s
  refine wpAny_bind (wpAny_seqItems hol hdl ?_)
  simp only [Int.toNat_natCast, hx]
  refine wpAny_bind (wpAny_setField ho hd (by simp) (wpAny_pure ⟨x, rfl, wpAny_pure (hQ _ ?_ (Heap.SameBut.update ..))⟩))
  exact ⟨_, Heap.get?_update_self _ ho (Obj.isFreed_of_fields (Obj.data_mapFields hd _)), (Obj.cls_mapFields ..).trans hc, by
    rw [Obj.data_mapFields hd]; simp [rawInt]⟩
theorem nextT_end {it t : Addr} {i : Nat} {items : Array Value} {Q : Value → Shared → Prop} (hh : A.handled = none) (hit : s.heap.IsTupleIter it t i) (ht : s.heap.IsTuple t items) (hx : items[i]? = none)
    (hE : ∀ h' e, Heap.ExtBut it s.heap h' → (∃ o, h'.get? e = some o ∧ o.cls = .type "StopIteration") → E (.ref e) { s with heap := h' }) : wpAny (model prog w) A (Builtin.SmallTypes.nextOf (.ref it)) Q E s := by
  obtain ⟨o, ho, hc, hd⟩ := id hit
  obtain ⟨ol, hol, _, nl, hdl⟩ := ht
  unfold Builtin.SmallTypes.nextOf
  refine wpAny_bind (wpAny_callSpecial?_slot (name := Str.ofString "__next__") hit.typeIs PySem.F.slot_tuple_iterator_next
    (wpAny_call_entry PySem.F.slot_tuple_iterator_next hit.typeIs PySem.F.entry_tuple_iterator_next ?_ (PySem.F.args_tuple_iterator_next_1 _)))
  show wpAny _ _ (field (.ref it) 0 >>= _) _ _ s
  refine wpAny_bind (wpAny_field ho hd (x := .ref t) rfl ?_)
  show wpAny _ _ (if (Value.ref t == Value.none) = true then _ else _) _ _ s
  rw [if_neg (show ¬ ((Value.ref t == Value.none) = true) from Bool.false_ne_true)]
  show wpAny _ _ (field (.ref it) 1 >>= _) _ _ s
  refine wpAny_bind (wpAny_field ho hd (x := .int i 0) rfl ?_)
  show wpAny _ _ (seqItems? (.ref t) >>= _) _ _ s
  refine wpAny_bind (wpAny_seqItems hol hdl ?_)
  simp only [Int.toNat_natCast, hx]
  refine wpAny_bind (wpAny_rule (wpAny_bind (wpAny_setField ho hd (by simp) ?_)))
  show wpAny _ _ (newExc (.type "StopIteration") [] >>= _) _ _ _
  refine wpAny_bind ?_
  simp only [newExc, newTuple]
  refine wpAny_bind (wpAny_newObj_type ?_ (by size_fits))
  refine wpAny_bind (m := firstArgMember _ _) (wpAny_of_eq (a := Value.none) (by first | rfl | (simp only [firstArgMember]; rfl)) ?_)
  refine wpAny_newObj_type ?_ (by size_fits)
  simp only [raiseNew]
  refine wpAny_bind (wpAny_handled ?_)
  first | rw [show A.in1.handled = none from hh] | rw [hh]
  refine wpAny_bind (wpAny_pure (wpAny_throw ?_))
  exact hE _ _ (((Heap.SameBut.update ..).extBut.push _).push _) ⟨_, Heap.get?_push_size _ rfl, rfl⟩
/-- the next pair of a zip over a tuple and a list -/
theorem zipTL_item {z TI TO i1 i2 l1 l2 : Addr} {k1 k2 : Nat} {xs ys : Array Value} {x y a b : Value} {Q : Option Value → Shared → Prop} (D : ZipApart z TI TO i1 i2 l1 l2)
    (hz : IsZip s.heap z TI TO .none) (hTI : IsPair s.heap TI (.ref i1) (.ref i2)) (hTO : IsPair s.heap TO a b)
    (h1 : s.heap.IsTupleIter i1 l1 k1) (h2 : s.heap.IsListIter i2 l2 k2) (hl1 : s.heap.IsTuple l1 xs) (hl2 : s.heap.IsList l2 ys) (hx : xs[k1]? = some x) (hy : ys[k2]? = some y)
    (hQ : ∀ h' (T : Addr), IsZip h' z TI TO (rawInt T) → IsPair h' TO x y → h'.IsTupleIter i1 l1 (k1 + 1) → h'.IsListIter i2 l2 (k2 + 1) → IsPair h' T x y → T ≠ z →
      (∀ c o, c ≠ z → c ≠ TO → c ≠ i1 → c ≠ i2 → s.heap.get? c = some o → h'.get? c = some o) → Q (some (.ref T)) { s with heap := h' }) :
    wpAny (model prog w) A (pyNext (.ref z)) Q E s := by
  have hT : s.TypeIs (.ref z) "zip" := ⟨_, hz, rfl⟩
  unfold pyNext
  refine wpAny_bind (wpAny_attempt (wpAny_callSpecial?_slot (name := Str.ofString "__next__") hT PySem.F.slot_zip_next
    (wpAny_call_entry PySem.F.slot_zip_next hT PySem.F.entry_zip_next ?_ (PySem.F.args_zip_next_1 _))))
  show wpAny _ _ (field (.ref z) 2 >>= _) _ _ _
  refine wpAny_bind (wpAny_field hz rfl (x := .bool false) rfl ?_)
  show wpAny _ _ (field (.ref z) 3 >>= _) _ _ _
  refine wpAny_bind (wpAny_field hz rfl (x := .ref TI) rfl ?_)
  refine wpAny_bind (wpAny_seqItems hTI rfl ?_)
  show wpAny _ _ (Builtin.SmallTypes.ownedTupleIsFree (.ref z) >>= _) _ _ _
  refine wpAny_bind ?_
  unfold Builtin.SmallTypes.ownedTupleIsFree
  refine wpAny_bind (wpAny_field hz rfl (x := .none) rfl (wpAny_pure ?_))
  simp only [if_true]
  refine wpAny_bind (wpAny_rule ?_)
  refine wpAny_bind (wpAny_field hz rfl (x := .ref TO) rfl ?_)
  refine wpAny_bind (wpAny_setField_rec hz (by simp) fun h₁ hz₁ hs₁ => ?_)
  replace hz₁ : IsZip h₁ z TI TO .ellipsis := hz₁
  refine wpAny_bind ?_
  simp only [List.zipIdx_cons, List.zipIdx_nil, List.forIn_cons, List.forIn_nil]
  refine wpAny_bind (wpAny_bind (wpAny_onRaise ?_))
  show wpAny _ _ (Builtin.SmallTypes.nextOf (.ref i1) >>= _) _ _ _
  refine wpAny_bind (nextT_item (h1.extBut hs₁.extBut D.i1z) (hl1.extBut hs₁.extBut D.l1z) hx fun h₂ h1₂ hs₂ => wpAny_pure ?_)
  have hTO₂ : IsPair h₂ TO a b := hs₂.extBut _ _ D.TOi1 (hs₁.extBut _ _ D.TOz hTO)
  refine wpAny_bind (wpAny_seqItems hTO₂ rfl ?_)
  refine wpAny_bind (wpAny_updateSeq_pair hTO₂ fun h₃ hTO₃ hs₃ => ?_)
  replace hTO₃ : IsPair h₃ TO x b := hTO₃
  refine wpAny_bind (wpAny_letGo (wpAny_pure ?_))
  refine wpAny_bind (wpAny_bind (wpAny_onRaise ?_))
  show wpAny _ _ (Builtin.SmallTypes.nextOf (.ref i2) >>= _) _ _ _
  refine wpAny_bind (wpAny_nextOf_list_item (((h2.extBut hs₁.extBut D.i2z).extBut hs₂.extBut D.i12.symm).extBut hs₃.extBut D.TOi2.symm)
    (((hl2.extBut hs₁.extBut D.l2z).extBut hs₂.extBut D.l2i1).extBut hs₃.extBut D.l2TO) hy fun h₄ h2₄ hs₄ => wpAny_pure ?_)
  have hTO₄ : IsPair h₄ TO x b := hs₄.extBut _ _ D.TOi2 hTO₃
  refine wpAny_bind (wpAny_seqItems hTO₄ rfl ?_)
  refine wpAny_bind (wpAny_updateSeq_pair hTO₄ fun h₅ hTO₅ hs₅ => ?_)
  replace hTO₅ : IsPair h₅ TO x y := hTO₅
  refine wpAny_bind (wpAny_letGo (wpAny_pure (wpAny_pure ?_)))
  refine wpAny_bind (wpAny_seqItems hTO₅ rfl ?_)
  refine wpAny_bind (wpAny_newTuple ?_)
  have hz₅ : IsZip h₅ z TI TO .ellipsis := hs₅.extBut _ _ D.TOz.symm (hs₄.extBut _ _ D.i2z.symm (hs₃.extBut _ _ D.TOz.symm (hs₂.extBut _ _ D.i1z.symm hz₁)))
  have hk₅ : ∀ c o, c ≠ z → c ≠ TO → c ≠ i1 → c ≠ i2 → s.heap.get? c = some o → h₅.get? c = some o := fun c o c1 c2 c3 c4 e =>
    hs₅.extBut _ _ c2 (hs₄.extBut _ _ c4 (hs₃.extBut _ _ c2 (hs₂.extBut _ _ c3 (hs₁.extBut _ _ c1 e))))
  have h1₅ : h₅.IsTupleIter i1 l1 (k1 + 1) := ((h1₂.extBut hs₃.extBut D.TOi1.symm).extBut hs₄.extBut D.i12).extBut hs₅.extBut D.TOi1.symm
  have h2₅ : h₅.IsListIter i2 l2 (k2 + 1) := h2₄.extBut hs₅.extBut D.TOi2.symm
  have hzlt : z < h₅.objs.size := Heap.lt_size hz₅
  show wpAny _ _ (Builtin.SmallTypes.ownedTupleHandOut (.ref z) (.ref h₅.objs.size) >>= _) _ _ _
  refine wpAny_bind ?_
  unfold Builtin.SmallTypes.ownedTupleHandOut
  have hz₆ : IsZip (h₅.push { cls := .type "tuple", data := .seq #[x, y] }) z TI TO .ellipsis := Heap.get?_push_of_some _ hz₅
  refine wpAny_bind (wpAny_setField_rec hz₆ (by simp) fun h₇ hz₇ hs₇ => ?_)
  replace hz₇ : IsZip h₇ z TI TO (rawInt h₅.objs.size) := hz₇
  refine wpAny_setField_rec hz₇ (by simp) fun h₈ hz₈ hs₈ => ?_
  replace hz₈ : IsZip h₈ z TI TO (rawInt h₅.objs.size) := hz₈
  have up : ∀ c o, c ≠ z → h₅.get? c = some o → h₈.get? c = some o := fun c o c1 e => hs₈.extBut _ _ c1 (hs₇.extBut _ _ c1 (Heap.get?_push_of_some _ e))
  have hT₈ : IsPair h₈ h₅.objs.size x y := hs₈.extBut _ _ (Nat.ne_of_gt hzlt) (hs₇.extBut _ _ (Nat.ne_of_gt hzlt) (Heap.get?_push_size _ rfl))
  refine wpAny_pure ⟨_, rfl, wpAny_pure ?_⟩
  exact hQ h₈ _ hz₈ (up _ _ D.TOz hTO₅) (h1₅.at fun o e => up _ o D.i1z e) (h2₅.at fun o e => up _ o D.i2z e) hT₈ (Nat.ne_of_gt hzlt) fun c o c1 c2 c3 c4 e => up c o c1 (hk₅ c o c1 c2 c3 c4 e)
theorem zipTL_end {z TI TO i1 i2 l1 l2 : Addr} {k1 : Nat} {xs : Array Value} {a b : Value} {Q : Option Value → Shared → Prop} (hh : A.handled = none) (D : ZipApart z TI TO i1 i2 l1 l2)
    (hz : IsZip s.heap z TI TO .none) (hTI : IsPair s.heap TI (.ref i1) (.ref i2)) (hTO : IsPair s.heap TO a b)
    (h1 : s.heap.IsTupleIter i1 l1 k1) (hl1 : s.heap.IsTuple l1 xs) (hx : xs[k1]? = none)
    (hQ : ∀ h', (∀ c o, c ≠ z → c ≠ TO → c ≠ i1 → c ≠ i2 → s.heap.get? c = some o → h'.get? c = some o) → Q none { s with heap := h' }) : wpAny (model prog w) A (pyNext (.ref z)) Q E s := by
  have hT : s.TypeIs (.ref z) "zip" := ⟨_, hz, rfl⟩
  unfold pyNext
  refine wpAny_bind (wpAny_attempt (wpAny_callSpecial?_slot (name := Str.ofString "__next__") hT PySem.F.slot_zip_next
    (wpAny_call_entry PySem.F.slot_zip_next hT PySem.F.entry_zip_next ?_ (PySem.F.args_zip_next_1 _))))
  show wpAny _ _ (field (.ref z) 2 >>= _) _ _ _
  refine wpAny_bind (wpAny_field hz rfl (x := .bool false) rfl ?_)
  show wpAny _ _ (field (.ref z) 3 >>= _) _ _ _
  refine wpAny_bind (wpAny_field hz rfl (x := .ref TI) rfl ?_)
  refine wpAny_bind (wpAny_seqItems hTI rfl ?_)
  show wpAny _ _ (Builtin.SmallTypes.ownedTupleIsFree (.ref z) >>= _) _ _ _
  refine wpAny_bind ?_
  unfold Builtin.SmallTypes.ownedTupleIsFree
  refine wpAny_bind (wpAny_field hz rfl (x := .none) rfl (wpAny_pure ?_))
  simp only [if_true]
  refine wpAny_bind (wpAny_rule ?_)
  refine wpAny_bind (wpAny_field hz rfl (x := .ref TO) rfl ?_)
  refine wpAny_bind (wpAny_setField_rec hz (by simp) fun h₁ hz₁ hs₁ => ?_)
  replace hz₁ : IsZip h₁ z TI TO .ellipsis := hz₁
  refine wpAny_bind ?_
  simp only [List.zipIdx_cons, List.zipIdx_nil, List.forIn_cons, List.forIn_nil]
  refine wpAny_bind (wpAny_bind (wpAny_onRaise ?_))
  show wpAny _ _ (Builtin.SmallTypes.nextOf (.ref i1) >>= _) _ _ _
  refine wpAny_bind (nextT_end hh (h1.extBut hs₁.extBut D.i1z) (hl1.extBut hs₁.extBut D.l1z) hx fun h₂ e hs₂ he => ?_)
  obtain ⟨oe, hoe, hce⟩ := he
  have hz₂ : IsZip h₂ z TI TO .ellipsis := hs₂ _ _ D.i1z.symm hz₁
  have hez : e ≠ z := fun x => by subst x; rw [hz₂] at hoe; cases hoe; simp at hce
  refine wpAny_setField_rec hz₂ (by simp) fun h₃ _ hs₃ => ?_
  refine wpAny_bind (wpAny_isInstance (T := "StopIteration") (b := true) ⟨oe, hs₃.extBut _ _ hez hoe, hce⟩ isSubtype_stop ?_)
  exact wpAny_pure (hQ _ fun c o c1 _ c3 _ x => hs₃.extBut _ _ c1 (hs₂ _ _ c3 (hs₁.extBut _ _ c1 x)))
end
noncomputable abbrev zp1 (h : Heap) (l1 : Addr) : Heap := h.push { cls := .type "tuple_iterator", data := .fields #[.ref l1, .int 0 0] }
noncomputable abbrev zp2 (h : Heap) (l1 l2 : Addr) : Heap := (zp1 h l1).push { cls := .type "list_iterator", data := .fields #[.ref l2, .int 0 0] }
noncomputable abbrev zp3 (h : Heap) (l1 l2 : Addr) : Heap := (zp2 h l1 l2).push { cls := .type "tuple", data := .seq #[.ref h.objs.size, .ref (zp1 h l1).objs.size] }
noncomputable abbrev zp4 (h : Heap) (l1 l2 : Addr) : Heap := (zp3 h l1 l2).push { cls := .type "tuple", data := .seq #[.none, .none] }
noncomputable abbrev zp5 (h : Heap) (l1 l2 : Addr) : Heap := (zp4 h l1 l2).push { cls := .type "zip", data := .fields #[.none, .bool false, .bool false, .ref (zp2 h l1 l2).objs.size, .ref (zp3 h l1 l2).objs.size] }
theorem meets_zipTL (l1 l2 : Addr) (xs ys : Array Value) :
    Meets (Builtin.«zip.__new__» ⟨[.type "zip", .ref l1, .ref l2], []⟩) (fun _ R s => s.heap.IsTuple l1 xs ∧ s.heap.IsList l2 ys ∧
      R (.ok (.ret (.ref (zp4 s.heap l1 l2).objs.size))) { s with heap := zp5 s.heap l1 l2 }) :=
  .of_wp fun prog w A R s h => by
    obtain ⟨hp, g, d, tk, os⟩ := s; obtain ⟨hl1, hl2, h⟩ := h
    have hsub := PySem.sub_zip
    have hL1 : Heap.IsTuple (Shared.heap ⟨hp, g, d, tk, os⟩) l1 xs := hl1
    have hL2 : Heap.IsList (Shared.heap ⟨hp.push { cls := .type "tuple_iterator", data := .fields #[.ref l1, .int 0 0] }, g, d, tk, os⟩) l2 ys := Heap.IsList.push hl2 _
    wp_walk using wpAny_pyIter_tuple hL1, wpAny_pyIter_list hL2
    exact ⟨_, rfl, h⟩
noncomputable abbrev zipO (TI TO : Addr) : Obj := { cls := .type "zip", dict := none, data := .fields #[.none, .bool false, .bool false, .ref TI, .ref TO], slots := #[] }
noncomputable abbrev twoO (a b : Value) : Obj := { cls := .type "tuple", data := .seq #[a, b] }
/-- what a zip over a tuple and a list is made of, k turns on, in a ledger -/
structure ZipIn (z TI TO i1 i2 l1 l2 : Addr) (k : Nat) (own : List (Addr × Obj)) : Prop where
  at_ : ∃ a b o1 o2, own = [(z, zipO TI TO), (TI, twoO (.ref i1) (.ref i2)), (TO, twoO a b), (i1, o1), (i2, o2)] ∧ o1.cls = .type "tuple_iterator" ∧ o1.data = .fields #[.ref l1, .int k 0] ∧ o2.cls = .type "list_iterator" ∧ o2.data = .fields #[.ref l2, .int k 0]
section
variable {prog : Program} {w : World} {A : Around} {E : Value → Shared → Prop} {s : Shared} {h₀ : Heap} {L : Addr} {m : Str → Option Value} {news : List (Addr × Obj)}
theorem call_zipTL {l1 l2 : Addr} {xs ys : Array Value} {Q : Value → Shared → Prop} (F : Fr h₀ L s.heap m) (N : News h₀ L s.heap news) (hl1 : s.heap.IsTuple l1 xs) (hl2 : s.heap.IsList l2 ys)
    (h : ∀ z TI TO i1 i2 own h', ZipApart z TI TO i1 i2 l1 l2 → ZipIn z TI TO i1 i2 l1 l2 0 own → Fr h₀ L h' m → News h₀ L h' (own ++ news) → (∀ p ∈ news, ∀ q ∈ own, p.1 ≠ q.1) → Q (.ref z) { s with heap := h' }) :
    wpAny (model prog w) A (call (.type "zip") [.ref l1, .ref l2]) Q E s := by
  have h1lt : l1 < s.heap.objs.size := by obtain ⟨_, e, _⟩ := hl1; exact Heap.lt_size e
  have h2lt : l2 < s.heap.objs.size := by obtain ⟨_, e, _⟩ := hl2; exact Heap.lt_size e
  refine callType_new PySem.F.called_zip (by decide) (PySem.F.typeCall_zip_2 _ _) (PySem.F.newCall_zip_2 _ _) (fun obj => PySem.F.args_object_init_3 obj _ _) PySem.F.entry_zip_new
    (meets_zipTL l1 l2 xs ys) ⟨hl1, hl2, ?_⟩
  have z1 : (zp1 s.heap l1).objs.size = s.heap.objs.size + 1 := Heap.size_push ..
  have z2 : (zp2 s.heap l1 l2).objs.size = s.heap.objs.size + 2 := by rw [Heap.size_push, z1]
  have z3 : (zp3 s.heap l1 l2).objs.size = s.heap.objs.size + 3 := by rw [Heap.size_push, z2]
  have z4 : (zp4 s.heap l1 l2).objs.size = s.heap.objs.size + 4 := by rw [Heap.size_push, z3]
  have g5 : (zp5 s.heap l1 l2).get? (zp4 s.heap l1 l2).objs.size = some (zipO (zp2 s.heap l1 l2).objs.size (zp3 s.heap l1 l2).objs.size) := Heap.get?_push_size _ rfl
  have g4 : (zp5 s.heap l1 l2).get? (zp3 s.heap l1 l2).objs.size = some (twoO .none .none) := Heap.get?_push_of_some _ (Heap.get?_push_size _ rfl)
  have g3 : (zp5 s.heap l1 l2).get? (zp2 s.heap l1 l2).objs.size = some (twoO (.ref s.heap.objs.size) (.ref (zp1 s.heap l1).objs.size)) := Heap.get?_push_of_some _ (Heap.get?_push_of_some _ (Heap.get?_push_size _ rfl))
  have g2 : (zp5 s.heap l1 l2).get? (zp1 s.heap l1).objs.size = some { cls := .type "list_iterator", data := .fields #[.ref l2, .int 0 0] } := Heap.get?_push_of_some _ (Heap.get?_push_of_some _ (Heap.get?_push_of_some _ (Heap.get?_push_size _ rfl)))
  have g1 : (zp5 s.heap l1 l2).get? s.heap.objs.size = some { cls := .type "tuple_iterator", data := .fields #[.ref l1, .int 0 0] } := Heap.get?_push_of_some _ (Heap.get?_push_of_some _ (Heap.get?_push_of_some _ (Heap.get?_push_of_some _ (Heap.get?_push_size _ rfl))))
  have up : ∀ c o, s.heap.get? c = some o → (zp5 s.heap l1 l2).get? c = some o := fun c o x =>
    Heap.get?_push_of_some _ (Heap.get?_push_of_some _ (Heap.get?_push_of_some _ (Heap.get?_push_of_some _ (Heap.get?_push_of_some _ x))))
  rw [z2, z3, z4] at g5
  rw [z1, z2] at g3
  rw [z3] at g4
  rw [z1] at g2
  show _ ∧ _
  rw [z4]
  refine ⟨⟨_, g5, rfl⟩, ?_⟩
  have fresh : ∀ k, h₀.get? (s.heap.objs.size + k) = none := fun k => by
    cases e : h₀.get? (s.heap.objs.size + k) with
    | none => rfl
    | some o =>
      have a1 : @LT.lt Nat _ (s.heap.objs.size + k) s.heap.objs.size := Heap.lt_size (F.keep _ _ e)
      lia
  have hL : L < s.heap.objs.size := F.ns.lt
  refine h (s.heap.objs.size + 4) (s.heap.objs.size + 2) (s.heap.objs.size + 3) s.heap.objs.size (s.heap.objs.size + 1) _ _ ?_ ⟨.none, .none, { cls := .type "tuple_iterator", data := .fields #[.ref l1, .int 0 0] }, { cls := .type "list_iterator", data := .fields #[.ref l2, .int 0 0] }, rfl, rfl, rfl, rfl, rfl⟩ (F.keeps up) (fun p hp => ?_) (fun p hp q hq => ?_)
  · constructor <;> (intro e; (have e' : @Eq Nat _ _ := e); (have a1 : @LT.lt Nat _ l1 _ := h1lt); (have a2 : @LT.lt Nat _ l2 _ := h2lt); lia)
  · simp only [List.cons_append, List.nil_append, List.mem_cons] at hp
    have nl : ∀ k, s.heap.objs.size + k ≠ L := fun k e => by have e' : @Eq Nat _ _ := e; have a1 : @LT.lt Nat _ L _ := hL; lia
    rcases hp with rfl | rfl | rfl | rfl | rfl | hp
    · exact ⟨g5, nl 4, fresh 4⟩
    · exact ⟨g3, nl 2, fresh 2⟩
    · exact ⟨g4, nl 3, fresh 3⟩
    · exact ⟨g1, nl 0, fresh 0⟩
    · exact ⟨g2, nl 1, fresh 1⟩
    · exact ⟨up _ _ (N p hp).1, (N p hp).2⟩
  · have hlt : @LT.lt Nat _ p.1 s.heap.objs.size := Heap.lt_size (N p hp).1
    simp only [List.mem_cons, List.not_mem_nil, or_false] at hq
    intro e
    have e' : @Eq Nat p.1 q.1 := e
    rcases hq with rfl | rfl | rfl | rfl | rfl <;> (dsimp only at e'; lia)
end
end Mine
end
section
open PySem PySem.W PyProof.Rows PySem.Calls PySem.Spec PyProof.Rows.LCg
set_option maxRecDepth 100000
namespace Mine
/-- how a turn over a zip ends -/
noncomputable def TurnEndZ (h₀ : Heap) (L : Addr) (own : List (Addr × Obj)) (J : (Str → Option Value) → List (Addr × Obj) → Prop) (Q : Flow → Shared → Prop) (s₂ : Shared) (f : Flow) (s' : Shared) : Prop := match f with
  | .ret v => Q (.ret v) s'
  | .brk => Q .next s'
  | _ => ∃ h tk m nx, s' = { s₂ with heap := h, toks := tk } ∧ Fr h₀ L h m ∧ News h₀ L h (own ++ nx) ∧ (∀ p ∈ nx, ∀ q ∈ own, p.1 ≠ q.1) ∧ J m nx
section
variable {prog : Program} {w : World} {A : Around} {E : Value → Shared → Prop} {s : Shared} {env : Env} {h₀ : Heap}
theorem TurnEndZ.intro {L : Addr} {own : List (Addr × Obj)} {J : (Str → Option Value) → List (Addr × Obj) → Prop} {Q : Flow → Shared → Prop} {s₂ : Shared} {h : Heap} {tk : Nat} {m : Str → Option Value} {nx : List (Addr × Obj)} (F : Fr h₀ L h m) (N : News h₀ L h (own ++ nx)) (off : ∀ p ∈ nx, ∀ q ∈ own, p.1 ≠ q.1) (hJ : J m nx) :
    TurnEndZ h₀ L own J Q s₂ .next { s₂ with heap := h, toks := tk } := ⟨h, tk, m, nx, rfl, F, N, off, hJ⟩
theorem for_zip {x x₂ : Str} {px px₂ tp : Pos} {kk} {iter : PySem.Expr} {body : List Stmt} {pos : Pos} {Q : Flow → Shared → Prop} (hh : A.handled = none)
    (hx : env.kindOf x = some .local) (hx₂ : env.kindOf x₂ = some .local) (hp : (env.scope.kind == .class || (env.scope.kind == .module && env.locals != env.globals)) = false)
    (h : wpAny (model prog w) A (eval iter env) (fun xv s₁ => ∃ (J : Nat → (Str → Option Value) → List (Addr × Obj) → Prop) (z TI TO i1 i2 l1 l2 : Addr) (own : List (Addr × Obj)) (xs ys : Array Value) (m : Str → Option Value) (news : List (Addr × Obj)),
      xv = .ref z ∧ ZipApart z TI TO i1 i2 l1 l2 ∧ ZipIn z TI TO i1 i2 l1 l2 0 own ∧ Fr h₀ env.locals s₁.heap m ∧ News h₀ env.locals s₁.heap (own ++ news) ∧ (∀ p ∈ news, ∀ q ∈ own, p.1 ≠ q.1) ∧ xs.size ≤ ys.size ∧
      (∀ i m nx, J i m nx → TupIn l1 xs nx ∧ ∃ n, (l2, listOf ys n) ∈ nx) ∧ J 0 m news ∧
      (∀ i a b m nx own h tk, i < xs.size → xs[i]? = some a → ys[i]? = some b → J i m nx → ZipIn z TI TO i1 i2 l1 l2 (i + 1) own → Fr h₀ env.locals h (fun y => if y = x₂ then some b else if y = x then some a else m y) → News h₀ env.locals h (own ++ nx) → (∀ p ∈ nx, ∀ q ∈ own, p.1 ≠ q.1) →
        wpAny (model prog w) A (execs body env) (TurnEndZ h₀ env.locals own (J (i + 1)) Q s₁) NoE' { s₁ with heap := h, toks := tk }) ∧
      (∀ m nx h tk, J xs.size m nx → Fr h₀ env.locals h m → News h₀ env.locals h nx → Q .next { s₁ with heap := h, toks := tk })) E s)
    (hs : ∀ x, foldedSetIterable iter env x = pure x := by intro _; rfl) :
    wpAny (model prog w) A (exec (.For (.Tuple [.Name x px, .Name x₂ px₂] kk tp) iter body [] pos) env) Q E s := by
  refine wpAny_For (wpAny_mono h (fun xv s₁ h₁ => ?_) fun _ _ e => e) hs
  obtain ⟨J, z, TI, TO, i1, i2, l1, l2, own, xs, ys, m, news, rfl, D, hZ, F, N, off, hsz, hJS, hJ, turn, done⟩ := h₁
  have hz : IsZip s₁.heap z TI TO .none := by
    obtain ⟨a, b, o1, o2, rfl, _⟩ := hZ.at_
    exact (N _ List.mem_cons_self).1
  refine wpAny_pyIter_zip hz ?_
  refine codeAny_forLoop_any
    (fun k s' => ∃ h' tk m' nx own i, s' = { s₁ with heap := h', toks := tk } ∧ ZipIn z TI TO i1 i2 l1 l2 i own ∧ Fr h₀ env.locals h' m' ∧ News h₀ env.locals h' (own ++ nx) ∧ (∀ p ∈ nx, ∀ q ∈ own, p.1 ≠ q.1) ∧ J i m' nx ∧ i ≤ xs.size ∧ k = xs.size + 1 - i) ?_ (xs.size + 1)
    ⟨s₁.heap, s₁.toks, m, news, own, 0, rfl, hZ, F, N, off, hJ, Nat.zero_le _, rfl⟩
  rintro k s' ⟨h', tk, m', nx, own, i, rfl, hZ', F', N', off', hJ', hi, rfl⟩
  obtain ⟨a, b, o1, o2, rfl, c1, d1, c2, d2⟩ := hZ'.at_
  have e0 := N' (z, zipO TI TO) (by simp)
  have e1 := N' (TI, twoO (.ref i1) (.ref i2)) (by simp)
  have e2 := N' (TO, twoO a b) (by simp)
  have e3 := N' (i1, o1) (by simp)
  have e4 := N' (i2, o2) (by simp)
  have Nn : News h₀ env.locals h' nx := fun p hp => N' p (List.mem_append_right _ hp)
  obtain ⟨hT, n2, hL2⟩ := hJS _ _ _ hJ'
  have hl1 := hT.tup Nn
  have hl2 : h'.IsList l2 ys := ⟨_, (Nn _ hL2).1, rfl, _, rfl⟩
  have offz : ∀ p ∈ nx, p.1 ≠ z ∧ p.1 ≠ TI ∧ p.1 ≠ TO ∧ p.1 ≠ i1 ∧ p.1 ≠ i2 := fun p hp =>
    ⟨off' p hp (z, zipO TI TO) (by simp), off' p hp (TI, twoO (.ref i1) (.ref i2)) (by simp), off' p hp (TO, twoO a b) (by simp), off' p hp (i1, o1) (by simp), off' p hp (i2, o2) (by simp)⟩
  have old : ∀ b o, h₀.get? b = some o → b ≠ z ∧ b ≠ TO ∧ b ≠ i1 ∧ b ≠ i2 := fun b o e =>
    ⟨fun q => (by rw [q, e0.2.2] at e; cases e), fun q => (by rw [q, e2.2.2] at e; cases e), fun q => (by rw [q, e3.2.2] at e; cases e), fun q => (by rw [q, e4.2.2] at e; cases e)⟩
  have step : ∀ h₂ : Heap, (∀ c o, c ≠ z → c ≠ TO → c ≠ i1 → c ≠ i2 → h'.get? c = some o → h₂.get? c = some o) → Fr h₀ env.locals h₂ m' ∧ News h₀ env.locals h₂ nx := fun h₂ hk =>
    ⟨⟨F'.ns.at' fun o e => hk _ o e0.2.1.symm e2.2.1.symm e3.2.1.symm e4.2.1.symm e, fun b o e => (let q := old b o e; hk b o q.1 q.2.1 q.2.2.1 q.2.2.2 (F'.keep b o e)), F'.above⟩,
      fun p hp => ⟨(let q := offz p hp; hk _ _ q.1 q.2.2.1 q.2.2.2.1 q.2.2.2.2 (Nn p hp).1), (Nn p hp).2⟩⟩
  by_cases hlt : i < xs.size
  · have hx1 : xs[i]? = some xs[i] := Array.getElem?_eq_getElem hlt
    have hy1 : ys[i]? = some ys[i] := Array.getElem?_eq_getElem (Nat.lt_of_lt_of_le hlt hsz)
    refine zipTL_item D e0.1 e1.1 e2.1 ⟨o1, e3.1, c1, d1⟩ ⟨o2, e4.1, c2, d2⟩ hl1 hl2 hx1 hy1 fun h₂ T hz₂ hTO₂ hi1₂ hi2₂ hT₂ hTz hk₂ => ?_
    refine wpAny_letOwnedTupleGo_zip hz₂ fun h₃ hz₃ hs₃ => ?_
    have hk₃ : ∀ c o, c ≠ z → h₂.get? c = some o → h₃.get? c = some o := fun c o hc e => hs₃.extBut c o hc e
    obtain ⟨F₃, N₃⟩ := step h₃ fun c o q1 q2 q3 q4 e => hk₃ c o q1 (hk₂ c o q1 q2 q3 q4 e)
    obtain ⟨p1, hp1, cp1, dp1⟩ := hi1₂
    obtain ⟨p2, hp2, cp2, dp2⟩ := hi2₂
    have Nall : News h₀ env.locals h₃ ([(z, zipO TI TO), (TI, twoO (.ref i1) (.ref i2)), (TO, twoO xs[i] ys[i]), (i1, p1), (i2, p2)] ++ nx) := fun p hp => by
      simp only [List.cons_append, List.nil_append, List.mem_cons] at hp
      rcases hp with rfl | rfl | rfl | rfl | rfl | hp
      · exact ⟨hz₃, e0.2⟩
      · exact ⟨hk₃ _ _ D.TIz (hk₂ _ _ D.TIz D.TITO D.TIi1 D.TIi2 e1.1), e1.2⟩
      · exact ⟨hk₃ _ _ D.TOz hTO₂, e2.2⟩
      · exact ⟨hk₃ _ _ D.i1z hp1, e3.2⟩
      · exact ⟨hk₃ _ _ D.i2z hp2, e4.2⟩
      · exact N₃ p hp
    have hT₃ : IsTup h₃ T #[xs[i], ys[i]] := ⟨_, hk₃ _ _ hTz hT₂, rfl, _, rfl⟩
    have offn : ∀ p ∈ nx, ∀ q ∈ [(z, zipO TI TO), (TI, twoO (.ref i1) (.ref i2)), (TO, twoO xs[i] ys[i]), (i1, p1), (i2, p2)], p.1 ≠ q.1 := fun p hp q hq => by
      have o := offz p hp
      simp only [List.mem_cons, List.not_mem_nil, or_false] at hq
      rcases hq with rfl | rfl | rfl | rfl | rfl
      · exact o.1
      · exact o.2.1
      · exact o.2.2.1
      · exact o.2.2.2.1
      · exact o.2.2.2.2
    refine wpAny_mono (Q := fun _ s₂ => wpAny (model prog w) A (execs body env) (TurnEndZ h₀ env.locals [(z, zipO TI TO), (TI, twoO (.ref i1) (.ref i2)), (TO, twoO xs[i] ys[i]), (i1, p1), (i2, p2)] (J (i + 1)) Q s₁) NoE' s₂) (E := NoE') ?_ (fun _ s₂ h₂ => wpAny_mono h₂ (fun f s₃ h₃ => ?_) fun _ _ e => e.elim) fun _ _ e => e.elim
    · refine assign_Tuple_tuple hh hT₃ rfl rfl fun h₅ he => ?_
      have he' : ∀ b o, h₃.get? b = some o → h₅.get? b = some o := fun b o e => he b o (Nat.ne_of_lt (Heap.lt_size e)) e
      refine assignInOrder_cons (wpAny_assign_Name (store_own (F₃.keeps he') (Nall.grown he') hx hp fun h₆ F₆ N₆ => ?_))
      refine assignInOrder_cons (wpAny_assign_Name (store_own F₆ N₆ hx₂ hp fun h₇ F₇ N₇ => ?_))
      exact assignInOrder_nil (turn i _ _ m' nx _ h₇ _ hlt hx1 hy1 hJ' ⟨_, _, p1, p2, rfl, cp1, dp1, cp2, dp2⟩ F₇ N₇ offn)
    · cases f with
      | ret v => exact h₃
      | brk => exact h₃
      | next =>
        obtain ⟨h₄, tk₄, m₂, nx₂, rfl, F₄, N₄, off₄, hJ₄⟩ := h₃
        exact ⟨xs.size + 1 - (i + 1), by omega, h₄, tk₄, m₂, nx₂, _, i + 1, rfl, ⟨_, _, p1, p2, rfl, cp1, dp1, cp2, dp2⟩, F₄, N₄, off₄, hJ₄, hlt, rfl⟩
      | cont =>
        obtain ⟨h₄, tk₄, m₂, nx₂, rfl, F₄, N₄, off₄, hJ₄⟩ := h₃
        exact ⟨xs.size + 1 - (i + 1), by omega, h₄, tk₄, m₂, nx₂, _, i + 1, rfl, ⟨_, _, p1, p2, rfl, cp1, dp1, cp2, dp2⟩, F₄, N₄, off₄, hJ₄, hlt, rfl⟩
  · obtain rfl : i = xs.size := Nat.le_antisymm hi (Nat.not_lt.mp hlt)
    refine zipTL_end hh D e0.1 e1.1 e2.1 ⟨o1, e3.1, c1, d1⟩ hl1 (by simp) fun h₂ hk₂ => ?_
    obtain ⟨F₃, N₃⟩ := step h₂ hk₂
    show wpAny _ _ (execs [] env) _ _ _
    rw [execs_nil]
    exact wpAny_pure (done _ _ _ _ hJ' F₃ N₃)
end
end Mine
end
section
open PySem PySem.W PyProof.Rows PySem.Calls PySem.Spec PyProof.Rows.LCg
set_option maxRecDepth 100000
namespace Mine
local macro_rules | `(tactic| omega) => `(tactic| lia)
local macro_rules | `(tactic| k_mem) => `(tactic| assumption)
local macro_rules | `(tactic| k_all) => `(tactic| assumption)
theorem three_ints {vs : List Value} {a b c : Int} (h : IntsAre vs [a, b, c]) : ∃ ta tb tc, vs = [.int a ta, .int b tb, .int c tc] := by
  cases h with
  | cons _ ta h => cases h with
    | cons _ tb h => cases h with
      | cons _ tc h => cases h; exact ⟨ta, tb, tc, rfl⟩
theorem tupAt9 {h₀ h : Heap} {L D : Addr} {its : Array Value} {n : Nat} {news : List (Addr × Obj)} (N : News h₀ L h news) (hm : (D, ({ cls := .type "tuple", data := .seq its n } : Obj)) ∈ news) : h.IsTuple D its := ⟨_, (N _ hm).1, rfl, _, rfl⟩
noncomputable def leS (i : Nat) : Stmt := (bodyOf (topStmt 16)).getD i (.Pass default)
noncomputable abbrev leE (L : Addr) : Env := envOf (Str.ofString "_law_least") (scopeOf (topStmt 16)) L 133 (.ref 132)
section
variable {M : Model} {A : Around} {E : Value → Shared → Prop} {s : Shared} {h₀ : Heap} {m : Str → Option Value} {x : Str} {v : Value} {Q : Value → Shared → Prop} {pos : Pos} {env : Env}
theorem name_any (F : Fr h₀ env.locals s.heap m) (hv : m x = some v) (h : Q v s) (hk : env.scope.kind = .function) (hx : env.kindOf x = some .local) (hd : (x == ("__debug__" : Str)) = false) :
    wpAny M A (eval (.Name x pos) env) Q E s := wpAny_Name (wpAny_loadName_local hk hx F.ns hv h) hd
theorem load_any (F : Fr h₀ env.locals s.heap m) (hv : m x = some v) (h : Q v s) (hk : env.scope.kind = .function) (hx : env.kindOf x = some .local) :
    wpAny M A (loadName env x) Q E s := wpAny_loadName_local hk hx F.ns hv h
end
local macro_rules | `(tactic| ktr_unf) => `(tactic| first | assumption | (dsimp only; (repeat (first | (rw [if_pos (by decide)]) | (rw [if_neg (by decide)]))); first | rfl | assumption))
example (w : World) (h : Heap) : (Mine.hd.heap_39 w.params).In h → rprog = PySem.Challenge.rw_wy0014_01.prog → True := by
  k_fill
  intros; trivial
section
variable {w : World} {mean : ExcName → Option Value} {mg mb : Str → Option Value} {A : Around} {g : Heap} {L : Addr} {s : Shared} {m : Str → Option Value} {news : List (Addr × Obj)} {Q : Flow → Shared → Prop} {E : Value → Shared → Prop}

set_option maxHeartbeats 4000000 in
theorem le_turn {lw la lb : Addr} {its : Array Value} {va vb : List Value} {ra rb : List Int} {x v sz tp : Int} {tx tv ts tt : Tok} (hw : m (Str.ofString "ways") = some (.ref lw)) (hx : m (Str.ofString "number") = some (.int x tx)) (hv : m (Str.ofString "least") = some (.int v tv)) (hs : m (Str.ofString "size") = some (.int sz ts)) (ht : m (Str.ofString "top") = some (.int tp tt))
   (hwl : g.IsList lw its) (h1 : its[(sz - 1).toNat]? = some (.ref la)) (h2 : its[sz.toNat]? = some (.ref lb)) (hla : g.IsList la (List.toArray va)) (hlb : g.IsList lb (List.toArray vb)) (ia : IntsAre va ra) (ib : IntsAre vb rb) (s0 : 1 ≤ sz) (s1 : sz < 4) (t0 : 0 ≤ tp) (ta : tp < ra.length) (tb : tp < rb.length) (la' : ra.length ≤ 1000) (lb' : rb.length ≤ 1000)
   (X : (Mine.hd.heap_39 w.params).In g) (T : Top Mine.hd.view_39 lo mean mg mb g) (F : Fr g L s.heap m) (N : News g L s.heap news)
   (hQ : ∀ m' h' tk', (∃ t, m' (Str.ofString "least") = some (.int (v + if x > 0 then ra.getD tp.toNat 0 else 0) t)) → (∃ t, m' (Str.ofString "number") = some (.int (x - rb.getD tp.toNat 0) t)) → (∀ z, z ≠ (Str.ofString "least") → z ≠ (Str.ofString "number") → m' z = m z) → Fr g L h' m' → News g L h' news → Q .next { s with heap := h', toks := tk' }) :
   wpAny (model rprog w) A (execs (bodyOf (leS 1)) (leE L)) Q E s := by
  show wpAny _ _ (execs (List.cons _ (List.cons _ List.nil)) _) _ _ _
  w_strict (repeat' (first | (k_unfold; (try dsimp only)) | (k_end; wrow_close) | ((with_reducible show wpAny _ _ (subscriptTail _ _ _ _) _ _ _); (k_here; k_dflt (refine' item_any ?zzl ?zza ?zzz ?zzx ?_; (case zzl => exact list_base (by k_asm) (by assumption)); (case zza => omega); (case zzz => omega); (case zzx => assumption); k_whole))) | ((with_reducible show wpAny _ _ (subscriptTail _ _ _ _) _ _ _); (k_here; k_dflt (refine' item_ints ?zzl ?zzi ?zza ?zzb ?zzz ?_; (case zzl => exact list_base (by k_asm) (by assumption)); (case zzi => assumption); (case zza => assumption); (case zzb => assumption); (case zzz => first | assumption | decide); k_whole); intro _)) | ((with_reducible show wpAny _ _ (loadName _ _) _ _ _); (k_here; k_dflt (refine' load_any ?zzF ?zzv ?_ ?zza ?zzb; (case zzF => k_asm); (case zza => rfl); (case zzb => rfl); (case zzv => ktr_unf); k_whole))) | ((with_reducible show wpAny _ _ (eval (Expr.Name ..) _) _ _ _); (k_here; k_dflt (refine' name_any ?zzF ?zzv ?_ ?zza ?zzb ?zzc; (case zzF => k_asm); (case zza => rfl); (case zzb => rfl); (case zzc => decide); (case zzv => ktr_unf); k_whole))) | walk1 | (dsimp only; first | ((with_reducible show wpAny _ _ (subscriptTail _ _ _ _) _ _ _); (k_here; k_dflt (refine' item_any ?zzl ?zza ?zzz ?zzx ?_; (case zzl => exact list_base (by k_asm) (by assumption)); (case zza => omega); (case zzz => omega); (case zzx => assumption); k_whole))) | ((with_reducible show wpAny _ _ (subscriptTail _ _ _ _) _ _ _); (k_here; k_dflt (refine' item_ints ?zzl ?zzi ?zza ?zzb ?zzz ?_; (case zzl => exact list_base (by k_asm) (by assumption)); (case zzi => assumption); (case zza => assumption); (case zzb => assumption); (case zzz => first | assumption | decide); k_whole); intro _)) | ((with_reducible show wpAny _ _ (loadName _ _) _ _ _); (k_here; k_dflt (refine' load_any ?zzF ?zzv ?_ ?zza ?zzb; (case zzF => k_asm); (case zza => rfl); (case zzb => rfl); (case zzv => ktr_unf); k_whole))) | ((with_reducible show wpAny _ _ (eval (Expr.Name ..) _) _ _ _); (k_here; k_dflt (refine' name_any ?zzF ?zzv ?_ ?zza ?zzb ?zzc; (case zzF => k_asm); (case zza => rfl); (case zzb => rfl); (case zzc => decide); (case zzv => ktr_unf); k_whole))) | walk1) | (leave1; try dsimp only) | fail "no step"))
  · rename _ < x => hx9
    rename News g L _ _ => N9
    rename Fr g L _ _ => F9
    have e : (v + if x > 0 then ra.getD tp.toNat 0 else 0) = v + ra.getD tp.toNat 0 := by rw [if_pos hx9]
    refine' hQ _ _ _ ⟨_, ?a⟩ ⟨_, ?b⟩ (fun z z1 z2 => ?c) F9 N9
    case a =>
      rw [e]
      show (if _ then _ else if _ then _ else _) = _
      rw [if_neg (by decide), if_pos rfl]
    case b =>
      show (if _ then _ else if _ then _ else _) = _
      rw [if_pos rfl]
    case c =>
      show (if _ then _ else if _ then _ else _) = _
      rw [if_neg z2, if_neg z1]
  · rename ¬ _ < x => hx9
    rename News g L _ _ => N9
    rename Fr g L _ _ => F9
    have e : (v + if x > 0 then ra.getD tp.toNat 0 else 0) = v := by rw [if_neg hx9, Int.add_zero]
    refine' hQ _ _ _ ⟨tv, ?a⟩ ⟨_, ?b⟩ (fun z z1 z2 => ?c) F9 N9
    case a =>
      rw [e]
      show (if _ then _ else _) = _
      rw [if_neg (by decide)]
      exact hv
    case b =>
      show (if _ then _ else _) = _
      rw [if_pos rfl]
    case c =>
      show (if _ then _ else _) = _
      rw [if_neg z2]
end
section
variable {w : World} {mean : ExcName → Option Value} {mg mb : Str → Option Value} {A : Around} {g : Heap} {L : Addr} {s : Shared} {m : Str → Option Value} {news : List (Addr × Obj)} {Q : Flow → Shared → Prop} {E : Value → Shared → Prop}

set_option maxHeartbeats 4000000 in
theorem le_zero (F : Fr g L s.heap m) (N : News g L s.heap news)
   (hQ : ∀ t h' tk', Fr g L h' (fun z => if z = (Str.ofString "least") then some (.int 0 t) else m z) → News g L h' news → Q .next { s with heap := h', toks := tk' }) :
   wpAny (model rprog w) A (exec (leS 0) (leE L)) Q E s := by
  show wpAny _ _ (exec (Stmt.Assign _ _ _) _) _ _ _
  w_strict (repeat' (first | (k_unfold; (try dsimp only)) | (k_end; wrow_close) | ((with_reducible show wpAny _ _ (subscriptTail _ _ _ _) _ _ _); (k_here; k_dflt (refine' item_any ?zzl ?zza ?zzz ?zzx ?_; (case zzl => exact list_base (by k_asm) (by assumption)); (case zza => omega); (case zzz => omega); (case zzx => assumption); k_whole))) | ((with_reducible show wpAny _ _ (subscriptTail _ _ _ _) _ _ _); (k_here; k_dflt (refine' item_ints ?zzl ?zzi ?zza ?zzb ?zzz ?_; (case zzl => exact list_base (by k_asm) (by assumption)); (case zzi => assumption); (case zza => assumption); (case zzb => assumption); (case zzz => first | assumption | decide); k_whole); intro _)) | ((with_reducible show wpAny _ _ (loadName _ _) _ _ _); (k_here; k_dflt (refine' load_any ?zzF ?zzv ?_ ?zza ?zzb; (case zzF => k_asm); (case zza => rfl); (case zzb => rfl); (case zzv => ktr_unf); k_whole))) | ((with_reducible show wpAny _ _ (eval (Expr.Name ..) _) _ _ _); (k_here; k_dflt (refine' name_any ?zzF ?zzv ?_ ?zza ?zzb ?zzc; (case zzF => k_asm); (case zza => rfl); (case zzb => rfl); (case zzc => decide); (case zzv => ktr_unf); k_whole))) | walk1 | (dsimp only; first | ((with_reducible show wpAny _ _ (subscriptTail _ _ _ _) _ _ _); (k_here; k_dflt (refine' item_any ?zzl ?zza ?zzz ?zzx ?_; (case zzl => exact list_base (by k_asm) (by assumption)); (case zza => omega); (case zzz => omega); (case zzx => assumption); k_whole))) | ((with_reducible show wpAny _ _ (subscriptTail _ _ _ _) _ _ _); (k_here; k_dflt (refine' item_ints ?zzl ?zzi ?zza ?zzb ?zzz ?_; (case zzl => exact list_base (by k_asm) (by assumption)); (case zzi => assumption); (case zza => assumption); (case zzb => assumption); (case zzz => first | assumption | decide); k_whole); intro _)) | ((with_reducible show wpAny _ _ (loadName _ _) _ _ _); (k_here; k_dflt (refine' load_any ?zzF ?zzv ?_ ?zza ?zzb; (case zzF => k_asm); (case zza => rfl); (case zzb => rfl); (case zzv => ktr_unf); k_whole))) | ((with_reducible show wpAny _ _ (eval (Expr.Name ..) _) _ _ _); (k_here; k_dflt (refine' name_any ?zzF ?zzv ?_ ?zza ?zzb ?zzc; (case zzF => k_asm); (case zza => rfl); (case zzb => rfl); (case zzc => decide); (case zzv => ktr_unf); k_whole))) | walk1) | (leave1; try dsimp only) | fail "no step"))
  exact hQ _ _ _ (by assumption) (by assumption)
end
noncomputable def leI : PySem.Expr := match leS 1 with | .For _ x _ _ _ => x | _ => default
section
variable {w : World} {mean : ExcName → Option Value} {mg mb : Str → Option Value} {dp un : Nat} {gd : Option (List Code)} {cn : Str} {cs : Scope} {a : Addr} {ccd : Value} {cl : List (Str × Addr)} {outer : List Env} {A₀ : Around} {base h₀ : Heap} {L₀ : Addr} {g : Heap} {L : Addr} {s : Shared} {m : Str → Option Value} {news : List (Addr × Obj)} {Q E : Value → Shared → Prop}
set_option maxHeartbeats 4000000 in
theorem le_iter {lw : Addr} {x a1 b1 c1 : Int} {tx : Tok} (B : Below (ktrTop dp un gd cn cs L₀ a ccd cl outer) base (envX cn cs L₀ a ccd cl :: outer) g) (F : Fr g L s.heap m) (X : (Mine.hd.heap_39 w.params).In g) (N : News g L s.heap news) (T : Top Mine.hd.view_39 lo mean mg mb g) (hk : cs.kind = .function) (hdp : dp + 40 < recursionLimit) (hun : un + 500 < cLine)
   (hW : Ways g lw) (hw : m (Str.ofString "ways") = some (.ref lw)) (hx : m (Str.ofString "number") = some (.int x tx)) (h0 : 0 ≤ x) (he : topsOf x = [a1, b1, c1])
   (hQ : ∀ z TI TO i1 i2 T0 lt ta tb tc t3 t2 t1 nt own h' tk', ZipApart z TI TO i1 i2 T0 lt → ZipIn z TI TO i1 i2 T0 lt 0 own → Fr g L h' m → News g L h' (own ++ (lt, listOf #[.int a1 ta, .int b1 tb, .int c1 tc] nt) :: (T0, ({ cls := .type "tuple", data := .seq #[.int 3 t3, .int 2 t2, .int 1 t1] } : Obj)) :: news) → (∀ p ∈ (lt, listOf #[.int a1 ta, .int b1 tb, .int c1 tc] nt) :: (T0, ({ cls := .type "tuple", data := .seq #[.int 3 t3, .int 2 t2, .int 1 t1] } : Obj)) :: news, ∀ q ∈ own, p.1 ≠ q.1) → Q (.ref z) { s with heap := h', toks := tk' }) :
   wpAny (model rprog w) ((ktrTop dp un gd cn cs L₀ a ccd cl outer).deeper (leE L)) (eval leI (leE L)) Q E s := by
  show wpAny _ _ (eval (.Call _ _ _ _) _) _ _ _
  w_strict (repeat' (first | (k_unfold; (try dsimp only)) | (k_end; wrow_close) | ((with_reducible show wpAny _ _ (call (Value.type "zip") _ _) _ _ _); (k_here; k_dflt (refine' call_zipTL ?zzF ?zzN ?zzt ?zzl ?_; (case zzF => k_asm); (case zzN => k_asm); (case zzt => exact tupAt9 (by k_asm) (List.Mem.tail _ (List.Mem.head _))); (case zzl => exact list_at (by k_asm) (List.Mem.head _)); k_whole); intro _ _ _ _ _ _ _ _ _ _ _ _)) | ((with_reducible show wpAny _ _ (call (Value.ref _) _ _) _ _ _); (k_here; k_dflt (refine' law_tops_spec ?zzB ?zzF ?zzX ?zzN ?zzT ?zzhk ?zzhdp ?zzhun ?zzhW ?zzh0 ?_; (case zzB => k_asm); (case zzF => k_asm); (case zzX => k_asm); (case zzN => k_asm); (case zzT => k_asm); (case zzhk => exact rfl); (case zzhW => exact Ways.kept (by assumption) (Fr.keep (by k_asm))); (case zzh0 => assumption); (case zzhdp => ktr_room); (case zzhun => ktr_units); k_whole); intro _ _ _ _ _ hv' _ _ _ _; (rename topsOf _ = _ => heq'); (rw [heq'] at hv'); obtain ⟨ta', tb', tc', hvv'⟩ := three_ints hv'; subst hvv')) | ((with_reducible show wpAny _ _ (subscriptTail _ _ _ _) _ _ _); (k_here; k_dflt (refine' item_any ?zzl ?zza ?zzz ?zzx ?_; (case zzl => exact list_base (by k_asm) (by assumption)); (case zza => omega); (case zzz => omega); (case zzx => assumption); k_whole))) | ((with_reducible show wpAny _ _ (subscriptTail _ _ _ _) _ _ _); (k_here; k_dflt (refine' item_ints ?zzl ?zzi ?zza ?zzb ?zzz ?_; (case zzl => exact list_base (by k_asm) (by assumption)); (case zzi => assumption); (case zza => assumption); (case zzb => assumption); (case zzz => first | assumption | decide); k_whole); intro _)) | ((with_reducible show wpAny _ _ (loadName _ _) _ _ _); (k_here; k_dflt (refine' load_any ?zzF ?zzv ?_ ?zza ?zzb; (case zzF => k_asm); (case zza => rfl); (case zzb => rfl); (case zzv => ktr_unf); k_whole))) | ((with_reducible show wpAny _ _ (eval (Expr.Name ..) _) _ _ _); (k_here; k_dflt (refine' name_any ?zzF ?zzv ?_ ?zza ?zzb ?zzc; (case zzF => k_asm); (case zza => rfl); (case zzb => rfl); (case zzc => decide); (case zzv => ktr_unf); k_whole))) | walk1 | (dsimp only; first | ((with_reducible show wpAny _ _ (call (Value.type "zip") _ _) _ _ _); (k_here; k_dflt (refine' call_zipTL ?zzF ?zzN ?zzt ?zzl ?_; (case zzF => k_asm); (case zzN => k_asm); (case zzt => exact tupAt9 (by k_asm) (List.Mem.tail _ (List.Mem.head _))); (case zzl => exact list_at (by k_asm) (List.Mem.head _)); k_whole); intro _ _ _ _ _ _ _ _ _ _ _ _)) | ((with_reducible show wpAny _ _ (call (Value.ref _) _ _) _ _ _); (k_here; k_dflt (refine' law_tops_spec ?zzB ?zzF ?zzX ?zzN ?zzT ?zzhk ?zzhdp ?zzhun ?zzhW ?zzh0 ?_; (case zzB => k_asm); (case zzF => k_asm); (case zzX => k_asm); (case zzN => k_asm); (case zzT => k_asm); (case zzhk => exact rfl); (case zzhW => exact Ways.kept (by assumption) (Fr.keep (by k_asm))); (case zzh0 => assumption); (case zzhdp => ktr_room); (case zzhun => ktr_units); k_whole); intro _ _ _ _ _ hv' _ _ _ _; (rename topsOf _ = _ => heq'); (rw [heq'] at hv'); obtain ⟨ta', tb', tc', hvv'⟩ := three_ints hv'; subst hvv')) | ((with_reducible show wpAny _ _ (subscriptTail _ _ _ _) _ _ _); (k_here; k_dflt (refine' item_any ?zzl ?zza ?zzz ?zzx ?_; (case zzl => exact list_base (by k_asm) (by assumption)); (case zza => omega); (case zzz => omega); (case zzx => assumption); k_whole))) | ((with_reducible show wpAny _ _ (subscriptTail _ _ _ _) _ _ _); (k_here; k_dflt (refine' item_ints ?zzl ?zzi ?zza ?zzb ?zzz ?_; (case zzl => exact list_base (by k_asm) (by assumption)); (case zzi => assumption); (case zza => assumption); (case zzb => assumption); (case zzz => first | assumption | decide); k_whole); intro _)) | ((with_reducible show wpAny _ _ (loadName _ _) _ _ _); (k_here; k_dflt (refine' load_any ?zzF ?zzv ?_ ?zza ?zzb; (case zzF => k_asm); (case zza => rfl); (case zzb => rfl); (case zzv => ktr_unf); k_whole))) | ((with_reducible show wpAny _ _ (eval (Expr.Name ..) _) _ _ _); (k_here; k_dflt (refine' name_any ?zzF ?zzv ?_ ?zza ?zzb ?zzc; (case zzF => k_asm); (case zza => rfl); (case zzb => rfl); (case zzc => decide); (case zzv => ktr_unf); k_whole))) | walk1) | (leave1; try dsimp only) | fail "no step"))
  exact hQ _ _ _ _ _ _ _ _ _ _ _ _ _ _ _ _ _ (by assumption) (by assumption) (by assumption) (by assumption) (by assumption)
end
end Mine
end
section
open PySem PySem.W PyProof.Rows PySem.Calls PySem.Spec PyProof.Rows.LCg
set_option maxRecDepth 100000
namespace Mine
local macro_rules | `(tactic| k_mem) => `(tactic| assumption)
local macro_rules | `(tactic| k_all) => `(tactic| assumption)
noncomputable def leastOf (x a b c : Int) : Int := 0 + (if x > 0 then row2.getD a.toNat 0 else 0) + (if x - row3.getD a.toNat 0 > 0 then row1.getD b.toNat 0 else 0) + (if x - row3.getD a.toNat 0 - row2.getD b.toNat 0 > 0 then (List.replicate 8 (1 : Int)).getD c.toNat 0 else 0)
local macro_rules | `(tactic| ktr_unf) => `(tactic| first | assumption | (dsimp only; (repeat (first | (rw [if_pos (by decide)]) | (rw [if_neg (by decide)]))); first | rfl | assumption))
example (w : World) (h : Heap) : (Mine.hd.heap_39 w.params).In h → rprog = PySem.Challenge.rw_wy0014_01.prog → True := by
  k_fill
  intros; trivial
section
variable {w : World} {mean : ExcName → Option Value} {mg mb : Str → Option Value} {dp un : Nat} {gd : Option (List Code)} {cn : Str} {cs : Scope} {a : Addr} {ccd : Value} {cl : List (Str × Addr)} {outer : List Env} {A : Around} {base h₀ : Heap} {L₀ : Addr} {g : Heap} {L : Addr} {s : Shared} {m : Str → Option Value} {news : List (Addr × Obj)} {Q : Flow → Shared → Prop} {E : Value → Shared → Prop}
set_option maxHeartbeats 4000000 in
theorem le_ret {v : Int} {t : Tok} (F : Fr g L s.heap m) (N : News g L s.heap news) (hv : m (Str.ofString "least") = some (.int v t))
   (hQ : ∀ h' tk', Fr g L h' m → News g L h' news → Q (.ret (.int v t)) { s with heap := h', toks := tk' }) : wpAny (model rprog w) A (execs [leS 2] (leE L)) Q E s := by
  show wpAny _ _ (execs (List.cons (Stmt.Return (some _) _) List.nil) _) _ _ _
  w_strict (repeat' (first | (k_unfold; (try dsimp only)) | (k_end; wrow_close) | ((with_reducible show wpAny _ _ (eval (Expr.Name ..) _) _ _ _); (k_here; k_dflt (refine' name_any ?zzF ?zzv ?_ ?zza ?zzb ?zzc; (case zzF => k_asm); (case zza => rfl); (case zzb => rfl); (case zzc => decide); (case zzv => ktr_unf); k_whole))) | walk1 | (dsimp only; first | ((with_reducible show wpAny _ _ (eval (Expr.Name ..) _) _ _ _); (k_here; k_dflt (refine' name_any ?zzF ?zzv ?_ ?zza ?zzb ?zzc; (case zzF => k_asm); (case zza => rfl); (case zzb => rfl); (case zzc => decide); (case zzv => ktr_unf); k_whole))) | walk1) | (leave1; try dsimp only) | fail "no step"))
  refine name_any F hv ?_ rfl rfl (by decide)
  exact hQ _ _ F N
theorem le_body {lw : Addr} {x a1 b1 c1 : Int} {tx : Tok} (B : Below (ktrTop dp un gd cn cs L₀ a ccd cl outer) base (envX cn cs L₀ a ccd cl :: outer) g) (F : Fr g L s.heap m) (X : (Mine.hd.heap_39 w.params).In g) (N : News g L s.heap news) (T : Top Mine.hd.view_39 lo mean mg mb g) (hk : cs.kind = .function) (hdp : dp + 40 < recursionLimit) (hun : un + 500 < cLine)
   (hW : Ways g lw) (hw : m (Str.ofString "ways") = some (.ref lw)) (hx : m (Str.ofString "number") = some (.int x tx)) (h0 : 0 ≤ x) (he : topsOf x = [a1, b1, c1]) (ha0 : 0 ≤ a1) (ha1 : a1 < 8) (hb0 : 0 ≤ b1) (hb1 : b1 < 8) (hc0 : 0 ≤ c1) (hc1 : c1 < 8)
   (hQ : ∀ t m' h' tk', Fr g L h' m' → News g L h' news → Q (.ret (.int (leastOf x a1 b1 c1) t)) { s with heap := h', toks := tk' }) :
   wpAny (model rprog w) ((ktrTop dp un gd cn cs L₀ a ccd cl outer).deeper (leE L)) (execs [leS 0, leS 1, leS 2] (leE L)) Q E s := by
  obtain ⟨l0, l1, l2, l3, v0, v1, v2, v3, m9, m0, m1, m2, m3, i0, i1, i2, i3⟩ := hW.rows
  refine wpAny_execs_cons (le_zero F N fun t1 h1 tk1 F2 N2 => ?_)
  show wpAny _ _ (execs [leS 1, leS 2] _) _ _ _
  refine wpAny_execs_cons ?_
  show wpAny _ _ (exec (Stmt.For (PySem.Expr.Tuple [PySem.Expr.Name _ _, PySem.Expr.Name _ _] _ _) leI _ _ _) _) _ _ _
  refine for_zip (h₀ := g) rfl rfl rfl rfl ?_ (by intro _; rfl)
  have up0 : ∀ z, z ≠ Str.ofString "least" → (fun z => if z = Str.ofString "least" then some (Value.int 0 t1) else m z) z = m z := fun z hz => if_neg hz
  refine le_iter (lw := lw) (x := x) (tx := tx) B F2 X N2 T hk hdp hun hW ((up0 _ (by decide)).trans hw) ((up0 _ (by decide)).trans hx) h0 he fun z TI TO j1 j2 T0 lt ta tb tc t3 t2 t1' nt own h2 tk2 D Z F3 N3 of3 => ?_
  refine ⟨fun i m' nx => (∃ t, m' (Str.ofString "least") = some (.int (match i with | 0 => 0 | 1 => 0 + (if x > 0 then row2.getD a1.toNat 0 else 0) | 2 => 0 + (if x > 0 then row2.getD a1.toNat 0 else 0) + (if x - row3.getD a1.toNat 0 > 0 then row1.getD b1.toNat 0 else 0) | _ => leastOf x a1 b1 c1) t)) ∧
      (∃ t, m' (Str.ofString "number") = some (.int (match i with | 0 => x | 1 => x - row3.getD a1.toNat 0 | _ => x - row3.getD a1.toNat 0 - row2.getD b1.toNat 0) t) ∨ 2 < i) ∧ m' (Str.ofString "ways") = some (.ref lw) ∧
      nx = (lt, listOf #[.int a1 ta, .int b1 tb, .int c1 tc] nt) :: (T0, ({ cls := .type "tuple", data := .seq #[.int 3 t3, .int 2 t2, .int 1 t1'] } : Obj)) :: news,
    z, TI, TO, j1, j2, T0, lt, own, #[.int 3 t3, .int 2 t2, .int 1 t1'], #[.int a1 ta, .int b1 tb, .int c1 tc], _, _, rfl, D, Z, F3, N3, of3, Nat.le_refl _, ?_, ⟨⟨t1, if_pos rfl⟩, ⟨tx, .inl ((up0 _ (by decide)).trans hx)⟩, (up0 _ (by decide)).trans hw, rfl⟩, ?_, ?_⟩
  · rintro i m' nx ⟨_, _, _, rfl⟩
    exact ⟨⟨_, List.mem_cons_of_mem _ List.mem_cons_self, rfl, _, rfl⟩, _, List.mem_cons_self⟩
  · rintro i va vb m' nx own' h3 tk3 hi hva hvb ⟨⟨tl, hl⟩, ⟨tn, hn⟩, hw', rfl⟩ Z' F4 N4 of4
    have w1 : ∀ z, z ≠ Str.ofString "top" → z ≠ Str.ofString "size" → (fun y => if y = Str.ofString "top" then some vb else if y = Str.ofString "size" then some va else m' y) z = m' z := fun z z1 z2 => by
      show (if _ then _ else if _ then _ else _) = _
      rw [if_neg z1, if_neg z2]
    rcases three_items hi hva with ⟨rfl, rfl⟩ | ⟨rfl, rfl⟩ | ⟨rfl, rfl⟩
    · obtain rfl : vb = .int a1 ta := (Option.some.inj hvb).symm
      refine le_turn (m := fun y => if y = Str.ofString "top" then some (.int a1 ta) else if y = Str.ofString "size" then some (.int 3 t3) else m' y) (lw := lw) (la := l2) (lb := l3) (its := #[.ref l0, .ref l1, .ref l2, .ref l3]) (ra := row2) (rb := row3) (x := x) (tx := tn) (v := 0) (tv := tl) (sz := 3) (ts := t3) (tp := a1) (tt := ta) ((w1 _ (by decide) (by decide)).trans hw') ((w1 _ (by decide) (by decide)).trans (hn.resolve_right (by decide))) ((w1 _ (by decide) (by decide)).trans hl) (by show (if _ then _ else if _ then _ else _) = _; rw [if_neg (by decide), if_pos rfl]) (if_pos rfl) m9 rfl rfl m2 m3 i2 i3 (by decide) (by decide) ha0 ha1 ha1 (by decide) (by decide) X T F4 N4 fun m5 h5 tk5 hl5 hn5 ho5 F5 N5 => ?_
      exact TurnEndZ.intro F5 N5 of4 ⟨hl5, ⟨hn5.choose, .inl hn5.choose_spec⟩, (ho5 _ (by decide) (by decide)).trans ((w1 _ (by decide) (by decide)).trans hw'), rfl⟩
    · obtain rfl : vb = .int b1 tb := (Option.some.inj hvb).symm
      refine le_turn (m := fun y => if y = Str.ofString "top" then some (.int b1 tb) else if y = Str.ofString "size" then some (.int 2 t2) else m' y) (lw := lw) (la := l1) (lb := l2) (its := #[.ref l0, .ref l1, .ref l2, .ref l3]) (ra := row1) (rb := row2) (x := x - row3.getD a1.toNat 0) (tx := tn) (v := 0 + (if x > 0 then row2.getD a1.toNat 0 else 0)) (tv := tl) (sz := 2) (ts := t2) (tp := b1) (tt := tb) ((w1 _ (by decide) (by decide)).trans hw') ((w1 _ (by decide) (by decide)).trans (hn.resolve_right (by decide))) ((w1 _ (by decide) (by decide)).trans hl) (by show (if _ then _ else if _ then _ else _) = _; rw [if_neg (by decide), if_pos rfl]) (if_pos rfl) m9 rfl rfl m1 m2 i1 i2 (by decide) (by decide) hb0 hb1 hb1 (by decide) (by decide) X T F4 N4 fun m5 h5 tk5 hl5 hn5 ho5 F5 N5 => ?_
      exact TurnEndZ.intro F5 N5 of4 ⟨hl5, ⟨hn5.choose, .inl hn5.choose_spec⟩, (ho5 _ (by decide) (by decide)).trans ((w1 _ (by decide) (by decide)).trans hw'), rfl⟩
    · obtain rfl : vb = .int c1 tc := (Option.some.inj hvb).symm
      refine le_turn (m := fun y => if y = Str.ofString "top" then some (.int c1 tc) else if y = Str.ofString "size" then some (.int 1 t1') else m' y) (lw := lw) (la := l0) (lb := l1) (its := #[.ref l0, .ref l1, .ref l2, .ref l3]) (ra := List.replicate 8 1) (rb := row1) (x := x - row3.getD a1.toNat 0 - row2.getD b1.toNat 0) (tx := tn) (v := 0 + (if x > 0 then row2.getD a1.toNat 0 else 0) + (if x - row3.getD a1.toNat 0 > 0 then row1.getD b1.toNat 0 else 0)) (tv := tl) (sz := 1) (ts := t1') (tp := c1) (tt := tc) ((w1 _ (by decide) (by decide)).trans hw') ((w1 _ (by decide) (by decide)).trans (hn.resolve_right (by decide))) ((w1 _ (by decide) (by decide)).trans hl) (by show (if _ then _ else if _ then _ else _) = _; rw [if_neg (by decide), if_pos rfl]) (if_pos rfl) m9 rfl rfl m0 m1 i0 i1 (by decide) (by decide) hc0 hc1 hc1 (by decide) (by decide) X T F4 N4 fun m5 h5 tk5 hl5 hn5 ho5 F5 N5 => ?_
      exact TurnEndZ.intro F5 N5 of4 ⟨hl5, ⟨0, .inr (by decide)⟩, (ho5 _ (by decide) (by decide)).trans ((w1 _ (by decide) (by decide)).trans hw'), rfl⟩
  · rintro m' nx h5 tk5 ⟨⟨tl, hl⟩, _, _, rfl⟩ F5 N5
    show wpAny _ _ (execs [leS 2] _) _ _ _
    refine le_ret F5 N5 hl fun h6 tk6 F6 N6 => hQ _ _ _ _ F6 fun p hp => N6 p (List.mem_cons_of_mem _ (List.mem_cons_of_mem _ hp))
end

set_option maxHeartbeats 4000000 in
theorem law_least_spec {lw : Addr} {x a1 b1 c1 : Int} {tx : Tok} {w : World} {mean : ExcName → Option Value} {mg mb : Str → Option Value} {dp un : Nat} {gd : Option (List Code)} {cn : Str} {cs : Scope} {a : Addr} {ccd : Value} {cl : List (Str × Addr)} {outer : List Env} {A₀ : Around} {base h₀ : Heap} {L : Addr} {m : Str → Option Value} {news : List (Addr × Obj)} {s : Shared} {Q E : Value → Shared → Prop}
   (B : Below A₀ base outer h₀) (F : Fr h₀ L s.heap m) (X : (Mine.hd.heap_39 w.params).In h₀) (N : News h₀ L s.heap news) (T : Top Mine.hd.view_39 lo mean mg mb h₀) (hk : cs.kind = .function) (hdp : dp + 40 < recursionLimit) (hun : un + 500 < cLine)
   (hW : Ways s.heap lw) (h0 : 0 ≤ x) (he : topsOf x = [a1, b1, c1]) (ha0 : 0 ≤ a1) (ha1 : a1 < 8) (hb0 : 0 ≤ b1) (hb1 : b1 < 8) (hc0 : 0 ≤ c1) (hc1 : c1 < 8)
   (hQ : ∀ t h' tk', Fr h₀ L h' m → News h₀ L h' news → Q (.int (leastOf x a1 b1 c1) t) { s with heap := h', toks := tk' }) :
   wpAny (model rprog w) (ktrTop dp un gd cn cs L a ccd cl outer) (call (.ref 133) [.ref lw, .int x tx]) Q E s := by
  refine wpAny_call ?_
  k_dflt (refine' code_def0 ?zzk1 ?zzk2 ?zzk3 ?zzk5 ?zzkA ?zzkF ?zzkK ?zzk6 ?zzk7 ?zzk8 ?zzk9 ?zzkB ?_ ?zzc2 ?zzc3 ?zzc4 ?zzc5; (case zzkA => exact rfl); (case zzkF => exact rfl); (case zzkK => first | assumption | exact rfl); (case zzk1 => k_asm); (case zzk2 => k_asm); (case zzk3 => k_asm); (case zzk5 => k_asm); (case zzk6 => k_is); (case zzk7 => k_is); (case zzk8 => ktr_room); (case zzk9 => first | exact BindsTo.of_eq rfl | exact binds_K (by k_in) rfl (by k_is) rfl rfl rfl | (refine' kp_binds ?zzkx ?zzke; (case zzkx => k_in); (case zzke => exact fun _ => rfl))); (case zzc5 => decide); (case zzkB => exact locs rfl); (case zzc2 => exact rfl); (case zzc3 => exact rfl); (case zzc4 => exact rfl); k_whole; intro _ _ _ _ B' _ _; (try dsimp only); (try k_lift B'); (try k_fold))
  show wpAny _ _ (execs [leS 0, leS 1, leS 2] _) _ _ _
  rename Fr s.heap _ _ _ => F1
  rename News s.heap _ _ _ => N1
  rename Below _ _ _ s.heap => B1
  refine le_body (lw := lw) (x := x) (tx := tx) B1 F1 (by assumption) N1 (by assumption) hk hdp hun hW ?_ ?_ h0 he ha0 ha1 hb0 hb1 hc0 hc1 fun t m' h' tk' F2 N2 => ?_
  · rfl
  · rfl
  · w_strict (repeat' (first | (k_unfold; (try dsimp only)) | (k_end; wrow_close) | ((with_reducible show wpAny _ _ (eval (Expr.Name ..) _) _ _ _); (k_here; k_dflt (refine' name_any ?zzF ?zzv ?_ ?zza ?zzb ?zzc; (case zzF => k_asm); (case zza => rfl); (case zzb => rfl); (case zzc => decide); (case zzv => ktr_unf); k_whole))) | walk1 | (dsimp only; first | ((with_reducible show wpAny _ _ (eval (Expr.Name ..) _) _ _ _); (k_here; k_dflt (refine' name_any ?zzF ?zzv ?_ ?zza ?zzb ?zzc; (case zzF => k_asm); (case zza => rfl); (case zzb => rfl); (case zzc => decide); (case zzv => ktr_unf); k_whole))) | walk1) | (leave1; try dsimp only) | fail "no step"))
    rename_i kF9 kN9 T9 X9 K9
    exact hQ _ _ _ kF9 (news_kept N K9)
end Mine
end
section
open PySem PySem.W PyProof.Rows PySem.Calls PySem.Spec PyProof.Rows.LCg
set_option maxRecDepth 100000
namespace Mine
local macro_rules | `(tactic| omega) => `(tactic| lia)
local macro_rules | `(tactic| k_mem) => `(tactic| assumption)
local macro_rules | `(tactic| k_all) => `(tactic| assumption)
noncomputable def cnS (i : Nat) : Stmt := (bodyOf (topStmt 17)).getD i (.Pass default)
noncomputable abbrev cnE (L : Addr) : Env := envOf (Str.ofString "_law_counts") (scopeOf (topStmt 17)) L 140 (.ref 139)
/-- the i-th statement of the outer loop's body -/
noncomputable def cnB (i : Nat) : Stmt := (bodyOf (cnS 2)).getD i (.Pass default)
noncomputable def cnI : PySem.Expr := match cnB 0 with | .For _ x _ _ _ => x | _ => default
noncomputable def cnP : Stmt := (bodyOf (cnB 0)).getD 0 (.Pass default)
noncomputable def addTo (ns : List Int) (x : Int) : List Int := if x ∈ ns then ns else ns ++ [x]
local macro_rules | `(tactic| ktr_unf) => `(tactic| first | assumption | (dsimp only; (repeat (first | (rw [if_pos (by decide)]) | (rw [if_neg (by decide)]))); first | rfl | assumption))
example (w : World) (h : Heap) : (Mine.hd.heap_39 w.params).In h → rprog = PySem.Challenge.rw_wy0014_01.prog → True := by
  k_fill
  intros; trivial
section
variable {w : World} {mean : ExcName → Option Value} {mg mb : Str → Option Value} {A : Around} {g : Heap} {L : Addr} {s : Shared} {m : Str → Option Value} {news : List (Addr × Obj)} {Q : Flow → Shared → Prop} {E : Value → Shared → Prop}

set_option maxHeartbeats 4000000 in
theorem cn_seen 
   (X : (Mine.hd.heap_39 w.params).In g) (T : Top Mine.hd.view_39 lo mean mg mb g) (F : Fr g L s.heap m) (N : News g L s.heap news)
   (hQ : ∀ D h' tk', Fr g L h' (fun z => if z = (Str.ofString "seen") then some (.ref D) else m z) → News g L h' ((D, listOf #[] 0) :: news) → (∀ p ∈ news, p.1 ≠ D) → Q .next { s with heap := h', toks := tk' }) :
   wpAny (model rprog w) A (exec (cnS 0) (cnE L)) Q E s := by
  show wpAny _ _ (exec (Stmt.Assign _ _ _) _) _ _ _
  w_strict (repeat' (first | (k_unfold; (try dsimp only)) | (k_end; wrow_close) | ((with_reducible show wpAny _ _ (loadName _ _) _ _ _); (k_here; k_dflt (refine' load_any ?zzF ?zzv ?_ ?zza ?zzb; (case zzF => k_asm); (case zza => rfl); (case zzb => rfl); (case zzv => ktr_unf); k_whole))) | ((with_reducible show wpAny _ _ (eval (Expr.Name ..) _) _ _ _); (k_here; k_dflt (refine' name_any ?zzF ?zzv ?_ ?zza ?zzb ?zzc; (case zzF => k_asm); (case zza => rfl); (case zzb => rfl); (case zzc => decide); (case zzv => ktr_unf); k_whole))) | walk1 | (dsimp only; first | ((with_reducible show wpAny _ _ (loadName _ _) _ _ _); (k_here; k_dflt (refine' load_any ?zzF ?zzv ?_ ?zza ?zzb; (case zzF => k_asm); (case zza => rfl); (case zzb => rfl); (case zzv => ktr_unf); k_whole))) | ((with_reducible show wpAny _ _ (eval (Expr.Name ..) _) _ _ _); (k_here; k_dflt (refine' name_any ?zzF ?zzv ?_ ?zza ?zzb ?zzc; (case zzF => k_asm); (case zza => rfl); (case zzb => rfl); (case zzc => decide); (case zzv => ktr_unf); k_whole))) | walk1) | (leave1; try dsimp only) | fail "no step"))
  rename_i d h1 l1 h2 F2 N2
  exact hQ _ _ _ F2 N2 (fun p hp => Nat.ne_of_lt (l1 p hp))

set_option maxHeartbeats 4000000 in
theorem cn_counts 
   (X : (Mine.hd.heap_39 w.params).In g) (T : Top Mine.hd.view_39 lo mean mg mb g) (F : Fr g L s.heap m) (N : News g L s.heap news)
   (hQ : ∀ D t h' tk', Fr g L h' (fun z => if z = (Str.ofString "counts") then some (.ref D) else m z) → News g L h' ((D, listOf #[.int 0 t] 0) :: news) → (∀ p ∈ news, p.1 ≠ D) → Q .next { s with heap := h', toks := tk' }) :
   wpAny (model rprog w) A (exec (cnS 1) (cnE L)) Q E s := by
  show wpAny _ _ (exec (Stmt.Assign _ _ _) _) _ _ _
  w_strict (repeat' (first | (k_unfold; (try dsimp only)) | (k_end; wrow_close) | ((with_reducible show wpAny _ _ (loadName _ _) _ _ _); (k_here; k_dflt (refine' load_any ?zzF ?zzv ?_ ?zza ?zzb; (case zzF => k_asm); (case zza => rfl); (case zzb => rfl); (case zzv => ktr_unf); k_whole))) | ((with_reducible show wpAny _ _ (eval (Expr.Name ..) _) _ _ _); (k_here; k_dflt (refine' name_any ?zzF ?zzv ?_ ?zza ?zzb ?zzc; (case zzF => k_asm); (case zza => rfl); (case zzb => rfl); (case zzc => decide); (case zzv => ktr_unf); k_whole))) | walk1 | (dsimp only; first | ((with_reducible show wpAny _ _ (loadName _ _) _ _ _); (k_here; k_dflt (refine' load_any ?zzF ?zzv ?_ ?zza ?zzb; (case zzF => k_asm); (case zza => rfl); (case zzb => rfl); (case zzv => ktr_unf); k_whole))) | ((with_reducible show wpAny _ _ (eval (Expr.Name ..) _) _ _ _); (k_here; k_dflt (refine' name_any ?zzF ?zzv ?_ ?zza ?zzb ?zzc; (case zzF => k_asm); (case zza => rfl); (case zzb => rfl); (case zzc => decide); (case zzv => ktr_unf); k_whole))) | walk1) | (leave1; try dsimp only) | fail "no step"))
  rename_i d h1 l1 h2 F2 N2
  exact hQ _ _ _ _ F2 N2 (fun p hp => Nat.ne_of_lt (l1 p hp))

set_option maxHeartbeats 4000000 in
theorem cn_put {ls : Addr} {vs : List Value} {nn : Nat} {ns : List Int} {x : Int} {tx : Tok} (hs : m (Str.ofString "seen") = some (.ref ls)) (hx : m (Str.ofString "side") = some (.int x tx)) (hi : IntsAre vs ns) (hl : ns.length ≤ 99) (hne : ∀ p ∈ news, p.1 ≠ ls)
   (X : (Mine.hd.heap_39 w.params).In g) (T : Top Mine.hd.view_39 lo mean mg mb g) (F : Fr g L s.heap m) (N : News g L s.heap ((ls, listOf vs.toArray nn) :: news))
   (hQ : ∀ vs' nn' h' tk', IntsAre vs' (addTo ns x) → Fr g L h' m → News g L h' ((ls, listOf (List.toArray vs') nn') :: news) → Q .next { s with heap := h', toks := tk' }) :
   wpAny (model rprog w) A (exec cnP (cnE L)) Q E s := by
  show wpAny _ _ (exec (Stmt.If _ _ _ _) _) _ _ _
  w_strict (repeat' (first | (k_unfold; (try dsimp only)) | (k_end; wrow_close) | ((with_reducible show wpAny _ _ (loadName _ _) _ _ _); (k_here; k_dflt (refine' load_any ?zzF ?zzv ?_ ?zza ?zzb; (case zzF => k_asm); (case zza => rfl); (case zzb => rfl); (case zzv => ktr_unf); k_whole))) | ((with_reducible show wpAny _ _ (eval (Expr.Name ..) _) _ _ _); (k_here; k_dflt (refine' name_any ?zzF ?zzv ?_ ?zza ?zzb ?zzc; (case zzF => k_asm); (case zza => rfl); (case zzb => rfl); (case zzc => decide); (case zzv => ktr_unf); k_whole))) | walk1 | (dsimp only; first | ((with_reducible show wpAny _ _ (loadName _ _) _ _ _); (k_here; k_dflt (refine' load_any ?zzF ?zzv ?_ ?zza ?zzb; (case zzF => k_asm); (case zza => rfl); (case zzb => rfl); (case zzv => ktr_unf); k_whole))) | ((with_reducible show wpAny _ _ (eval (Expr.Name ..) _) _ _ _); (k_here; k_dflt (refine' name_any ?zzF ?zzv ?_ ?zza ?zzb ?zzc; (case zzF => k_asm); (case zza => rfl); (case zzb => rfl); (case zzc => decide); (case zzv => ktr_unf); k_whole))) | walk1) | (leave1; try dsimp only) | fail "no step"))
  · rename (ns.any fun x_1 => x_1 == x) = true => hb
    have hm : x ∈ ns := by
      obtain ⟨y, hy, e⟩ := List.any_eq_true.mp hb
      exact (eq_of_beq e) ▸ hy
    refine hQ vs nn s.heap s.toks ?_ F N
    rw [show addTo ns x = ns from if_pos hm]
    exact hi
  · rename (ns.any fun x_1 => x_1 == x) = false => hb
    have hm : ¬ x ∈ ns := fun hy => by
      have := List.any_eq_false.mp hb x hy
      simp at this
    rename_i h2 F2 N2
    refine hQ (vs ++ [.int x tx]) (nn + 1) h2 s.toks ?_ F2 (by rw [← List.push_toArray]; exact N2)
    rw [show addTo ns x = ns ++ [x] from if_neg hm]
    exact ints_snoc hi _ _
local macro_rules | `(tactic| k_mem) => `(tactic| first | assumption | exact List.Mem.head _ | (refine List.mem_cons_of_mem _ ?_; k_mem))

set_option maxHeartbeats 4000000 in
theorem cn_app {ls lc : Addr} {vs vc : List Value} {nn nc : Nat} {ns cs : List Int} (hs : m (Str.ofString "seen") = some (.ref ls)) (hc : m (Str.ofString "counts") = some (.ref lc)) (hm : (ls, listOf vs.toArray nn) ∈ news) (hi : IntsAre vs ns) (hl : ns.length ≤ 99) (hci : IntsAre vc cs) (hcl : vc.length ≤ 99) (hne : ∀ p ∈ news, p.1 ≠ lc)
   (X : (Mine.hd.heap_39 w.params).In g) (T : Top Mine.hd.view_39 lo mean mg mb g) (F : Fr g L s.heap m) (N : News g L s.heap ((lc, listOf vc.toArray nc) :: news))
   (hQ : ∀ vc' nc' h' tk', IntsAre vc' (cs ++ [(ns.length : Int)]) → Fr g L h' m → News g L h' ((lc, listOf (List.toArray vc') nc') :: news) → Q .next { s with heap := h', toks := tk' }) :
   wpAny (model rprog w) A (exec (cnB 1) (cnE L)) Q E s := by
  show wpAny _ _ (exec (Stmt.Expr _ _) _) _ _ _
  w_strict (repeat' (first | (k_unfold; (try dsimp only)) | (k_end; wrow_close) | ((with_reducible show wpAny _ _ (call (Value.builtin "len") _ _) _ _ _); (k_here; k_dflt (refine' len_ints' ?zzl ?zzi ?zzz ?_; (case zzl => exact list_at (by k_asm) (by k_mem)); (case zzi => assumption); (case zzz => omega); k_whole); intro _ _)) | ((with_reducible show wpAny _ _ (loadName _ _) _ _ _); (k_here; k_dflt (refine' load_any ?zzF ?zzv ?_ ?zza ?zzb; (case zzF => k_asm); (case zza => rfl); (case zzb => rfl); (case zzv => ktr_unf); k_whole))) | ((with_reducible show wpAny _ _ (eval (Expr.Name ..) _) _ _ _); (k_here; k_dflt (refine' name_any ?zzF ?zzv ?_ ?zza ?zzb ?zzc; (case zzF => k_asm); (case zza => rfl); (case zzb => rfl); (case zzc => decide); (case zzv => ktr_unf); k_whole))) | walk1 | (dsimp only; first | ((with_reducible show wpAny _ _ (call (Value.builtin "len") _ _) _ _ _); (k_here; k_dflt (refine' len_ints' ?zzl ?zzi ?zzz ?_; (case zzl => exact list_at (by k_asm) (by k_mem)); (case zzi => assumption); (case zzz => omega); k_whole); intro _ _)) | ((with_reducible show wpAny _ _ (loadName _ _) _ _ _); (k_here; k_dflt (refine' load_any ?zzF ?zzv ?_ ?zza ?zzb; (case zzF => k_asm); (case zza => rfl); (case zzb => rfl); (case zzv => ktr_unf); k_whole))) | ((with_reducible show wpAny _ _ (eval (Expr.Name ..) _) _ _ _); (k_here; k_dflt (refine' name_any ?zzF ?zzv ?_ ?zza ?zzb ?zzc; (case zzF => k_asm); (case zza => rfl); (case zzb => rfl); (case zzc => decide); (case zzv => ktr_unf); k_whole))) | walk1) | (leave1; try dsimp only) | fail "no step"))
  rename_i t2 k2 h2 F2 N2
  exact hQ (vc ++ [.int (ns.length : Int) t2]) (nc + 1) _ _ (ints_snoc hci _ _) F2 (by rw [← List.push_toArray]; exact N2)
end
section
variable {w : World} {mean : ExcName → Option Value} {mg mb : Str → Option Value} {A : Around} {g : Heap} {L : Addr} {s : Shared} {m : Str → Option Value} {news : List (Addr × Obj)} {Q : Value → Shared → Prop} {E : Value → Shared → Prop}

set_option maxHeartbeats 4000000 in
theorem cn_iter {c b z : Int} {tc tb tz : Tok} (hc : m (Str.ofString "c") = some (.int c tc)) (hb : m (Str.ofString "b") = some (.int b tb)) (hz : m (Str.ofString "a") = some (.int z tz)) (c0 : 0 ≤ c) (c1 : c < 6) (b0 : 0 ≤ b) (b1 : b < 6) (z0 : 0 ≤ z) (z1 : z < 6)
   (X : (Mine.hd.heap_39 w.params).In g) (T : Top Mine.hd.view_39 lo mean mg mb g) (F : Fr g L s.heap m) (N : News g L s.heap news)
   (hQ : ∀ D t1 t2 t3 h' tk', Fr g L h' m → News g L h' ((D, ({ cls := .type "tuple", data := .seq #[.int (10 * c + b) t1, .int (10 * c + z) t2, .int (10 * b + z) t3] } : Obj)) :: news) → (∀ p ∈ news, p.1 ≠ D) → Q (.ref D) { s with heap := h', toks := tk' }) :
   wpAny (model rprog w) A (eval cnI (cnE L)) Q E s := by
  show wpAny _ _ (eval (.Tuple _ _ _) _) _ _ _
  w_strict (repeat' (first | (k_unfold; (try dsimp only)) | (k_end; wrow_close) | ((with_reducible show wpAny _ _ (call (Value.builtin "len") _ _) _ _ _); (k_here; k_dflt (refine' len_ints' ?zzl ?zzi ?zzz ?_; (case zzl => exact list_at (by k_asm) (by k_mem)); (case zzi => assumption); (case zzz => omega); k_whole); intro _ _)) | ((with_reducible show wpAny _ _ (loadName _ _) _ _ _); (k_here; k_dflt (refine' load_any ?zzF ?zzv ?_ ?zza ?zzb; (case zzF => k_asm); (case zza => rfl); (case zzb => rfl); (case zzv => ktr_unf); k_whole))) | ((with_reducible show wpAny _ _ (eval (Expr.Name ..) _) _ _ _); (k_here; k_dflt (refine' name_any ?zzF ?zzv ?_ ?zza ?zzb ?zzc; (case zzF => k_asm); (case zza => rfl); (case zzb => rfl); (case zzc => decide); (case zzv => ktr_unf); k_whole))) | walk1 | (dsimp only; first | ((with_reducible show wpAny _ _ (call (Value.builtin "len") _ _) _ _ _); (k_here; k_dflt (refine' len_ints' ?zzl ?zzi ?zzz ?_; (case zzl => exact list_at (by k_asm) (by k_mem)); (case zzi => assumption); (case zzz => omega); k_whole); intro _ _)) | ((with_reducible show wpAny _ _ (loadName _ _) _ _ _); (k_here; k_dflt (refine' load_any ?zzF ?zzv ?_ ?zza ?zzb; (case zzF => k_asm); (case zza => rfl); (case zzb => rfl); (case zzv => ktr_unf); k_whole))) | ((with_reducible show wpAny _ _ (eval (Expr.Name ..) _) _ _ _); (k_here; k_dflt (refine' name_any ?zzF ?zzv ?_ ?zza ?zzb ?zzc; (case zzF => k_asm); (case zza => rfl); (case zzb => rfl); (case zzc => decide); (case zzv => ktr_unf); k_whole))) | walk1) | (leave1; try dsimp only) | fail "no step"))
  rename_i q1 h1 F1 N1 l1
  exact hQ q1 _ _ _ _ _ F1 N1 fun p hp => Nat.ne_of_lt (l1 p hp)
end
end Mine
end
section
open PySem PySem.W PyProof.Rows PySem.Calls PySem.Spec PyProof.Rows.LCg
set_option maxRecDepth 100000
namespace Mine
local macro_rules | `(tactic| ktr_unf) => `(tactic| first | assumption | (dsimp only; (repeat (first | (rw [if_pos (by decide)]) | (rw [if_neg (by decide)]))); first | rfl | assumption))
local macro_rules | `(tactic| k_all) => `(tactic| assumption)
local macro_rules | `(tactic| k_mem) => `(tactic| assumption)
example (w : World) (h : Heap) : (Mine.hd.heap_39 w.params).In h → rprog = PySem.Challenge.rw_wy0014_01.prog → True := by
  k_fill
  intros; trivial
noncomputable def fiB (i : Nat) : Stmt := (bodyOf (lawS 10)).getD i (.Pass default)
noncomputable def fiI : PySem.Expr := match lawS 10 with | .For _ x _ _ _ => x | _ => default
section
variable {prog : Program} {w : World} {A : Around} {E : Value → Shared → Prop} {s : Shared}
open PySem.SeqAt in
theorem ne_int_tuples {l b : Addr} {vs us : List Value} {bs cs : List Int} {Q : Value → Shared → Prop} (hl : s.heap.IsTuple l vs.toArray) (hb : s.heap.IsTuple b us.toArray) (hv : IntsAre vs bs) (hw : IntsAre us cs) (e : bs = cs) (hu : A.units < cLine) (h : Q (.bool false) s) :
    wpAny (model prog w) A (compareOp .NotEq (.ref l) (.ref b)) Q E s := by
  subst e
  have he : ∀ j (h1 : j < vs.toArray.size) (h2 : j < us.toArray.size), EqAt A.in1 s vs.toArray[j] us.toArray[j] ((fun _ => true) j) := fun j h1 h2 => by
    obtain ⟨c, t, et, ec⟩ := ints_item0 hv (i := j) (v := vs.toArray[j]) (by simp at h1; simp [h1])
    obtain ⟨d, u, eu, ed⟩ := ints_item0 hw (i := j) (v := us.toArray[j]) (by simp at h2; simp [h2])
    rw [ec] at ed
    cases ed
    rw [et, eu]
    have := EqAt.int_int (A := A.in1) (s := s) c t c u
    rwa [beq_self_eq_true] at this
  have q := RcNeAt.tuples hl hb hu he
  have z : (!((List.range (min vs.toArray.size us.toArray.size)).all (fun _ => true) && vs.toArray.size == us.toArray.size)) = false := by
    have e1 := hv.length
    have e2 := hw.length
    simp [e1, e2]
  rw [z] at q
  exact q prog w E Q h
end
local macro_rules | `(tactic| k_mem) => `(tactic| first | assumption | exact List.Mem.head _ | (refine List.mem_cons_of_mem _ ?_; k_mem))
section
variable {w : World} {mean : ExcName → Option Value} {mg mb : Str → Option Value} {g : Heap} {L a : Addr} {ccd : Value} {s : Shared} {m : Str → Option Value} {news : List (Addr × Obj)} {Q : Value → Shared → Prop} {E : Value → Shared → Prop}

set_option maxHeartbeats 4000000 in
theorem fi_range {lf : Addr} {vf : List Value} {nf : Nat} {fam : List Int} (hf : m (Str.ofString "family") = some (.ref lf)) (hfm : (lf, listOf vf.toArray nf) ∈ news) (hfi : IntsAre vf fam) (hl : fam.length ≤ 99)
   (X : (Mine.hd.heap_39 w.params).In g) (T : Top Mine.hd.view_39 lo mean mg mb g) (F : Fr g L s.heap m) (N : News g L s.heap news)
   (hQ : ∀ r t u v h' tk', IsRange h' r 0 fam.length 1 t u v → Fr g L h' m → News g L h' news → Q (.ref r) { s with heap := h', toks := tk' }) :
   wpAny (model rprog w) (callerA.deeper (envOfC (Str.ofString "law") lawScope L a ccd)) (eval fiI (envOfC (Str.ofString "law") lawScope L a ccd)) Q E s := by
  show wpAny _ _ (eval (.Call _ _ _ _) _) _ _ _
  w_strict (repeat' (first | (k_unfold; (try dsimp only)) | (k_end; wrow_close) | ((with_reducible show wpAny _ _ (call (Value.builtin "len") _ _) _ _ _); (k_here; k_dflt (refine' len_ints' ?zzl ?zzi ?zzz ?_; (case zzl => exact list_at (by k_asm) (by k_mem)); (case zzi => assumption); (case zzz => lia); k_whole); intro _ _)) | ((with_reducible show wpAny _ _ (eval (Expr.Name ..) _) _ _ _); (k_here; k_dflt (first | (refine' nameX_L ?zzF ?zzv ?_ ?zza ?zzb; (case zzF => k_asm); (case zza => rfl); (case zzb => rfl); (case zzv => ktr_unf); k_whole) | (refine' nameX_C ?zzN ?zzc ?zzm ?zzd ?_ ?zza ?zzb; (case zza => rfl); (case zzb => rfl); (case zzN => k_asm); (case zzc => rfl); (case zzm => first | k_mem | assumption); (case zzd => first | assumption | rfl); k_whole)))) | walk1 | (dsimp only; first | ((with_reducible show wpAny _ _ (call (Value.builtin "len") _ _) _ _ _); (k_here; k_dflt (refine' len_ints' ?zzl ?zzi ?zzz ?_; (case zzl => exact list_at (by k_asm) (by k_mem)); (case zzi => assumption); (case zzz => lia); k_whole); intro _ _)) | ((with_reducible show wpAny _ _ (eval (Expr.Name ..) _) _ _ _); (k_here; k_dflt (first | (refine' nameX_L ?zzF ?zzv ?_ ?zza ?zzb; (case zzF => k_asm); (case zza => rfl); (case zzb => rfl); (case zzv => ktr_unf); k_whole) | (refine' nameX_C ?zzN ?zzc ?zzm ?zzd ?_ ?zza ?zzb; (case zza => rfl); (case zzb => rfl); (case zzN => k_asm); (case zzc => rfl); (case zzm => first | k_mem | assumption); (case zzd => first | assumption | rfl); k_whole)))) | walk1) | (leave1; try dsimp only) | fail "no step"))
  exact hQ _ _ _ _ _ _ (by assumption) (by assumption) (by assumption)
end
section
variable {w : World} {mean : ExcName → Option Value} {mg mb : Str → Option Value} {g : Heap} {L a : Addr} {ccd : Value} {s : Shared} {m : Str → Option Value} {news : List (Addr × Obj)} {Q : Flow → Shared → Prop} {E : Value → Shared → Prop}

set_option maxHeartbeats 4000000 in
theorem fi_tops {n : Int} {tn : Tok} {lw : Addr} (hn : m (Str.ofString "rank") = some (.int n tn)) (hn0 : 0 ≤ n) (hw : m (Str.ofString "ways") = some (.ref lw)) (hW : WaysIn news lw) {base : Heap} (B : Below callerA base [] g)
   (X : (Mine.hd.heap_39 w.params).In g) (T : Top Mine.hd.view_39 lo mean mg mb g) (F : Fr g L s.heap m) (N : News g L s.heap news)
   (hQ : ∀ q vs nn h' tk', IntsAre vs (topsOf n) → Fr g L h' (fun y => if y = (Str.ofString "tops") then some (.ref q) else m y) → News g L h' ((q, listOf (List.toArray vs) nn) :: news) → (∀ p ∈ news, p.1 ≠ q) → Q .next { s with heap := h', toks := tk' }) :
   wpAny (model rprog w) (callerA.deeper (envOfC (Str.ofString "law") lawScope L a ccd)) (exec (fiB  0) (envOfC (Str.ofString "law") lawScope L a ccd)) Q E s := by
  show wpAny _ _ (exec (Stmt.Assign _ _ _) _) _ _ _
  w_strict (repeat' (first | (k_unfold; (try dsimp only)) | (k_end; wrow_close) | ((with_reducible show wpAny _ _ (call (Value.ref _) _ _) _ _ _); (k_here; k_dflt (refine' law_tops_spec ?zzB ?zzF ?zzX ?zzN ?zzT ?zzhk ?zzhdp ?zzhun ?zzhW ?zzh0 ?_; (case zzB => k_asm); (case zzF => k_asm); (case zzX => k_asm); (case zzN => k_asm); (case zzT => k_asm); (case zzhk => exact rfl); (case zzhW => exact WaysIn.at_ (by assumption) (by k_asm)); (case zzh0 => assumption); (case zzhdp => decide); (case zzhun => decide); k_whole); intro _ _ _ _ _ _ _ _ _ _)) | ((with_reducible show wpAny _ _ (call (Value.builtin "len") _ _) _ _ _); (k_here; k_dflt (refine' len_ints' ?zzl ?zzi ?zzz ?_; (case zzl => exact list_at (by k_asm) (by k_mem)); (case zzi => assumption); (case zzz => lia); k_whole); intro _ _)) | ((with_reducible show wpAny _ _ (eval (Expr.Name ..) _) _ _ _); (k_here; k_dflt (first | (refine' nameX_L ?zzF ?zzv ?_ ?zza ?zzb; (case zzF => k_asm); (case zza => rfl); (case zzb => rfl); (case zzv => ktr_unf); k_whole) | (refine' nameX_C ?zzN ?zzc ?zzm ?zzd ?_ ?zza ?zzb; (case zza => rfl); (case zzb => rfl); (case zzN => k_asm); (case zzc => rfl); (case zzm => first | k_mem | assumption); (case zzd => first | assumption | rfl); k_whole)))) | walk1 | (dsimp only; first | ((with_reducible show wpAny _ _ (call (Value.ref _) _ _) _ _ _); (k_here; k_dflt (refine' law_tops_spec ?zzB ?zzF ?zzX ?zzN ?zzT ?zzhk ?zzhdp ?zzhun ?zzhW ?zzh0 ?_; (case zzB => k_asm); (case zzF => k_asm); (case zzX => k_asm); (case zzN => k_asm); (case zzT => k_asm); (case zzhk => exact rfl); (case zzhW => exact WaysIn.at_ (by assumption) (by k_asm)); (case zzh0 => assumption); (case zzhdp => decide); (case zzhun => decide); k_whole); intro _ _ _ _ _ _ _ _ _ _)) | ((with_reducible show wpAny _ _ (call (Value.builtin "len") _ _) _ _ _); (k_here; k_dflt (refine' len_ints' ?zzl ?zzi ?zzz ?_; (case zzl => exact list_at (by k_asm) (by k_mem)); (case zzi => assumption); (case zzz => lia); k_whole); intro _ _)) | ((with_reducible show wpAny _ _ (eval (Expr.Name ..) _) _ _ _); (k_here; k_dflt (first | (refine' nameX_L ?zzF ?zzv ?_ ?zza ?zzb; (case zzF => k_asm); (case zza => rfl); (case zzb => rfl); (case zzv => ktr_unf); k_whole) | (refine' nameX_C ?zzN ?zzc ?zzm ?zzd ?_ ?zza ?zzb; (case zza => rfl); (case zzb => rfl); (case zzN => k_asm); (case zzc => rfl); (case zzm => first | k_mem | assumption); (case zzd => first | assumption | rfl); k_whole)))) | walk1) | (leave1; try dsimp only) | fail "no step"))
  exact hQ _ _ _ _ _ (by assumption) (by assumption) (by assumption) (by assumption)
end
theorem ints_fit {vs : List Value} {ns : List Int} (h : IntsAre vs ns) (hl : ns.length ≤ 100) : vs.length ≤ sizeLine := by rw [h.length, sizeLine_eq]; lia
theorem tupAtF {h₀ h : Heap} {L D : Addr} {its : Array Value} {n : Nat} {news : List (Addr × Obj)} (N : News h₀ L h news) (hm : (D, ({ cls := .type "tuple", data := .seq its n } : Obj)) ∈ news) : h.IsTuple D its := ⟨_, (N _ hm).1, rfl, _, rfl⟩
section
variable {w : World} {mean : ExcName → Option Value} {mg mb : Str → Option Value} {g : Heap} {L a : Addr} {ccd : Value} {s : Shared} {m : Str → Option Value} {news : List (Addr × Obj)} {Q : Flow → Shared → Prop} {E : Value → Shared → Prop}

set_option maxHeartbeats 4000000 in
theorem fi_same {n : Int} {tn : Tok} {lt lq lp : Addr} {oc : Obj} {vt vq vp : List Value} {nt nq np : Nat} {ts ps : List Int} (hn : m (Str.ofString "rank") = some (.int n tn)) (hn0 : 0 ≤ n) (hn1 : n < 100) (hq : m (Str.ofString "tops") = some (.ref lq)) (hqm : (lq, listOf vq.toArray nq) ∈ news) (hqi : IntsAre vq ts) (hql : ts.length ≤ 100) (hc : (L + 1, oc) ∈ news) (hcd : oc.data = .cell (some (.ref lt))) (htm : (lt, listOf vt.toArray nt) ∈ news) (hv : vt.toArray[n.toNat]? = some (.ref lp)) (hpm : (lp, ({ cls := .type "tuple", data := .seq vp.toArray np } : Obj)) ∈ news) (hpi : IntsAre vp ps) (he : ts = ps)
   (X : (Mine.hd.heap_39 w.params).In g) (T : Top Mine.hd.view_39 lo mean mg mb g) (F : Fr g L s.heap m) (N : News g L s.heap news)
   (hQ : ∀ h' tk', Fr g L h' m → News g L h' news → Q .next { s with heap := h', toks := tk' }) :
   wpAny (model rprog w) (callerA.deeper (envOfC (Str.ofString "law") lawScope L a ccd)) (exec (fiB  1) (envOfC (Str.ofString "law") lawScope L a ccd)) Q E s := by
  show wpAny _ _ (exec (Stmt.If _ _ _ _) _) _ _ _
  w_strict (repeat' (first | (k_unfold; (try dsimp only)) | (k_end; wrow_close) | ((with_reducible show wpAny _ _ (compareOp .NotEq (Value.ref _) (Value.ref _)) _ _ _); (k_here; k_dflt (refine' ne_int_tuples ?zzl ?zzb ?zzv ?zzw ?zze ?zzu ?_; (case zzl => exact tupAtF (by k_asm) (by k_mem)); (case zzb => exact tupAtF (by k_asm) (by k_mem)); (case zzv => assumption); (case zzw => assumption); (case zze => assumption); (case zzu => first | ktr_units | k_units); k_whole))) | ((with_reducible show wpAny _ _ (call (Value.type "tuple") _ _) _ _ _); (k_here; k_dflt (refine' tuple_ofL ?zzF ?zzN ?zzl ?_ ?zzz; (case zzF => k_asm); (case zzN => k_asm); (case zzl => exact list_at (by k_asm) (by k_mem)); (case zzz => exact ints_fit (by assumption) (by assumption)); k_whole); intro _ _ _ _ _)) | ((with_reducible show wpAny _ _ (subscriptTail _ _ _ _) _ _ _); (k_here; k_dflt (refine' item_any ?zzl ?zza ?zzb ?zzx ?_; (case zzl => exact list_at (by k_asm) (by k_mem)); (case zzx => assumption); (case zza => lia); (case zzb => lia); k_whole))) | ((with_reducible show wpAny _ _ (call (Value.ref _) _ _) _ _ _); (k_here; k_dflt (refine' law_tops_spec ?zzB ?zzF ?zzX ?zzN ?zzT ?zzhk ?zzhdp ?zzhun ?zzhW ?zzh0 ?_; (case zzB => k_asm); (case zzF => k_asm); (case zzX => k_asm); (case zzN => k_asm); (case zzT => k_asm); (case zzhk => exact rfl); (case zzhW => exact WaysIn.at_ (by assumption) (by k_asm)); (case zzh0 => assumption); (case zzhdp => decide); (case zzhun => decide); k_whole); intro _ _ _ _ _ _ _ _ _ _)) | ((with_reducible show wpAny _ _ (call (Value.builtin "len") _ _) _ _ _); (k_here; k_dflt (refine' len_ints' ?zzl ?zzi ?zzz ?_; (case zzl => exact list_at (by k_asm) (by k_mem)); (case zzi => assumption); (case zzz => lia); k_whole); intro _ _)) | ((with_reducible show wpAny _ _ (eval (Expr.Name ..) _) _ _ _); (k_here; k_dflt (first | (refine' nameX_L ?zzF ?zzv ?_ ?zza ?zzb; (case zzF => k_asm); (case zza => rfl); (case zzb => rfl); (case zzv => ktr_unf); k_whole) | (refine' nameX_C ?zzN ?zzc ?zzm ?zzd ?_ ?zza ?zzb; (case zza => rfl); (case zzb => rfl); (case zzN => k_asm); (case zzc => rfl); (case zzm => first | k_mem | assumption); (case zzd => first | assumption | rfl); k_whole)))) | walk1 | (dsimp only; first | ((with_reducible show wpAny _ _ (compareOp .NotEq (Value.ref _) (Value.ref _)) _ _ _); (k_here; k_dflt (refine' ne_int_tuples ?zzl ?zzb ?zzv ?zzw ?zze ?zzu ?_; (case zzl => exact tupAtF (by k_asm) (by k_mem)); (case zzb => exact tupAtF (by k_asm) (by k_mem)); (case zzv => assumption); (case zzw => assumption); (case zze => assumption); (case zzu => first | ktr_units | k_units); k_whole))) | ((with_reducible show wpAny _ _ (call (Value.type "tuple") _ _) _ _ _); (k_here; k_dflt (refine' tuple_ofL ?zzF ?zzN ?zzl ?_ ?zzz; (case zzF => k_asm); (case zzN => k_asm); (case zzl => exact list_at (by k_asm) (by k_mem)); (case zzz => exact ints_fit (by assumption) (by assumption)); k_whole); intro _ _ _ _ _)) | ((with_reducible show wpAny _ _ (subscriptTail _ _ _ _) _ _ _); (k_here; k_dflt (refine' item_any ?zzl ?zza ?zzb ?zzx ?_; (case zzl => exact list_at (by k_asm) (by k_mem)); (case zzx => assumption); (case zza => lia); (case zzb => lia); k_whole))) | ((with_reducible show wpAny _ _ (call (Value.ref _) _ _) _ _ _); (k_here; k_dflt (refine' law_tops_spec ?zzB ?zzF ?zzX ?zzN ?zzT ?zzhk ?zzhdp ?zzhun ?zzhW ?zzh0 ?_; (case zzB => k_asm); (case zzF => k_asm); (case zzX => k_asm); (case zzN => k_asm); (case zzT => k_asm); (case zzhk => exact rfl); (case zzhW => exact WaysIn.at_ (by assumption) (by k_asm)); (case zzh0 => assumption); (case zzhdp => decide); (case zzhun => decide); k_whole); intro _ _ _ _ _ _ _ _ _ _)) | ((with_reducible show wpAny _ _ (call (Value.builtin "len") _ _) _ _ _); (k_here; k_dflt (refine' len_ints' ?zzl ?zzi ?zzz ?_; (case zzl => exact list_at (by k_asm) (by k_mem)); (case zzi => assumption); (case zzz => lia); k_whole); intro _ _)) | ((with_reducible show wpAny _ _ (eval (Expr.Name ..) _) _ _ _); (k_here; k_dflt (first | (refine' nameX_L ?zzF ?zzv ?_ ?zza ?zzb; (case zzF => k_asm); (case zza => rfl); (case zzb => rfl); (case zzv => ktr_unf); k_whole) | (refine' nameX_C ?zzN ?zzc ?zzm ?zzd ?_ ?zza ?zzb; (case zza => rfl); (case zzb => rfl); (case zzN => k_asm); (case zzc => rfl); (case zzm => first | k_mem | assumption); (case zzd => first | assumption | rfl); k_whole)))) | walk1) | (leave1; try dsimp only) | fail "no step"))
  exact hQ _ _ (by assumption) (News.drop1 (by assumption))
end
end Mine
end
section
open PySem PySem.W PyProof.Rows PySem.Calls PySem.Spec PyProof.Rows.LCg
set_option maxRecDepth 100000
namespace Mine
local macro_rules | `(tactic| ktr_unf) => `(tactic| first | assumption | (dsimp only; (repeat (first | (rw [if_pos (by decide)]) | (rw [if_neg (by decide)]))); first | rfl | assumption))
local macro_rules | `(tactic| k_all) => `(tactic| assumption)
local macro_rules | `(tactic| k_mem) => `(tactic| assumption)
example (w : World) (h : Heap) : (Mine.hd.heap_39 w.params).In h → rprog = PySem.Challenge.rw_wy0014_01.prog → True := by
  k_fill
  intros; trivial
/-- three pairs of numbers, written -/
noncomputable def fpE : PySem.Expr := match fiB 2 with | .For _ x _ _ _ => x | _ => default
noncomputable def fpB : Stmt := (bodyOf (fiB 2)).getD 0 (.Pass default)
section
variable {w : World} {mean : ExcName → Option Value} {mg mb : Str → Option Value} {g : Heap} {L a : Addr} {ccd : Value} {s : Shared} {m : Str → Option Value} {news : List (Addr × Obj)} {Q : Value → Shared → Prop} {E : Value → Shared → Prop}

set_option maxHeartbeats 4000000 in
theorem fp_eval 
   (X : (Mine.hd.heap_39 w.params).In g) (T : Top Mine.hd.view_39 lo mean mg mb g) (F : Fr g L s.heap m) (N : News g L s.heap news)
   (hQ : ∀ T p1 p2 p3 t1 t2 t3 u1 u2 u3 h' tk', Fr g L h' m → News g L h' ((T, ({ cls := .type "tuple", data := .seq #[.ref p1, .ref p2, .ref p3] } : Obj)) :: (p3, pairObj 1 2 t3 u3) :: (p2, pairObj 0 2 t2 u2) :: (p1, pairObj 0 1 t1 u1) :: news) → (p1 ≠ p2 ∧ p1 ≠ p3 ∧ p2 ≠ p3 ∧ p1 ≠ T ∧ p2 ≠ T ∧ p3 ≠ T) → (∀ p ∈ news, p.1 ≠ p1 ∧ p.1 ≠ p2 ∧ p.1 ≠ p3 ∧ p.1 ≠ T) → Q (.ref T) { s with heap := h', toks := tk' }) :
   wpAny (model rprog w) (callerA.deeper (envOfC (Str.ofString "law") lawScope L a ccd)) (eval fpE (envOfC (Str.ofString "law") lawScope L a ccd)) Q E s := by
  show wpAny _ _ (eval (.Tuple _ _ _) _) _ _ _
  w_strict (repeat' (first | (k_unfold; (try dsimp only)) | (k_end; wrow_close) | ((with_reducible show wpAny _ _ (eval (Expr.Name ..) _) _ _ _); (k_here; k_dflt (first | (refine' nameX_L ?zzF ?zzv ?_ ?zza ?zzb; (case zzF => k_asm); (case zza => rfl); (case zzb => rfl); (case zzv => ktr_unf); k_whole) | (refine' nameX_C ?zzN ?zzc ?zzm ?zzd ?_ ?zza ?zzb; (case zza => rfl); (case zzb => rfl); (case zzN => k_asm); (case zzc => rfl); (case zzm => first | k_mem | assumption); (case zzd => first | assumption | rfl); k_whole)))) | walk1 | (dsimp only; first | ((with_reducible show wpAny _ _ (eval (Expr.Name ..) _) _ _ _); (k_here; k_dflt (first | (refine' nameX_L ?zzF ?zzv ?_ ?zza ?zzb; (case zzF => k_asm); (case zza => rfl); (case zzb => rfl); (case zzv => ktr_unf); k_whole) | (refine' nameX_C ?zzN ?zzc ?zzm ?zzd ?_ ?zza ?zzb; (case zza => rfl); (case zzb => rfl); (case zzN => k_asm); (case zzc => rfl); (case zzm => first | k_mem | assumption); (case zzd => first | assumption | rfl); k_whole)))) | walk1) | (leave1; try dsimp only) | fail "no step"))
  rename_i q1 h1 l1 q2 h2 l2 q3 h3 l3 q4 h4 F4 N4 l4
  have l2' := allLt_mem l2.2
  have l3' := allLt_mem l3.2.2
  have l4' := allLt_mem l4.2.2.2
  exact hQ q4 q1 q2 q3 _ _ _ _ _ _ _ _ F4 N4 ⟨Nat.ne_of_lt l2.1, Nat.ne_of_lt l3.2.1, Nat.ne_of_lt l3.1, Nat.ne_of_lt l4.2.2.1, Nat.ne_of_lt l4.2.1, Nat.ne_of_lt l4.1⟩ fun p hp => ⟨Nat.ne_of_lt (l1 p hp), Nat.ne_of_lt (l2' p hp), Nat.ne_of_lt (l3' p hp), Nat.ne_of_lt (l4' p hp)⟩
end
local macro_rules | `(tactic| k_mem) => `(tactic| first | assumption | exact List.Mem.head _ | (refine List.mem_cons_of_mem _ ?_; k_mem))
section
variable {w : World} {mean : ExcName → Option Value} {mg mb : Str → Option Value} {g : Heap} {L a : Addr} {ccd : Value} {s : Shared} {m : Str → Option Value} {news : List (Addr × Obj)} {Q : Flow → Shared → Prop} {E : Value → Shared → Prop}

set_option maxHeartbeats 4000000 in
theorem fp_turn {lw lt lsh l0 l1 l2 l3 : Addr} {v2 vt vsh : List Value} {nw n2 nt nsh : Nat} {ts sh : List Int} {hi lo' : Int} {th tl : Tok} (hfst : m (Str.ofString "first") = some (.ref lsh)) (hw : m (Str.ofString "ways") = some (.ref lw)) (hwm : (lw, listOf #[.ref l0, .ref l1, .ref l2, .ref l3] nw) ∈ news) (h2m : (l2, listOf v2.toArray n2) ∈ news) (h2i : IntsAre v2 row2) (ht : m (Str.ofString "tops") = some (.ref lt)) (htm : (lt, listOf vt.toArray nt) ∈ news) (hti : IntsAre vt ts) (hh : m (Str.ofString "high") = some (.int hi th)) (hl : m (Str.ofString "low") = some (.int lo' tl)) (g0 : 0 ≤ hi) (g1 : hi < ts.length) (g2 : 0 ≤ lo') (g3 : lo' < ts.length) (g4 : 0 ≤ ts.getD hi.toNat 0) (g5 : ts.getD hi.toNat 0 < row2.length) (gl : ts.length ≤ 1000) (hsi : IntsAre vsh sh) (hsl : sh.length ≤ 99) (hss : sh.Pairwise (· < ·)) (hne : ∀ p ∈ news, p.1 ≠ lsh) {base : Heap} (B : Below callerA base [] g)
   (X : (Mine.hd.heap_39 w.params).In g) (T : Top Mine.hd.view_39 lo mean mg mb g) (F : Fr g L s.heap m) (N : News g L s.heap ((lsh, listOf vsh.toArray nsh) :: news))
   (hQ : ∀ vs' ns' n' h' tk', IntsAre vs' ns' → PutTo (row2.getD (ts.getD hi.toNat 0).toNat 0 + ts.getD lo'.toNat 0) sh ns' → Fr g L h' m → News g L h' ((lsh, listOf vs'.toArray n') :: news) → Q .next { s with heap := h', toks := tk' }) :
   wpAny (model rprog w) (callerA.deeper (envOfC (Str.ofString "law") lawScope L a ccd)) (exec fpB (envOfC (Str.ofString "law") lawScope L a ccd)) Q E s := by
  show wpAny _ _ (exec (Stmt.If _ _ _ _) _) _ _ _
  w_strict (repeat' (first | (k_unfold; (try dsimp only)) | (k_end; wrow_close) | ((with_reducible show wpAny _ _ (call (Value.ref _) _ _) _ _ _); (k_here; k_dflt (refine' law_put_spec ?zzB ?zzF ?zzX ?zzN ?zzT ?zzhk ?zzhdp ?zzhun ?zzhne ?zzhI ?zzhlen ?zzhS ?_; (case zzB => k_asm); (case zzF => k_asm); (case zzX => k_asm); (case zzN => k_asm); (case zzT => k_asm); (case zzhk => exact rfl); (case zzhne => assumption); (case zzhI => assumption); (case zzhlen => assumption); (case zzhS => assumption); (case zzhdp => decide); (case zzhun => decide); k_whole); intro _ _ _ _ _ _ _ _ _)) | ((with_reducible show wpAny _ _ (subscriptTail _ _ _ _) _ _ _); (k_here; k_dflt (first | (refine' item_any ?zzl ?zza ?zzb ?zzx ?_; (case zzl => exact list_at (by k_asm) (by k_mem)); (case zza => decide); (case zzb => decide); (case zzx => exact rfl); k_whole) | ((refine' item_ints ?zzl ?zzi ?zza ?zzb ?zzz ?_; (case zzl => exact list_at (by k_asm) (by k_mem)); (case zzi => assumption); (case zza => assumption); (case zzb => assumption); (case zzz => first | assumption | decide); k_whole); intro _)))) | ((with_reducible show wpAny _ _ (eval (Expr.Name ..) _) _ _ _); (k_here; k_dflt (first | (refine' nameX_L ?zzF ?zzv ?_ ?zza ?zzb; (case zzF => k_asm); (case zza => rfl); (case zzb => rfl); (case zzv => ktr_unf); k_whole) | (refine' nameX_C ?zzN ?zzc ?zzm ?zzd ?_ ?zza ?zzb; (case zza => rfl); (case zzb => rfl); (case zzN => k_asm); (case zzc => rfl); (case zzm => first | k_mem | assumption); (case zzd => first | assumption | rfl); k_whole)))) | walk1 | (dsimp only; first | ((with_reducible show wpAny _ _ (call (Value.ref _) _ _) _ _ _); (k_here; k_dflt (refine' law_put_spec ?zzB ?zzF ?zzX ?zzN ?zzT ?zzhk ?zzhdp ?zzhun ?zzhne ?zzhI ?zzhlen ?zzhS ?_; (case zzB => k_asm); (case zzF => k_asm); (case zzX => k_asm); (case zzN => k_asm); (case zzT => k_asm); (case zzhk => exact rfl); (case zzhne => assumption); (case zzhI => assumption); (case zzhlen => assumption); (case zzhS => assumption); (case zzhdp => decide); (case zzhun => decide); k_whole); intro _ _ _ _ _ _ _ _ _)) | ((with_reducible show wpAny _ _ (subscriptTail _ _ _ _) _ _ _); (k_here; k_dflt (first | (refine' item_any ?zzl ?zza ?zzb ?zzx ?_; (case zzl => exact list_at (by k_asm) (by k_mem)); (case zza => decide); (case zzb => decide); (case zzx => exact rfl); k_whole) | ((refine' item_ints ?zzl ?zzi ?zza ?zzb ?zzz ?_; (case zzl => exact list_at (by k_asm) (by k_mem)); (case zzi => assumption); (case zza => assumption); (case zzb => assumption); (case zzz => first | assumption | decide); k_whole); intro _)))) | ((with_reducible show wpAny _ _ (eval (Expr.Name ..) _) _ _ _); (k_here; k_dflt (first | (refine' nameX_L ?zzF ?zzv ?_ ?zza ?zzb; (case zzF => k_asm); (case zza => rfl); (case zzb => rfl); (case zzv => ktr_unf); k_whole) | (refine' nameX_C ?zzN ?zzc ?zzm ?zzd ?_ ?zza ?zzb; (case zza => rfl); (case zzb => rfl); (case zzN => k_asm); (case zzc => rfl); (case zzm => first | k_mem | assumption); (case zzd => first | assumption | rfl); k_whole)))) | walk1) | (leave1; try dsimp only) | fail "no step"))
  exact hQ _ _ _ _ _ (by assumption) (by assumption) (by assumption) (by assumption)
end
section
variable {w : World} {mean : ExcName → Option Value} {mg mb : Str → Option Value} {g : Heap} {L a : Addr} {ccd : Value} {s : Shared} {m : Str → Option Value} {news : List (Addr × Obj)} {Q : Flow → Shared → Prop} {E : Value → Shared → Prop}

set_option maxHeartbeats 4000000 in
theorem fi_put {lw lt lsh l0 l1 l2 l3 : Addr} {v2 vt vsh : List Value} {nw n2 nt nsh : Nat} {ts sh : List Int} (hfst : m (Str.ofString "first") = some (.ref lsh)) (hw : m (Str.ofString "ways") = some (.ref lw)) (hwm : (lw, listOf #[.ref l0, .ref l1, .ref l2, .ref l3] nw) ∈ news) (h2m : (l2, listOf v2.toArray n2) ∈ news) (h2i : IntsAre v2 row2) (ht : m (Str.ofString "tops") = some (.ref lt)) (htm : (lt, listOf vt.toArray nt) ∈ news) (hti : IntsAre vt ts) (gl : ts.length = 3) (gb : ∀ i, i < 3 → 0 ≤ ts.getD i 0 ∧ ts.getD i 0 < 8) (hsi : IntsAre vsh sh) (hsl : sh.length ≤ 90) (hss : sh.Pairwise (· < ·)) (hne : ∀ p ∈ news, p.1 ≠ lsh) {base : Heap} (B : Below callerA base [] g)
   (X : (Mine.hd.heap_39 w.params).In g) (T : Top Mine.hd.view_39 lo mean mg mb g) (F : Fr g L s.heap m) (N : News g L s.heap ((lsh, listOf vsh.toArray nsh) :: news))
   (hQ : ∀ m' vs' ns' n' h' tk', (∀ z, z ≠ (Str.ofString "high") → z ≠ (Str.ofString "low") → m' z = m z) → IntsAre vs' ns' → Puts (pairNums ts) sh ns' → Fr g L h' m' → News g L h' ((lsh, listOf vs'.toArray n') :: news) → Q .next { s with heap := h', toks := tk' }) :
   wpAny (model rprog w) (callerA.deeper (envOfC (Str.ofString "law") lawScope L a ccd)) (exec (fiB  2) (envOfC (Str.ofString "law") lawScope L a ccd)) Q E s := by
  show wpAny _ _ (exec (Stmt.For _ _ _ _ _) _) _ _ _
  have key : ∀ (I T p1 p2 p3 : Addr) (oI : Obj) (t1 t2 t3 u1 u2 u3 : Tok) (i : Nat) (v : Value), i < 3 → (#[.ref p1, .ref p2, .ref p3] : Array Value)[i]? = some v →
      ∃ q x y t u, v = .ref q ∧ (q, pairObj x y t u) ∈ [(p3, pairObj 1 2 t3 u3), (p2, pairObj 0 2 t2 u2), (p1, pairObj 0 1 t1 u1)] ∧ (pairNums ts).take (i + 1) = (pairNums ts).take i ++ [row2.getD (ts.getD x.toNat 0).toNat 0 + ts.getD y.toNat 0] ∧ 0 ≤ x ∧ x < 3 ∧ 0 ≤ y ∧ y < 3 := by
    intro I T p1 p2 p3 oI t1 t2 t3 u1 u2 u3 i v hi hv
    rcases three_items (by simpa using hi) hv with ⟨rfl, rfl⟩ | ⟨rfl, rfl⟩ | ⟨rfl, rfl⟩
    · exact ⟨p1, 0, 1, t1, u1, rfl, by simp, rfl, by decide, by decide, by decide, by decide⟩
    · exact ⟨p2, 0, 2, t2, u2, rfl, by simp, rfl, by decide, by decide, by decide, by decide⟩
    · exact ⟨p3, 1, 2, t3, u3, rfl, by simp, rfl, by decide, by decide, by decide, by decide⟩
  refine for_tuple (h₀ := g) rfl go_tupP ?_ (by intro _; rfl)
  refine fp_eval X T F N fun T0 p1 p2 p3 t1 t2 t3 u1 u2 u3 h1 tk1 F1 N1 ne1 of1 => ?_
  refine ⟨fun i m' nx => ∃ vs ns nn, (∀ z, z ≠ (Str.ofString "high") → z ≠ (Str.ofString "low") → m' z = m z) ∧ IntsAre vs ns ∧ Puts ((pairNums ts).take i) sh ns ∧
      nx = (lsh, listOf (List.toArray vs) nn) :: (T0, ({ cls := .type "tuple", data := .seq #[.ref p1, .ref p2, .ref p3] } : Obj)) :: (p3, pairObj 1 2 t3 u3) :: (p2, pairObj 0 2 t2 u2) :: (p1, pairObj 0 1 t1 u1) :: news,
    T0, #[.ref p1, .ref p2, .ref p3], m, _, rfl, F1, ?_, ?_, ⟨vsh, sh, nsh, fun _ _ _ => rfl, hsi, Puts.zero hss, rfl⟩, ?_, ?_⟩
  · intro p hp
    refine N1 p ?_
    simp only [List.mem_cons] at hp ⊢
    rcases hp with h | h | h | h | h | h
    · exact .inr (.inr (.inr (.inr (.inl h))))
    · exact .inl h
    · exact .inr (.inl h)
    · exact .inr (.inr (.inl h))
    · exact .inr (.inr (.inr (.inl h)))
    · exact .inr (.inr (.inr (.inr (.inr h))))
  · rintro i m' nx ⟨vs, ns, nn, _, _, _, rfl⟩
    exact ⟨_, List.mem_cons_of_mem _ List.mem_cons_self, rfl, _, rfl⟩
  · rintro i v m' nx I oI h tk hi hv ⟨vs, ns, nn, hm', hvs, hps, rfl⟩ F2 N2 off2
    obtain ⟨q, x, y, t, u, rfl, hq, hsn, x0, x1, y0, y1⟩ := key I T0 p1 p2 p3 oI t1 t2 t3 u1 u2 u3 i v hi hv
    have up : ∀ p ∈ news, p ∈ (I, oI) :: (T0, ({ cls := .type "tuple", data := .seq #[.ref p1, .ref p2, .ref p3] } : Obj)) :: (p3, pairObj 1 2 t3 u3) :: (p2, pairObj 0 2 t2 u2) :: (p1, pairObj 0 1 t1 u1) :: news := fun p hp =>
      List.mem_cons_of_mem _ (List.mem_cons_of_mem _ (List.mem_cons_of_mem _ (List.mem_cons_of_mem _ (List.mem_cons_of_mem _ hp))))
    have lne := of1 (lsh, listOf vsh.toArray nsh) List.mem_cons_self
    have ln2 := off2 (lsh, listOf (List.toArray vs) nn) List.mem_cons_self
    have hln : ns.length ≤ 99 := by
      have e1 := hps.2.2
      have e2 : ((pairNums ts).take i).length ≤ 3 := by rw [List.length_take]; exact Nat.min_le_right _ _
      lia
    refine assign_two (v₁ := .int x t) (v₂ := .int y u) rfl F2 N2 rfl rfl rfl ⟨_, List.mem_cons_of_mem _ (List.mem_cons_of_mem _ (List.mem_cons_of_mem _ (List.mem_append_left news hq))), rfl, _, rfl⟩ fun h3 tk3 F3 N3 => ?_
    show wpAny _ _ (execs [fpB] _) _ _ _
    have N3' : News g L h3 ((lsh, listOf (List.toArray vs) nn) :: (I, oI) :: (T0, ({ cls := .type "tuple", data := .seq #[.ref p1, .ref p2, .ref p3] } : Obj)) :: (p3, pairObj 1 2 t3 u3) :: (p2, pairObj 0 2 t2 u2) :: (p1, pairObj 0 1 t1 u1) :: news) := by
      intro p hp
      refine N3 p ?_
      simp only [List.mem_cons] at hp ⊢
      rcases hp with h | h | h
      · exact .inr (.inl h)
      · exact .inl h
      · exact .inr (.inr h)
    refine wpAny_execs_cons (fp_turn (th := t) (tl := u) (hi := x) (lo' := y) ?_ ?_ (up _ hwm) (up _ h2m) h2i ?_ (up _ htm) hti ?_ ?_ x0 ?_ y0 ?_ (gb _ (by lia)).1 (gb _ (by lia)).2 ?_ hvs hln hps.1 ?_ B X T F3 N3' fun vs' ns' n' h4 tk4 hi4 hp4 F4 N4 => ?_)
    · show (if _ then _ else _) = _
      rw [if_neg (by decide), if_neg (by decide), hm' _ (by decide) (by decide)]
      exact hfst
    · show (if _ then _ else _) = _
      rw [if_neg (by decide), if_neg (by decide), hm' _ (by decide) (by decide)]
      exact hw
    · show (if _ then _ else _) = _
      rw [if_neg (by decide), if_neg (by decide), hm' _ (by decide) (by decide)]
      exact ht
    · show (if _ then _ else _) = _
      rw [if_neg (by decide), if_pos rfl]
    · show (if _ then _ else _) = _
      rw [if_pos rfl]
    · rw [gl]; exact x1
    · rw [gl]; exact y1
    · rw [gl]; decide
    · intro p hp
      simp only [List.mem_cons] at hp
      rcases hp with rfl | rfl | rfl | rfl | rfl | hp
      · exact ln2.symm
      · exact lne.2.2.2.symm
      · exact lne.2.2.1.symm
      · exact lne.2.1.symm
      · exact lne.1.symm
      · exact hne p hp
    · refine wpAny_execs_nil (TurnEnd.intro F4 (fun p hp => N4 p ?_) (fun p hp => ?_) ⟨vs', ns', n', fun z z1 z2 => ?_, hi4, ?_, rfl⟩)
      · simp only [List.mem_cons] at hp ⊢
        rcases hp with h | h | h
        · exact .inr (.inl h)
        · exact .inl h
        · exact .inr (.inr h)
      · rcases List.mem_cons.mp hp with rfl | hp
        · exact ln2
        · exact off2 p (List.mem_cons_of_mem _ hp)
      · show (if _ then _ else _) = _
        rw [if_neg z2, if_neg z1]
        exact hm' z z1 z2
      · rw [hsn]
        exact hps.snoc hp4
  · rintro m' nx h tk ⟨vs, ns, nn, hm', hvs, hps, rfl⟩ F2 N2
    refine hQ m' vs ns nn h tk hm' hvs ?_ F2 fun p hp => N2 p ?_
    · rwa [List.take_of_length_le (Nat.le_refl 3)] at hps
    · rcases List.mem_cons.mp hp with rfl | hp
      · exact List.mem_cons_self
      · exact List.mem_cons_of_mem _ (List.mem_cons_of_mem _ (List.mem_cons_of_mem _ (List.mem_cons_of_mem _ (List.mem_cons_of_mem _ hp))))
end
end Mine
end
section
open PySem PySem.W PyProof.Rows PySem.Calls PySem.Spec PyProof.Rows.LCg
set_option maxRecDepth 100000
namespace Mine
example (w : World) (h : Heap) : (Mine.hd.heap_39 w.params).In h → rprog = PySem.Challenge.rw_wy0014_01.prog → True := by
  k_fill
  intros; trivial
theorem WaysIn.more {news news' : List (Addr × Obj)} {lw : Addr} (W : WaysIn news lw) (k : ∀ p ∈ news, p ∈ news') : WaysIn news' lw := by
  obtain ⟨l0, l1, l2, l3, v0, v1, v2, v3, n, n0, n1, n2, n3, m, m0, m1, m2, m3, i⟩ := W
  exact ⟨l0, l1, l2, l3, v0, v1, v2, v3, n, n0, n1, n2, n3, k _ m, k _ m0, k _ m1, k _ m2, k _ m3, i⟩
theorem tops_trip : ∀ i : Nat, i < 20 → topsOf ((0 : Int) + i) = [(trip ((0 : Int) + i)).1, (trip ((0 : Int) + i)).2.1, (trip ((0 : Int) + i)).2.2] := by decide
theorem tops_bound : ∀ i : Nat, i < 20 → (topsOf ((0 : Int) + i)).length = 3 ∧ ∀ j, j < 3 → 0 ≤ (topsOf ((0 : Int) + i)).getD j 0 ∧ (topsOf ((0 : Int) + i)).getD j 0 < 8 := by decide
/-- the numbers of the pairs within the first sets -/
noncomputable def allNums (n : Nat) : List Int := (List.range n).flatMap fun (i : Nat) => pairNums (topsOf ((0 : Int) + i))
theorem allNums_succ (n : Nat) : allNums (n + 1) = allNums n ++ pairNums (topsOf ((0 : Int) + n)) := by unfold allNums; rw [List.range_succ, List.flatMap_append]; simp
theorem Puts.app {xs ys ns ns' ns'' : List Int} (h : Puts xs ns ns') (k : Puts ys ns' ns'') : Puts (xs ++ ys) ns ns'' := by
  refine ⟨k.1, fun z => ?_, ?_⟩
  · rw [k.2.1 z, h.2.1 z, List.mem_append, or_assoc]
  · have h1 := h.2.2
    have h2 := k.2.2
    rw [List.length_append]
    lia
theorem allNums_len : ∀ n, n ≤ 12 → (allNums n).length ≤ 36 := by decide
section
variable {w : World} {mean : ExcName → Option Value} {mg mb : Str → Option Value} {g : Heap} {L a : Addr} {ccd : Value} {s : Shared} {m : Str → Option Value} {news : List (Addr × Obj)} {Q : Flow → Shared → Prop} {E : Value → Shared → Prop}

set_option maxHeartbeats 4000000 in
theorem la_firsts {lf lfam lt lw : Addr} {oc : Obj} {vf vt v0 : List Value} {nf nt n0 : Nat} {fam : List Int} (hfst : m (Str.ofString "first") = some (.ref lf)) (h0 : IntsAre v0 []) (hne : ∀ p ∈ news, p.1 ≠ lf) (hf : m (Str.ofString "family") = some (.ref lfam)) (hfm : (lfam, listOf vf.toArray nf) ∈ news) (hfi : IntsAre vf fam) (hl : fam.length ≤ 12) (hw : m (Str.ofString "ways") = some (.ref lw)) (hW : WaysIn news lw) (hc : (L + 1, oc) ∈ news) (hcd : oc.data = .cell (some (.ref lt))) (htm : (lt, listOf vt.toArray nt) ∈ news) (hT : TriAre news vt (rowC 6)) {base : Heap} (B : Below callerA base [] g)
   (X : (Mine.hd.heap_39 w.params).In g) (T : Top Mine.hd.view_39 lo mean mg mb g) (F : Fr g L s.heap m) (N : News g L s.heap ((lf, listOf v0.toArray n0) :: news))
   (hQ : ∀ m' vs ns nn h' tk', (∀ z, z ≠ (Str.ofString "rank") → z ≠ (Str.ofString "tops") → z ≠ (Str.ofString "high") → z ≠ (Str.ofString "low") → m' z = m z) → IntsAre vs ns → Puts (allNums fam.length) [] ns → Fr g L h' m' → News g L h' ((lf, listOf (List.toArray vs) nn) :: news) → Q .next { s with heap := h', toks := tk' }) :
   wpAny (model rprog w) (callerA.deeper (envOfC (Str.ofString "law") lawScope L a ccd)) (exec (lawS 10) (envOfC (Str.ofString "law") lawScope L a ccd)) Q E s := by
  show wpAny _ _ (exec (Stmt.For (PySem.Expr.Name _ _) _ _ _ _) _) _ _ _
  refine for_range (h₀ := g) rfl (fun I v => rfl) ?_ (by intro _; rfl)
  refine fi_range hf (List.mem_cons_of_mem _ hfm) hfi (by lia) X T F N fun r t u v h1 tk1 hr F1 N1 => ?_
  obtain ⟨q1, q2⟩ := small_rng (n := fam.length) (by lia)
  refine ⟨fun i m' nx => ∃ vs ns nn, (∀ z, z ≠ (Str.ofString "rank") → z ≠ (Str.ofString "tops") → z ≠ (Str.ofString "high") → z ≠ (Str.ofString "low") → m' z = m z) ∧ IntsAre vs ns ∧ Puts (allNums i) [] ns ∧ nx = (lf, listOf (List.toArray vs) nn) :: news,
    r, 0, fam.length, t, u, v, fam.length, m, _, rfl, hr, q1, q2, F1, N1, ⟨v0, [], n0, fun _ _ _ _ _ => rfl, h0, Puts.zero .nil, rfl⟩, ?_, ?_⟩
  · rintro i ti m' nx I oI h tk hi ⟨vs, ns, nn, hm', hvs, hps, rfl⟩ F2 N2 off2
    have hi20 : i < 20 := by lia
    have lfI : lf ≠ I := off2 (lf, listOf (List.toArray vs) nn) List.mem_cons_self
    refine assign_name F2 N2 rfl rfl fun h3 tk3 F3 N3 => ?_
    show wpAny _ _ (execs [fiB 0, fiB 1, fiB 2] _) _ _ _
    have up1 : ∀ p ∈ news, p ∈ (I, oI) :: (lf, listOf (List.toArray vs) nn) :: news := fun p hp => List.mem_cons_of_mem _ (List.mem_cons_of_mem _ hp)
    refine wpAny_execs_cons (fi_tops (s := { s with heap := h3, toks := tk3 }) (n := 0 + (i : Int)) (tn := ti) (lw := lw) (if_pos rfl) (by lia) ?_ (hW.more up1) B X T F3 N3 fun q vq nq h4 tk4 hqi F4 N4 neq => ?_)
    · show (if _ then _ else _) = _
      rw [if_neg (by decide), hm' _ (by decide) (by decide) (by decide) (by decide)]
      exact hw
    show wpAny _ _ (execs [fiB 1, fiB 2] _) _ _ _
    have up2 : ∀ p ∈ news, p ∈ (q, listOf (List.toArray vq) nq) :: (I, oI) :: (lf, listOf (List.toArray vs) nn) :: news := fun p hp => List.mem_cons_of_mem _ (up1 p hp)
    obtain ⟨tq, tc, tb, tz, htq, htm2⟩ := tri_get hT (i := ((0 : Int) + i).toNat) (by rw [rowC_len]; lia)
    refine wpAny_execs_cons (fi_same (s := { s with heap := h4, toks := tk4 }) (n := 0 + (i : Int)) (tn := ti) (lq := q) (lt := lt) (lp := tq) (vp := [_, _, _]) (ps := [_, _, _]) ?_ (by lia) (by lia) (if_pos rfl) List.mem_cons_self hqi (by rw [(tops_bound i hi20).1]; decide) (up2 _ hc) hcd (up2 _ htm) (by simpa using htq) (up2 _ htm2) (.cons _ _ (.cons _ _ (.cons _ _ .nil))) (tops_trip i hi20) X T F4 N4 fun h5 tk5 F5 N5 => ?_)
    · show (if _ then _ else _) = _
      rw [if_neg (by decide), if_pos rfl]
    show wpAny _ _ (execs [fiB 2] _) _ _ _
    have N6 : News g L h5 ((lf, listOf (List.toArray vs) nn) :: (q, listOf (List.toArray vq) nq) :: (I, oI) :: news) := by
      intro p hp
      refine N5 p ?_
      simp only [List.mem_cons] at hp ⊢
      rcases hp with h | h | h | h
      · exact .inr (.inr (.inl h))
      · exact .inl h
      · exact .inr (.inl h)
      · exact .inr (.inr (.inr h))
    obtain ⟨l0, l1, l2, l3, w0, w1, w2, w3, k, k0, k1, k2, k3, mm, mm0, mm1, mm2, mm3, i0, i1, i2, i3⟩ := hW
    have up3 : ∀ p ∈ news, p ∈ (q, listOf (List.toArray vq) nq) :: (I, oI) :: news := fun p hp => List.mem_cons_of_mem _ (List.mem_cons_of_mem _ hp)
    have lqf := neq (lf, listOf (List.toArray vs) nn) (List.mem_cons_of_mem _ List.mem_cons_self)
    refine wpAny_execs_cons (fi_put (s := { s with heap := h5, toks := tk5 }) ?_ ?_ (up3 _ mm) (up3 _ mm2) i2 (if_pos rfl) List.mem_cons_self hqi (tops_bound i hi20).1 (tops_bound i hi20).2 hvs ?_ hps.1 ?_ B X T F5 N6 fun m7 vs7 ns7 n7 h7 tk7 hm7 hi7 hp7 F7 N7 => ?_)
    · show (if _ then _ else _) = _
      rw [if_neg (by decide)]
      show (if _ then _ else _) = _
      rw [if_neg (by decide), hm' _ (by decide) (by decide) (by decide) (by decide)]
      exact hfst
    · show (if _ then _ else _) = _
      rw [if_neg (by decide)]
      show (if _ then _ else _) = _
      rw [if_neg (by decide), hm' _ (by decide) (by decide) (by decide) (by decide)]
      exact hw
    · have e1 := hps.2.2
      have e2 := allNums_len i (by lia)
      simp only [List.length_nil] at e1
      lia
    · intro p hp
      simp only [List.mem_cons] at hp
      rcases hp with rfl | rfl | hp
      · exact lqf.symm
      · exact lfI.symm
      · exact hne p hp
    refine wpAny_execs_nil (TurnEnd.intro F7 (nx := (lf, listOf (List.toArray vs7) n7) :: news) (fun p hp => N7 p ?_) (fun p hp => ?_) ⟨vs7, ns7, n7, fun z z1 z2 z3 z4 => ?_, hi7, ?_, rfl⟩)
    · simp only [List.mem_cons] at hp ⊢
      rcases hp with h | h | h
      · exact .inr (.inr (.inl h))
      · exact .inl h
      · exact .inr (.inr (.inr h))
    · rcases List.mem_cons.mp hp with rfl | hp
      · exact lfI
      · exact off2 p (List.mem_cons_of_mem _ hp)
    · rw [hm7 z z3 z4]
      show (if _ then _ else _) = _
      rw [if_neg z2]
      show (if _ then _ else _) = _
      rw [if_neg z1]
      exact hm' z z1 z2 z3 z4
    · rw [allNums_succ]
      exact hps.app hp7
  · rintro m' nx h tk ⟨vs, ns, nn, hm', hvs, hps, rfl⟩ F2 N2
    exact hQ m' vs ns nn h tk hm' hvs hps F2 N2
end
end Mine
end
section
open PySem PySem.W PyProof.Rows PySem.Calls PySem.Spec PyProof.Rows.LCg
set_option maxRecDepth 100000
namespace Mine
local macro_rules | `(tactic| k_mem) => `(tactic| assumption)
local macro_rules | `(tactic| k_all) => `(tactic| assumption)
noncomputable def prs (p : Int × Int × Int) : List Int := [10 * p.1 + p.2.1, 10 * p.1 + p.2.2, 10 * p.2.1 + p.2.2]
/-- the sides seen in the first i triples -/
noncomputable def seenAt (i : Nat) : List Int := (List.range i).foldl (fun ns j => (prs ((rowC 6).getD j (0, 0, 0))).foldl addTo ns) []
noncomputable def cntAt (i : Nat) : List Int := 0 :: (List.range i).map fun j => ((seenAt (j + 1)).length : Int)
theorem seen_succ (i : Nat) : seenAt (i + 1) = (prs ((rowC 6).getD i (0, 0, 0))).foldl addTo (seenAt i) := by unfold seenAt; rw [List.range_succ, List.foldl_append]; rfl
theorem cnt_succ (i : Nat) : cntAt (i + 1) = cntAt i ++ [((seenAt (i + 1)).length : Int)] := by unfold cntAt; rw [List.range_succ, List.map_append]; rfl
theorem addTo_len (ns : List Int) (x : Int) : (addTo ns x).length ≤ ns.length + 1 := by
  unfold addTo; split
  · lia
  · simp
theorem add_len : ∀ (xs ns : List Int), (xs.foldl addTo ns).length ≤ ns.length + xs.length
  | [], ns => by simp
  | x :: xs, ns => by
    have h1 := add_len xs (addTo ns x)
    have h2 := addTo_len ns x
    simp only [List.foldl_cons, List.length_cons]
    lia
theorem seen_few : ∀ i, i ≤ 20 → (seenAt i).length ≤ 20 := by decide
theorem cnt_len (i : Nat) : (cntAt i).length = i + 1 := by simp [cntAt]
theorem trip_bound : ∀ i, i < 20 → 0 ≤ ((rowC 6).getD i (0, 0, 0)).1 ∧ ((rowC 6).getD i (0, 0, 0)).1 < 6 ∧ 0 ≤ ((rowC 6).getD i (0, 0, 0)).2.1 ∧ ((rowC 6).getD i (0, 0, 0)).2.1 < 6 ∧ 0 ≤ ((rowC 6).getD i (0, 0, 0)).2.2 ∧ ((rowC 6).getD i (0, 0, 0)).2.2 < 6 := by decide
/-- the triples, as the caller keeps them -/
noncomputable def TriIn (h : Heap) (vt : List Value) : Prop := ∀ i, i < 20 → ∃ q t1 t2 t3, vt[i]? = some (.ref q) ∧ IsTup h q #[.int ((rowC 6).getD i (0, 0, 0)).1 t1, .int ((rowC 6).getD i (0, 0, 0)).2.1 t2, .int ((rowC 6).getD i (0, 0, 0)).2.2 t3]
section
variable {prog : Program} {w : World} {A : Around} {E : Value → Shared → Prop} {s : Shared} {env : Env} {h₀ : Heap} {m : Str → Option Value} {news : List (Addr × Obj)}
theorem assign_three_at {x x₂ x₃ : Str} {px px₂ px₃ tp : Pos} {k} {t : Addr} {v₁ v₂ v₃ : Value} {Q : Unit → Shared → Prop} (hh : A.handled = none) (F : Fr h₀ env.locals s.heap m) (N : News h₀ env.locals s.heap news) (hx : env.kindOf x = some .local) (hx₂ : env.kindOf x₂ = some .local) (hx₃ : env.kindOf x₃ = some .local) (hp : (env.scope.kind == .class || (env.scope.kind == .module && env.locals != env.globals)) = false)
    (ht' : IsTup s.heap t #[v₁, v₂, v₃])
    (h : ∀ h' tk', Fr h₀ env.locals h' (fun z => if z = x₃ then some v₃ else if z = x₂ then some v₂ else if z = x then some v₁ else m z) → News h₀ env.locals h' news → Q () { s with heap := h', toks := tk' }) : wpAny (model prog w) A (assign (.Tuple [.Name x px, .Name x₂ px₂, .Name x₃ px₃] k tp) env (.ref t)) Q E s := by
  refine assign_Tuple_tuple hh ht' rfl rfl fun h₅ he => ?_
  have he' : ∀ b o, s.heap.get? b = some o → h₅.get? b = some o := fun b o e => he b o (Nat.ne_of_lt (Heap.lt_size e)) e
  refine assignInOrder_cons (wpAny_assign_Name (store_own (F.keeps he') (N.grown he') hx hp fun h₆ F₆ N₆ => ?_))
  refine assignInOrder_cons (wpAny_assign_Name (store_own F₆ N₆ hx₂ hp fun h₇ F₇ N₇ => ?_))
  refine assignInOrder_cons (wpAny_assign_Name (store_own F₇ N₇ hx₃ hp fun h₈ F₈ N₈ => ?_))
  exact assignInOrder_nil (h h₈ _ F₈ N₈)
theorem go_nameT {x : Str} {px : Pos} : ∀ I t i (s' : Shared) v (Q' : Unit → Shared → Prop) (E' : Value → Shared → Prop), s'.heap.IsTupleIter I t i → Q' () s' → wpAny (model prog w) A (letOwnedTupleGo (.Name x px) (.ref I) v) Q' E' s' :=
  fun I t i s' v Q' E' st q => wpAny_pure q
end
section
variable {w : World} {mean : ExcName → Option Value} {mg mb : Str → Option Value} {A : Around} {g : Heap} {L : Addr} {s : Shared} {m : Str → Option Value} {news : List (Addr × Obj)} {Q : Flow → Shared → Prop} {E : Value → Shared → Prop}

set_option maxHeartbeats 4000000 in
theorem cn_inner (hh : A.handled = none) {ls : Addr} {vs : List Value} {nn : Nat} {ns : List Int} {c b z : Int} {tc tb tz : Tok} (hc : m (Str.ofString "c") = some (.int c tc)) (hb : m (Str.ofString "b") = some (.int b tb)) (hz : m (Str.ofString "a") = some (.int z tz)) (c0 : 0 ≤ c) (c1 : c < 6) (b0 : 0 ≤ b) (b1 : b < 6) (z0 : 0 ≤ z) (z1 : z < 6) (hs : m (Str.ofString "seen") = some (.ref ls)) (hi : IntsAre vs ns) (hl : ns.length ≤ 60) (hne : ∀ p ∈ news, p.1 ≠ ls)
   (X : (Mine.hd.heap_39 w.params).In g) (T : Top Mine.hd.view_39 lo mean mg mb g) (F : Fr g L s.heap m) (N : News g L s.heap ((ls, listOf vs.toArray nn) :: news))
   (hQ : ∀ m' vs' nn' h' tk', (∀ y, y ≠ (Str.ofString "side") → m' y = m y) → IntsAre vs' ((prs (c, b, z)).foldl addTo ns) → Fr g L h' m' → News g L h' ((ls, listOf (List.toArray vs') nn') :: news) → Q .next { s with heap := h', toks := tk' }) :
   wpAny (model rprog w) A (exec (cnB 0) (cnE L)) Q E s := by
  show wpAny _ _ (exec (Stmt.For _ _ _ _ _) _) _ _ _
  refine for_tuple (h₀ := g) hh go_nameT ?_ (by intro _; rfl)
  refine cn_iter hc hb hz c0 c1 b0 b1 z0 z1 X T F N fun D t1 t2 t3 h1 tk1 F1 N1 ne1 => ?_
  refine ⟨fun i m' nx => ∃ vs ns' nn, (∀ y, y ≠ (Str.ofString "side") → m' y = m y) ∧ IntsAre vs ns' ∧ ns' = ((prs (c, b, z)).take i).foldl addTo ns ∧
      nx = (ls, listOf (List.toArray vs) nn) :: (D, ({ cls := .type "tuple", data := .seq #[.int (10 * c + b) t1, .int (10 * c + z) t2, .int (10 * b + z) t3] } : Obj)) :: news,
    D, #[.int (10 * c + b) t1, .int (10 * c + z) t2, .int (10 * b + z) t3], m, _, rfl, F1, ?_, ?_, ⟨vs, ns, nn, fun _ _ => rfl, hi, rfl, rfl⟩, ?_, ?_⟩
  · intro p hp
    refine N1 p ?_
    simp only [List.mem_cons] at hp ⊢
    rcases hp with h | h | h
    · exact .inr (.inl h)
    · exact .inl h
    · exact .inr (.inr h)
  · rintro i m' nx ⟨vs, ns', nn, _, _, _, rfl⟩
    exact ⟨_, List.mem_cons_of_mem _ List.mem_cons_self, rfl, _, rfl⟩
  · rintro i v m' nx I oI h tk hi3 hv ⟨vs2, ns2, nn2, hm', hvs, hns, rfl⟩ F2 N2 off2
    have ln2 := off2 (ls, listOf (List.toArray vs2) nn2) List.mem_cons_self
    have lnD := ne1 (ls, listOf vs.toArray nn) List.mem_cons_self
    have hlen : ns2.length ≤ 99 := by
      have e1 := add_len ((prs (c, b, z)).take i) ns
      have e2 : ((prs (c, b, z)).take i).length ≤ 3 := by rw [List.length_take]; exact Nat.min_le_right _ _
      rw [← hns] at e1
      lia
    obtain ⟨x, t, rfl, hx⟩ : ∃ x t, v = .int x t ∧ (prs (c, b, z)).take (i + 1) = (prs (c, b, z)).take i ++ [x] := by
      rcases three_items hi3 hv with ⟨rfl, rfl⟩ | ⟨rfl, rfl⟩ | ⟨rfl, rfl⟩
      · exact ⟨_, _, rfl, rfl⟩
      · exact ⟨_, _, rfl, rfl⟩
      · exact ⟨_, _, rfl, rfl⟩
    refine assign_name F2 N2 rfl rfl fun h3 tk3 F3 N3 => ?_
    show wpAny _ _ (execs [cnP] _) _ _ _
    have N3' : News g L h3 ((ls, listOf (List.toArray vs2) nn2) :: (I, oI) :: (D, ({ cls := .type "tuple", data := .seq #[.int (10 * c + b) t1, .int (10 * c + z) t2, .int (10 * b + z) t3] } : Obj)) :: news) := by
      intro p hp
      refine N3 p ?_
      simp only [List.mem_cons] at hp ⊢
      rcases hp with h | h | h
      · exact .inr (.inl h)
      · exact .inl h
      · exact .inr (.inr h)
    refine wpAny_execs_cons (cn_put (x := x) (tx := t) (s := { s with heap := h3, toks := tk3 }) ?_ (if_pos rfl) hvs hlen ?_ X T F3 N3' fun vs4 nn4 h4 tk4 hi4 F4 N4 => ?_)
    · show (if _ then _ else _) = _
      rw [if_neg (by decide), hm' _ (by decide)]
      exact hs
    · intro p hp
      simp only [List.mem_cons] at hp
      rcases hp with rfl | rfl | hp
      · exact ln2.symm
      · exact lnD.symm
      · exact hne p hp
    · refine wpAny_execs_nil (TurnEnd.intro F4 (fun p hp => N4 p ?_) (fun p hp => ?_) ⟨vs4, addTo ns2 x, nn4, fun y y1 => ?_, hi4, ?_, rfl⟩)
      · simp only [List.mem_cons] at hp ⊢
        rcases hp with h | h | h
        · exact .inr (.inl h)
        · exact .inl h
        · exact .inr (.inr h)
      · rcases List.mem_cons.mp hp with rfl | hp
        · exact ln2
        · exact off2 p (List.mem_cons_of_mem _ hp)
      · show (if _ then _ else _) = _
        rw [if_neg y1]
        exact hm' y y1
      · rw [hx, List.foldl_append, hns]
        rfl
  · rintro m' nx h tk ⟨vs2, ns2, nn2, hm', hvs, hns, rfl⟩ F2 N2
    refine hQ m' vs2 nn2 h tk hm' ?_ F2 fun p hp => N2 p ?_
    · rw [hns] at hvs
      rwa [List.take_of_length_le (Nat.le_refl 3)] at hvs
    · rcases List.mem_cons.mp hp with rfl | hp
      · exact List.mem_cons_self
      · exact List.mem_cons_of_mem _ (List.mem_cons_of_mem _ hp)
end
section
variable {w : World} {mean : ExcName → Option Value} {mg mb : Str → Option Value} {A : Around} {g : Heap} {L : Addr} {s : Shared} {m : Str → Option Value} {news : List (Addr × Obj)} {Q : Flow → Shared → Prop} {E : Value → Shared → Prop}

set_option maxHeartbeats 4000000 in
theorem cn_outer (hh : A.handled = none) {lt ls lc : Addr} {vt vs vc : List Value} {nn nc : Nat} (ht : m (Str.ofString "triples") = some (.ref lt)) (hT : g.IsList lt vt.toArray) (hTl : vt.length = 20) (hTr : TriIn g vt) (hs : m (Str.ofString "seen") = some (.ref ls)) (hc : m (Str.ofString "counts") = some (.ref lc)) (hi : IntsAre vs []) (hci : IntsAre vc [0]) (hsc : ls ≠ lc) (hne : ∀ p ∈ news, p.1 ≠ ls ∧ p.1 ≠ lc)
   (X : (Mine.hd.heap_39 w.params).In g) (T : Top Mine.hd.view_39 lo mean mg mb g) (F : Fr g L s.heap m) (N : News g L s.heap ((lc, listOf vc.toArray nc) :: (ls, listOf vs.toArray nn) :: news))
   (hQ : ∀ m' vs' nn' vc' nc' h' tk', m' (Str.ofString "counts") = some (.ref lc) → IntsAre vc' (cntAt 20) → Fr g L h' m' → News g L h' ((lc, listOf (List.toArray vc') nc') :: (ls, listOf (List.toArray vs') nn') :: news) → Q .next { s with heap := h', toks := tk' }) :
   wpAny (model rprog w) A (exec (cnS 2) (cnE L)) Q E s := by
  show wpAny _ _ (exec (Stmt.For _ _ _ _ _) _) _ _ _
  refine for_list (h₀ := g) hh go_listP ?_ (by intro _; rfl)
  refine name_any F ht ?_ rfl rfl (by decide)
  refine ⟨fun i m' nx => ∃ vs nn vc nc, m' (Str.ofString "seen") = some (.ref ls) ∧ m' (Str.ofString "counts") = some (.ref lc) ∧ IntsAre vs (seenAt i) ∧ IntsAre vc (cntAt i) ∧
      nx = (lc, listOf (List.toArray vc) nc) :: (ls, listOf (List.toArray vs) nn) :: news,
    lt, vt.toArray, m, _, rfl, F, N, ?_, ⟨vs, nn, vc, nc, hs, hc, hi, hci, rfl⟩, ?_, ?_⟩
  · rintro i m' nx ⟨_, _, _, _, _, _, _, _, rfl⟩
    exact .inl hT
  · rintro i v m' nx I oI h tk hi3 hv ⟨vs2, nn2, vc2, nc2, hs', hc', hvs, hvc, rfl⟩ F2 N2 off2
    have hi20 : i < 20 := by simpa [hTl] using hi3
    obtain ⟨q, t1, t2, t3, hq, hqt⟩ := hTr i hi20
    obtain rfl : v = .ref q := by
      have : vt[i]? = some v := by simpa using hv
      rw [hq] at this
      exact (Option.some.inj this).symm
    obtain ⟨c0, c1, b0, b1, z0, z1⟩ := trip_bound i hi20
    have lnc := off2 (lc, listOf (List.toArray vc2) nc2) List.mem_cons_self
    have lns := off2 (ls, listOf (List.toArray vs2) nn2) (List.mem_cons_of_mem _ List.mem_cons_self)
    obtain ⟨o, ho, hor⟩ := id hqt
    refine assign_three_at hh F2 N2 rfl rfl rfl rfl ⟨o, F2.keep _ _ ho, hor⟩ fun h3 tk3 F3 N3 => ?_
    show wpAny _ _ (execs [cnB 0, cnB 1] _) _ _ _
    have N3' : News g L h3 ((ls, listOf (List.toArray vs2) nn2) :: (I, oI) :: (lc, listOf (List.toArray vc2) nc2) :: news) := by
      intro p hp
      refine N3 p ?_
      simp only [List.mem_cons] at hp ⊢
      rcases hp with h | h | h | h
      · exact .inr (.inr (.inl h))
      · exact .inl h
      · exact .inr (.inl h)
      · exact .inr (.inr (.inr h))
    refine wpAny_execs_cons (cn_inner (s := { s with heap := h3, toks := tk3 }) hh (c := ((rowC 6).getD i (0, 0, 0)).1) (b := ((rowC 6).getD i (0, 0, 0)).2.1) (z := ((rowC 6).getD i (0, 0, 0)).2.2) (tc := t1) (tb := t2) (tz := t3) ?_ ?_ (if_pos rfl) c0 c1 b0 b1 z0 z1 ?_ hvs (Nat.le_trans (seen_few i (by lia)) (by decide)) ?_ X T F3 N3' fun m4 vs4 nn4 h4 tk4 hm4 hi4 F4 N4 => ?_)
    · show (if _ then _ else if _ then _ else _) = _
      rw [if_neg (by decide), if_neg (by decide), if_pos rfl]
    · show (if _ then _ else _) = _
      rw [if_neg (by decide), if_pos rfl]
    · show (if _ then _ else if _ then _ else if _ then _ else _) = _
      rw [if_neg (by decide), if_neg (by decide), if_neg (by decide)]
      exact hs'
    · intro p hp
      simp only [List.mem_cons] at hp
      rcases hp with rfl | rfl | hp
      · exact lns.symm
      · exact hsc.symm
      · exact (hne p hp).1
    rw [show (prs (((rowC 6).getD i (0, 0, 0)).1, ((rowC 6).getD i (0, 0, 0)).2.1, ((rowC 6).getD i (0, 0, 0)).2.2)).foldl addTo (seenAt i) = seenAt (i + 1) from (seen_succ i).symm] at hi4
    show wpAny _ _ (execs [cnB 1] _) _ _ _
    have N4' : News g L h4 ((lc, listOf (List.toArray vc2) nc2) :: (ls, listOf (List.toArray vs4) nn4) :: (I, oI) :: news) := by
      intro p hp
      refine N4 p ?_
      simp only [List.mem_cons] at hp ⊢
      rcases hp with h | h | h | h
      · exact .inr (.inr (.inl h))
      · exact .inl h
      · exact .inr (.inl h)
      · exact .inr (.inr (.inr h))
    refine wpAny_execs_cons (cn_app (s := { s with heap := h4, toks := tk4 }) (ls := ls) (lc := lc) ?_ ?_ List.mem_cons_self hi4 (Nat.le_trans (seen_few (i + 1) hi20) (by decide)) hvc ?_ ?_ X T F4 N4' fun vc5 nc5 h5 tk5 hi5 F5 N5 => ?_)
    · rw [hm4 _ (by decide)]
      show (if _ then _ else if _ then _ else if _ then _ else _) = _
      rw [if_neg (by decide), if_neg (by decide), if_neg (by decide)]
      exact hs'
    · rw [hm4 _ (by decide)]
      show (if _ then _ else if _ then _ else if _ then _ else _) = _
      rw [if_neg (by decide), if_neg (by decide), if_neg (by decide)]
      exact hc'
    · rw [hvc.length, cnt_len]; lia
    · intro p hp
      simp only [List.mem_cons] at hp
      rcases hp with rfl | rfl | hp
      · exact hsc
      · exact lnc.symm
      · exact (hne p hp).2
    · refine wpAny_execs_nil (TurnEnd.intro F5 (fun p hp => N5 p ?_) (fun p hp => ?_) ⟨vs4, nn4, vc5, nc5, ?_, ?_, hi4, by rw [cnt_succ]; exact hi5, rfl⟩)
      · simp only [List.mem_cons] at hp ⊢
        rcases hp with h | h | h | h
        · exact .inr (.inr (.inl h))
        · exact .inl h
        · exact .inr (.inl h)
        · exact .inr (.inr (.inr h))
      · simp only [List.mem_cons] at hp
        rcases hp with rfl | rfl | hp
        · exact lnc
        · exact lns
        · exact off2 p (List.mem_cons_of_mem _ (List.mem_cons_of_mem _ hp))
      · rw [hm4 _ (by decide)]
        show (if _ then _ else if _ then _ else if _ then _ else _) = _
        rw [if_neg (by decide), if_neg (by decide), if_neg (by decide)]
        exact hs'
      · rw [hm4 _ (by decide)]
        show (if _ then _ else if _ then _ else if _ then _ else _) = _
        rw [if_neg (by decide), if_neg (by decide), if_neg (by decide)]
        exact hc'
  · rintro m' nx h tk ⟨vs2, nn2, vc2, nc2, hs', hc', hvs, hvc, rfl⟩ F2 N2
    rw [show vt.toArray.size = 20 by simp [hTl]] at hvc
    exact hQ m' vs2 nn2 vc2 nc2 h tk hc' hvc F2 N2

set_option maxHeartbeats 4000000 in
theorem cn_ret {lc : Addr} (hc : m (Str.ofString "counts") = some (.ref lc))
   (X : (Mine.hd.heap_39 w.params).In g) (T : Top Mine.hd.view_39 lo mean mg mb g) (F : Fr g L s.heap m) (N : News g L s.heap news)
   (hQ : ∀ h' tk', Fr g L h' m → News g L h' news → Q (.ret (.ref lc)) { s with heap := h', toks := tk' }) :
   wpAny (model rprog w) A (exec (cnS 3) (cnE L)) Q E s := by
  show wpAny _ _ (exec (Stmt.Return (some _) _) _) _ _ _
  w_strict (k_steps)
  refine name_any F hc ?_ rfl rfl (by decide)
  exact hQ _ _ F N
end
example (w : World) (h : Heap) : (Mine.hd.heap_39 w.params).In h → rprog = PySem.Challenge.rw_wy0014_01.prog → True := by
  k_fill
  intros; trivial

set_option maxHeartbeats 4000000 in
theorem law_counts_spec {lt : Addr} {vt : List Value}  {w : World} {mean : ExcName → Option Value} {mg mb : Str → Option Value} {dp un : Nat} {gd : Option (List Code)} {cn : Str} {cs : Scope} {a : Addr} {ccd : Value} {cl : List (Str × Addr)} {outer : List Env} {A₀ : Around} {base h₀ : Heap} {L : Addr} {m : Str → Option Value} {news : List (Addr × Obj)} {s : Shared} {Q E : Value → Shared → Prop}
   (B : Below A₀ base outer h₀) (F : Fr h₀ L s.heap m) (X : (Mine.hd.heap_39 w.params).In h₀) (N : News h₀ L s.heap news) (T : Top Mine.hd.view_39 lo mean mg mb h₀) (hk : cs.kind = .function) (hdp : dp + 40 < recursionLimit) (hun : un + 500 < cLine)
   (hT : s.heap.IsList lt vt.toArray) (hTl : vt.length = 20) (hTr : TriIn s.heap vt)
   (hQ : ∀ q vs' n' h' tk', IntsAre vs' (cntAt 20) → Fr h₀ L h' m → News h₀ L h' ((q, listOf (List.toArray vs') n') :: news) → (∀ p ∈ news, p.1 ≠ q) → Q (.ref q) { s with heap := h', toks := tk' }) :
   wpAny (model rprog w) (ktrTop dp un gd cn cs L a ccd cl outer) (call (.ref 140) [.ref lt]) Q E s := by
  refine wpAny_call ?_
  k_dflt (refine' code_def0 ?zzk1 ?zzk2 ?zzk3 ?zzk5 ?zzkA ?zzkF ?zzkK ?zzk6 ?zzk7 ?zzk8 ?zzk9 ?zzkB ?_ ?zzc2 ?zzc3 ?zzc4 ?zzc5; (case zzkA => exact rfl); (case zzkF => exact rfl); (case zzkK => first | assumption | exact rfl); (case zzk1 => k_asm); (case zzk2 => k_asm); (case zzk3 => k_asm); (case zzk5 => k_asm); (case zzk6 => k_is); (case zzk7 => k_is); (case zzk8 => ktr_room); (case zzk9 => first | exact BindsTo.of_eq rfl | exact binds_K (by k_in) rfl (by k_is) rfl rfl rfl | (refine' kp_binds ?zzkx ?zzke; (case zzkx => k_in); (case zzke => exact fun _ => rfl))); (case zzc5 => decide); (case zzkB => exact locs rfl); (case zzc2 => exact rfl); (case zzc3 => exact rfl); (case zzc4 => exact rfl); k_whole; intro _ _ _ _ B' _ _; (try dsimp only); (try k_lift B'); (try k_fold))
  show wpAny _ _ (execs [cnS 0, cnS 1, cnS 2, cnS 3] _) _ _ _
  rename Fr s.heap _ _ _ => F1
  rename News s.heap _ _ _ => N1
  refine wpAny_execs_cons (cn_seen (by assumption) (by assumption) F1 N1 fun D h2 tk2 F2 N2 ne2 => ?_)
  show wpAny _ _ (execs [cnS 1, cnS 2, cnS 3] _) _ _ _
  refine wpAny_execs_cons (cn_counts (by assumption) (by assumption) F2 N2 fun D2 t2 h3 tk3 F3 N3 ne3 => ?_)
  show wpAny _ _ (execs [cnS 2, cnS 3] _) _ _ _
  refine wpAny_execs_cons (cn_outer (vs := []) (vc := [_]) rfl (if_neg (by decide)) hT hTl hTr ?_ (if_pos rfl) .nil (.cons _ _ .nil) (ne3 _ List.mem_cons_self) (fun _ h => absurd h List.not_mem_nil) (by assumption) (by assumption) F3 N3 fun m4 vs4 nn4 vc4 nc4 h4 tk4 hc4 hi4 F4 N4 => ?_)
  · rfl
  show wpAny _ _ (execs [cnS 3] _) _ _ _
  refine wpAny_execs_cons (cn_ret hc4 (by assumption) (by assumption) F4 N4 fun h5 tk5 F5 N5 => ?_)
  w_strict (k_steps)
  rename_i kF9 kN9 T9 X9 K9
  have q9 := kN9 _ (.head _)
  have q8 := N5 _ (.head _)
  refine hQ _ _ _ _ _ hi4 kF9 (News.push9 q9 (news_kept N K9)) (fun p hp e => ?_)
  rw [← e, (N p hp).1] at q8
  cases q8.2.2
end Mine
end
section
open PySem PySem.W PyProof.Rows PySem.Calls PySem.Spec PyProof.Rows.LCg
set_option maxRecDepth 100000
namespace Mine
theorem ite_ne {c : Prop} [Decidable c] {a b r : Option Value} (hc : ¬c) (h : b = r) : (if c then a else b) = r := (if_neg hc).trans h
theorem ite_eq {c : Prop} [Decidable c] {a b : Option Value} (hc : c) : (if c then a else b) = a := if_pos hc
theorem rot_all {P : Int → Prop} {a b c k0 k1 k2 : Int} (h : (k0 = a ∧ k1 = b ∧ k2 = c) ∨ (k0 = b ∧ k1 = c ∧ k2 = a) ∨ (k0 = c ∧ k1 = a ∧ k2 = b)) (ha : P a) (hb : P b) (hc : P c) : P k0 ∧ P k1 ∧ P k2 := by
  rcases h with ⟨rfl, rfl, rfl⟩ | ⟨rfl, rfl, rfl⟩ | ⟨rfl, rfl, rfl⟩
  · exact ⟨ha, hb, hc⟩
  · exact ⟨hb, hc, ha⟩
  · exact ⟨hc, ha, hb⟩
section
variable {w : World} {mean : ExcName → Option Value} {mg mb : Str → Option Value} {g : Heap} {L a : Addr} {ccd : Value} {s : Shared} {m : Str → Option Value} {news : List (Addr × Obj)} {Q : Flow → Shared → Prop}

set_option maxHeartbeats 8000000 in
theorem loop_body {lw ldr lfam lsh lt : Addr} {oc1 oc2 : Obj} {vdr vfam vsh vt : List Value} {ndr nfam nsh nt : Nat} {fam sh : List Int} {n0 : Int} {t0 : Tok} {K : List (Addr × Obj)}
   (hnum : m (Str.ofString "number") = some (.int n0 t0)) (hways : m (Str.ofString "ways") = some (.ref lw)) (hdr : m (Str.ofString "drawn") = some (.ref ldr)) (hfam : m (Str.ofString "family") = some (.ref lfam))
   (hW : WaysIn K lw) (hc1 : (L + 1, oc1) ∈ K) (hcd1 : oc1.data = .cell (some (.ref lt))) (hc2 : (L + 1 + 1, oc2) ∈ K) (hcd2 : oc2.data = .cell (some (.ref lsh))) (htm : (lt, listOf vt.toArray nt) ∈ K) (hT : TriAre K vt (rowC 6))
   (hdl : vdr.length ≤ 99) (hfi : IntsAre vfam fam) (hfl : fam.length ≤ 99) (hfs : fam.Pairwise (· < ·)) (hsi : IntsAre vsh sh) (hsl : sh.length ≤ 90) (hss : sh.Pairwise (· < ·))
   (ne1 : ldr ≠ lfam) (ne2 : ldr ≠ lsh) (ne3 : lfam ≠ lsh) (neK : ∀ p ∈ K, p.1 ≠ ldr ∧ p.1 ≠ lfam ∧ p.1 ≠ lsh)
   {base : Heap} (B : Below callerA base [] g) (XB : (Mine.hd.heap_39 w.params).In base) (TB : Top Mine.hd.view_39 lo mean mg mb base)
   (X : (Mine.hd.heap_39 w.params).In g) (T : Top Mine.hd.view_39 lo mean mg mb g) (F : Fr g L s.heap m) (N : News g L s.heap ((ldr, listOf vdr.toArray ndr) :: (lfam, listOf vfam.toArray nfam) :: (lsh, listOf vsh.toArray nsh) :: K))
   (hQ : ∀ m' vfam' fam' nfam' vsh' sh' nsh' t h' tk', m' (Str.ofString "ways") = some (.ref lw) → m' (Str.ofString "drawn") = some (.ref ldr) → m' (Str.ofString "family") = some (.ref lfam) → IntsAre vfam' fam' → PutTo ((n0.fmod 57600).fmod 20) fam fam' → IntsAre vsh' sh' → Puts (pairNums (topsOf ((n0.fmod 57600).fmod 20))) sh sh' → Fr g L h' m' →
     News g L h' ((ldr, listOf (List.toArray (vdr ++ [.int ((n0.fmod 57600).fmod 20) t])) (ndr + 1)) :: (lfam, listOf (List.toArray vfam') nfam') :: (lsh, listOf (List.toArray vsh') nsh') :: K) → Q .next { s with heap := h', toks := tk' }) :
   wpAny (model rprog w) (callerA.deeper (envOfC (Str.ofString "law") lawScope L a ccd)) (execs (bodyOf (lawS 5)) (envOfC (Str.ofString "law") lawScope L a ccd)) Q NoE' s := by
  have n1 : 0 ≤ (n0.fmod 57600) := (fmod_lt n0 (b := 57600) (by decide)).1
  have n2 : (n0.fmod 57600) < 57600 := (fmod_lt n0 (b := 57600) (by decide)).2
  have r0 : 0 ≤ ((n0.fmod 57600).fmod 20) := (fmod_lt (n0.fmod 57600) (b := 20) (by decide)).1
  have r1 : ((n0.fmod 57600).fmod 20) < 20 := (fmod_lt (n0.fmod 57600) (b := 20) (by decide)).2
  have d0 : 0 ≤ ((n0.fmod 57600).fdiv 20) := Int.fdiv_nonneg n1 (by decide)
  have rn : ((((n0.fmod 57600).fmod 20)).toNat : Int) = ((n0.fmod 57600).fmod 20) := Int.toNat_of_nonneg r0
  have ri : (((n0.fmod 57600).fmod 20)).toNat < 20 := by omega
  have htops := tops_trip _ ri
  have tl := tops_bound _ ri
  rw [Int.zero_add, rn] at htops tl
  obtain ⟨tq, ta, tb, tc, htq, htp⟩ := tri_get hT (i := (((n0.fmod 57600).fmod 20)).toNat) (by rw [rowC_len]; exact ri)
  have htq2 : vt.toArray[((n0.fmod 57600).fmod 20).toNat]? = some (.ref tq) := by simpa using htq
  have tbd := trip_bound _ ri
  have td := trip_down _ ri
  change topsOf ((n0.fmod 57600).fmod 20) = [((rowC 6).getD (((n0.fmod 57600).fmod 20)).toNat (0, 0, 0)).1, ((rowC 6).getD (((n0.fmod 57600).fmod 20)).toNat (0, 0, 0)).2.1, ((rowC 6).getD (((n0.fmod 57600).fmod 20)).toNat (0, 0, 0)).2.2] at htops
  generalize ((rowC 6).getD (((n0.fmod 57600).fmod 20)).toNat (0, 0, 0)).1 = A1 at *
  generalize ((rowC 6).getD (((n0.fmod 57600).fmod 20)).toNat (0, 0, 0)).2.1 = A2 at *
  generalize ((rowC 6).getD (((n0.fmod 57600).fmod 20)).toNat (0, 0, 0)).2.2 = A3 at *
  have hns : ∀ c ∈ [A1, A2, A3], 0 ≤ c ∧ c < 6 := by
    intro c hc
    simp only [List.mem_cons, List.not_mem_nil, or_false] at hc
    omega
  have kk : ∀ {p : Addr × Obj} {x y z : Addr × Obj}, p ∈ K → p ∈ x :: y :: z :: K := fun hp => List.mem_cons_of_mem _ (List.mem_cons_of_mem _ (List.mem_cons_of_mem _ hp))
  show wpAny _ _ (execs [loopS 0, loopS 1, loopS 2, loopS 3, loopS 4, loopS 5, loopS 6, loopS 7, loopS 8, loopS 9, loopS 10, loopS 11, loopS 12, loopS 13, loopS 14, loopS 15, loopS 16, loopS 17, loopS 18, loopS 19, loopS 20, loopS 21, loopS 22, loopS 23, loopS 24, loopS 25] _) _ _ _
  refine wpAny_execs_cons (st_told (s := s) (n := n0) (t := t0) (hnum) X T F N fun t1 h1 tk1 F1 N1 => ?_)
  show wpAny _ _ (execs [loopS 1, loopS 2, loopS 3, loopS 4, loopS 5, loopS 6, loopS 7, loopS 8, loopS 9, loopS 10, loopS 11, loopS 12, loopS 13, loopS 14, loopS 15, loopS 16, loopS 17, loopS 18, loopS 19, loopS 20, loopS 21, loopS 22, loopS 23, loopS 24, loopS 25] _) _ _ { s with heap := h1, toks := tk1 }
  refine wpAny_execs_cons (st_rank (s := { s with heap := h1, toks := tk1 }) (n := (n0.fmod 57600)) (t := t1) (ite_eq rfl) X T F1 N1 fun t2 h2 tk2 F2 N2 => ?_)
  show wpAny _ _ (execs [loopS 2, loopS 3, loopS 4, loopS 5, loopS 6, loopS 7, loopS 8, loopS 9, loopS 10, loopS 11, loopS 12, loopS 13, loopS 14, loopS 15, loopS 16, loopS 17, loopS 18, loopS 19, loopS 20, loopS 21, loopS 22, loopS 23, loopS 24, loopS 25] _) _ _ { s with heap := h2, toks := tk2 }
  refine wpAny_execs_cons (st_dress (s := { s with heap := h2, toks := tk2 }) (n := (n0.fmod 57600)) (t := t1) (ite_ne (by decide) (ite_eq rfl)) X T F2 N2 fun t3 h3 tk3 F3 N3 => ?_)
  show wpAny _ _ (execs [loopS 3, loopS 4, loopS 5, loopS 6, loopS 7, loopS 8, loopS 9, loopS 10, loopS 11, loopS 12, loopS 13, loopS 14, loopS 15, loopS 16, loopS 17, loopS 18, loopS 19, loopS 20, loopS 21, loopS 22, loopS 23, loopS 24, loopS 25] _) _ _ { s with heap := h3, toks := tk3 }
  refine wpAny_execs_cons (st_app (s := { s with heap := h3, toks := tk3 }) (n := ((n0.fmod 57600).fmod 20)) (t := t2) (ite_ne (by decide) (ite_eq rfl)) (ld := ldr) (vd := vdr) (nd := ndr) (ite_ne (by decide) (ite_ne (by decide) (ite_ne (by decide) (hdr)))) (by omega) (by intro p hp; simp only [List.mem_cons] at hp; rcases hp with rfl | rfl | hp <;> first | exact ne1.symm | exact ne2.symm | exact (neK p hp).1) X T F3 N3 fun h4 tk4 F4 N4 => ?_)
  have N4 : News g L h4 ((ldr, listOf (List.toArray (vdr ++ [.int ((n0.fmod 57600).fmod 20) t2])) (ndr + 1)) :: (lfam, listOf vfam.toArray nfam) :: (lsh, listOf vsh.toArray nsh) :: K) := by
    have e : (List.toArray (vdr ++ [.int ((n0.fmod 57600).fmod 20) t2])) = vdr.toArray.push (.int ((n0.fmod 57600).fmod 20) t2) := by simp
    rw [e]; exact N4
  show wpAny _ _ (execs [loopS 4, loopS 5, loopS 6, loopS 7, loopS 8, loopS 9, loopS 10, loopS 11, loopS 12, loopS 13, loopS 14, loopS 15, loopS 16, loopS 17, loopS 18, loopS 19, loopS 20, loopS 21, loopS 22, loopS 23, loopS 24, loopS 25] _) _ _ { s with heap := h4, toks := tk4 }
  refine wpAny_execs_cons (st_words (s := { s with heap := h4, toks := tk4 }) (n := ((n0.fmod 57600).fmod 20)) (t := t2) (lt := lt) (tp := tq) (oc := oc1) (vt := vt) (its := #[.int A1 ta, .int A2 tb, .int A3 tc]) (ns := [A1, A2, A3]) (ite_ne (by decide) (ite_eq rfl)) r0 r1 (kk hc1) hcd1 (kk htm) htq2 (kk htp) (.cons _ _ (.cons _ _ (.cons _ _ .nil))) hns (by simp) X T F4 N4 fun D1 v1 h5 tk5 hs1 F5 N5 ne5 => ?_)
  show wpAny _ _ (execs [loopS 5, loopS 6, loopS 7, loopS 8, loopS 9, loopS 10, loopS 11, loopS 12, loopS 13, loopS 14, loopS 15, loopS 16, loopS 17, loopS 18, loopS 19, loopS 20, loopS 21, loopS 22, loopS 23, loopS 24, loopS 25] _) _ _ { s with heap := h5, toks := tk5 }
  refine wpAny_execs_cons (st_rot (s := { s with heap := h5, toks := tk5 }) (n := ((n0.fmod 57600).fdiv 20)) (t := t3) (lw := D1) (vd := v1) (nd := v1.length) (ite_ne (by decide) (ite_eq rfl)) (ite_eq rfl) List.mem_cons_self (by rw [hs1.len_eq]; simp) X T F5 N5 fun D2 h6 tk6 F6 N6 ne6 => ?_)
  obtain ⟨k0, k1, k2, u0, u1, u2, hrot, hks⟩ := rot_is hs1 (fmod_lt ((n0.fmod 57600).fdiv 20) (b := 3) (by decide)).1 (fmod_lt ((n0.fmod 57600).fdiv 20) (b := 3) (by decide)).2
  rw [hrot] at N6
  have sx := rot_all (P := six) hks (hns _ (.head _)) (hns _ (.tail _ (.head _))) (hns _ (.tail _ (.tail _ (.head _))))
  have s0 := sx.1
  have s1 := sx.2.1
  have s2 := sx.2.2
  obtain ⟨c, ds, W, u, H⟩ := lists_of (d := ((n0.fmod 57600).fdiv 20)) n1 n2 s0 s1 s2
  show wpAny _ _ (execs [loopS 6, loopS 7, loopS 8, loopS 9, loopS 10, loopS 11, loopS 12, loopS 13, loopS 14, loopS 15, loopS 16, loopS 17, loopS 18, loopS 19, loopS 20, loopS 21, loopS 22, loopS 23, loopS 24, loopS 25] _) _ _ { s with heap := h6, toks := tk6 }
  refine wpAny_execs_cons (st_app2 (s := { s with heap := h6, toks := tk6 }) (v := .str (wordOf k0) u0) (ld := D2) (vd := [.str (wordOf k0) u0, .str (wordOf k1) u1, .str (wordOf k2) u2]) (nd := 0) rfl (ite_eq rfl) (by simp) ne6 X T F6 N6 fun h7 tk7 F7 N7 => ?_)
  have N7 : News g L h7 ((D2, listOf (List.toArray [.str (wordOf k0) u0, .str (wordOf k1) u1, .str (wordOf k2) u2, .str (wordOf k0) u0]) 1) :: (D1, lst v1) :: (ldr, listOf (List.toArray (vdr ++ [.int ((n0.fmod 57600).fmod 20) t2])) (ndr + 1)) :: (lfam, listOf vfam.toArray nfam) :: (lsh, listOf vsh.toArray nsh) :: K) := N7
  have hxs : StrsAre [.str (wordOf k0) u0, .str (wordOf k1) u1, .str (wordOf k2) u2, .str (wordOf k0) u0] ([k0, k1, k2, k0].map wordOf) := .cons _ _ (.cons _ _ (.cons _ _ (.cons _ _ .nil)))
  show wpAny _ _ (execs [loopS 7, loopS 8, loopS 9, loopS 10, loopS 11, loopS 12, loopS 13, loopS 14, loopS 15, loopS 16, loopS 17, loopS 18, loopS 19, loopS 20, loopS 21, loopS 22, loopS 23, loopS 24, loopS 25] _) _ _ { s with heap := h7, toks := tk7 }
  refine wpAny_execs_cons (st_mark (s := { s with heap := h7, toks := tk7 }) (n := ((n0.fmod 57600).fdiv 20)) (t := t3) (ite_ne (by decide) (ite_ne (by decide) (ite_eq rfl))) d0 X T F7 N7 fun t8 h8 tk8 F8 N8 => ?_)
  show wpAny _ _ (execs [loopS 8, loopS 9, loopS 10, loopS 11, loopS 12, loopS 13, loopS 14, loopS 15, loopS 16, loopS 17, loopS 18, loopS 19, loopS 20, loopS 21, loopS 22, loopS 23, loopS 24, loopS 25] _) _ _ { s with heap := h8, toks := tk8 }
  refine wpAny_execs_cons (st_gap (s := { s with heap := h8, toks := tk8 }) (n := ((n0.fmod 57600).fdiv 20)) (t := t3) (ite_ne (by decide) (ite_ne (by decide) (ite_ne (by decide) (ite_eq rfl)))) d0 X T F8 N8 fun t9 h9 tk9 F9 N9 => ?_)
  show wpAny _ _ (execs [loopS 9, loopS 10, loopS 11, loopS 12, loopS 13, loopS 14, loopS 15, loopS 16, loopS 17, loopS 18, loopS 19, loopS 20, loopS 21, loopS 22, loopS 23, loopS 24, loopS 25] _) _ _ { s with heap := h9, toks := tk9 }
  refine wpAny_execs_cons (st_tail (s := { s with heap := h9, toks := tk9 }) (n := ((n0.fmod 57600).fdiv 20)) (t := t3) (ite_ne (by decide) (ite_ne (by decide) (ite_ne (by decide) (ite_ne (by decide) (ite_eq rfl))))) d0 X T F9 N9 fun t10 h10 tk10 F10 N10 => ?_)
  show wpAny _ _ (execs [loopS 10, loopS 11, loopS 12, loopS 13, loopS 14, loopS 15, loopS 16, loopS 17, loopS 18, loopS 19, loopS 20, loopS 21, loopS 22, loopS 23, loopS 24, loopS 25] _) _ _ { s with heap := h10, toks := tk10 }
  refine wpAny_execs_cons (st_field (s := { s with heap := h10, toks := tk10 }) (n := (n0.fmod 57600)) (t := t1) (tm := t8) (x := markS ((n0.fmod 57600).fdiv 20)) (ite_ne (by decide) (ite_ne (by decide) (ite_ne (by decide) (ite_ne (by decide) (ite_ne (by decide) (ite_ne (by decide) (ite_ne (by decide) (ite_eq rfl)))))))) (ite_ne (by decide) (ite_ne (by decide) (ite_eq rfl))) n1 n2 H.mark_len X T F10 N10 fun t11 h11 tk11 F11 N11 => ?_)
  show wpAny _ _ (execs [loopS 11, loopS 12, loopS 13, loopS 14, loopS 15, loopS 16, loopS 17, loopS 18, loopS 19, loopS 20, loopS 21, loopS 22, loopS 23, loopS 24, loopS 25] _) _ _ { s with heap := h11, toks := tk11 }
  refine wpAny_execs_cons (st_front (s := { s with heap := h11, toks := tk11 }) (tm := t11) (x := fieldS (n0.fmod 57600) (markS ((n0.fmod 57600).fdiv 20))) (ite_eq rfl) H.field_len' X T F11 N11 fun t12 h12 tk12 F12 N12 => ?_)
  show wpAny _ _ (execs [loopS 12, loopS 13, loopS 14, loopS 15, loopS 16, loopS 17, loopS 18, loopS 19, loopS 20, loopS 21, loopS 22, loopS 23, loopS 24, loopS 25] _) _ _ { s with heap := h12, toks := tk12 }
  refine wpAny_execs_cons (st_cut (s := { s with heap := h12, toks := tk12 }) (tm := t12) (tg := t9) (x := frontS (n0.fmod 57600) ((n0.fmod 57600).fdiv 20)) (gp := gapS ((n0.fmod 57600).fdiv 20)) (ite_eq rfl) H.front_len (ite_ne (by decide) (ite_ne (by decide) (ite_ne (by decide) (ite_eq rfl)))) (gap_len _) (lw := D2) (wx := [.str (wordOf k0) u0, .str (wordOf k1) u1, .str (wordOf k2) u2, .str (wordOf k0) u0]) (xs := ([k0, k1, k2, k0].map wordOf)) (nw := 1) (ite_ne (by decide) (ite_ne (by decide) (ite_ne (by decide) (ite_ne (by decide) (ite_ne (by decide) (ite_eq rfl)))))) List.mem_cons_self hxs (xs_sum s0 s1 s2) H.join_len X T F12 N12 fun t13 h13 tk13 F13 N13 => ?_)
  show wpAny _ _ (execs [loopS 13, loopS 14, loopS 15, loopS 16, loopS 17, loopS 18, loopS 19, loopS 20, loopS 21, loopS 22, loopS 23, loopS 24, loopS 25] _) _ _ { s with heap := h13, toks := tk13 }
  refine wpAny_execs_cons (st_reply (s := { s with heap := h13, toks := tk13 }) (tm := t13) (tg := t10) (x := cutS (n0.fmod 57600) ((n0.fmod 57600).fdiv 20) ([k0, k1, k2, k0].map wordOf)) (gp := tailS ((n0.fmod 57600).fdiv 20)) (ite_eq rfl) H.cut_len (ite_ne (by decide) (ite_ne (by decide) (ite_ne (by decide) (ite_eq rfl)))) (tail_len _) X T F13 N13 fun t14 h14 tk14 F14 N14 => ?_)
  obtain ⟨q1, q2, q3, q4, q5⟩ := parse_ok H.mark H.digs H.reply
  show wpAny _ _ (execs [loopS 14, loopS 15, loopS 16, loopS 17, loopS 18, loopS 19, loopS 20, loopS 21, loopS 22, loopS 23, loopS 24, loopS 25] _) _ _ { s with heap := h14, toks := tk14 }
  refine wpAny_execs_cons (st_parse (s := { s with heap := h14, toks := tk14 }) (x := replyS (n0.fmod 57600) ((n0.fmod 57600).fdiv 20) ([k0, k1, k2, k0].map wordOf)) (tm := t14) (ite_eq rfl) (lw := D2) (wx := [.str (wordOf k0) u0, .str (wordOf k1) u1, .str (wordOf k2) u2, .str (wordOf k0) u0]) (nw := 1) (hv := .str (wordOf k0) u0) (ite_ne (by decide) (ite_ne (by decide) (ite_ne (by decide) (ite_ne (by decide) (ite_ne (by decide) (ite_ne (by decide) (ite_ne (by decide) (ite_eq rfl)))))))) List.mem_cons_self rfl H.reply_len q1 q2 q3 q4 q5 H.p3.1 H.p3.2 B X T F14 N14 fun t15 h15 tk15 F15 N15 => ?_)
  have fr := H.fl_reply (by simp)
  show wpAny _ _ (execs [loopS 15, loopS 16, loopS 17, loopS 18, loopS 19, loopS 20, loopS 21, loopS 22, loopS 23, loopS 24, loopS 25] _) _ _ { s with heap := h15, toks := tk15 }
  refine wpAny_execs_cons (st_flags (s := { s with heap := h15, toks := tk15 }) (x := replyS (n0.fmod 57600) ((n0.fmod 57600).fdiv 20) ([k0, k1, k2, k0].map wordOf)) (tm := t14) (ite_ne (by decide) (ite_ne (by decide) (ite_eq rfl))) fr.1.1 fr.1.2.1 fr.1.2.2 fr.sz fr.s8 fr.ws B X T F15 N15 fun lf vf h16 tk16 hb16 F16 N16 ne16 => ?_)
  have hb := fr.is hb16
  show wpAny _ _ (execs [loopS 16, loopS 17, loopS 18, loopS 19, loopS 20, loopS 21, loopS 22, loopS 23, loopS 24, loopS 25] _) _ _ { s with heap := h16, toks := tk16 }
  refine wpAny_execs_cons (st_same (s := { s with heap := h16, toks := tk16 }) (n := (n0.fmod 57600)) (tn := t1) (tp := t15) (tx := u0) (ty := u0) (x := wordOf k0) (lw := D2) (vd := [.str (wordOf k0) u0, .str (wordOf k1) u1, .str (wordOf k2) u2, .str (wordOf k0) u0]) (nd := 1) (ite_ne (by decide) (ite_ne (by decide) (ite_ne (by decide) (ite_ne (by decide) (ite_ne (by decide) (ite_ne (by decide) (ite_ne (by decide) (ite_ne (by decide) (ite_ne (by decide) (ite_ne (by decide) (ite_ne (by decide) (ite_ne (by decide) (ite_ne (by decide) (ite_ne (by decide) (ite_eq rfl))))))))))))))) (ite_ne (by decide) (ite_eq rfl)) (ite_ne (by decide) (ite_ne (by decide) (ite_eq rfl))) (ite_ne (by decide) (ite_ne (by decide) (ite_ne (by decide) (ite_ne (by decide) (ite_ne (by decide) (ite_ne (by decide) (ite_ne (by decide) (ite_ne (by decide) (ite_ne (by decide) (ite_ne (by decide) (ite_eq rfl))))))))))) (List.mem_cons_of_mem _ List.mem_cons_self) rfl n1 n2 X T F16 N16 fun h17 tk17 F17 N17 => ?_)
  show wpAny _ _ (execs [loopS 17, loopS 18, loopS 19, loopS 20, loopS 21, loopS 22, loopS 23, loopS 24, loopS 25] _) _ _ { s with heap := h17, toks := tk17 }
  refine wpAny_execs_cons (st_flagsame (s := { s with heap := h17, toks := tk17 }) (lw := D2) (lf := lf) (vd := [.str (wordOf k0) u0, .str (wordOf k1) u1, .str (wordOf k2) u2, .str (wordOf k0) u0]) (nd := 1) (vf := vf) (xs := ([k0, k1, k2, k0].map wordOf)) (bs := ([k0, k1, k2, k0].map wordOf).map encOf) (ite_ne (by decide) (ite_ne (by decide) (ite_ne (by decide) (ite_ne (by decide) (ite_ne (by decide) (ite_ne (by decide) (ite_ne (by decide) (ite_ne (by decide) (ite_ne (by decide) (ite_ne (by decide) (ite_eq rfl))))))))))) (ite_eq rfl) (List.mem_cons_of_mem _ List.mem_cons_self) List.mem_cons_self hxs (by simp) (xs_ok s0 s1 s2) hb rfl X T F17 N17 fun h18 tk18 F18 N18 => ?_)
  show wpAny _ _ (execs [loopS 18, loopS 19, loopS 20, loopS 21, loopS 22, loopS 23, loopS 24, loopS 25] _) _ _ { s with heap := h18, toks := tk18 }
  refine wpAny_execs_cons (st_void (s := { s with heap := h18, toks := tk18 }) (n := ((n0.fmod 57600).fdiv 20)) (t := t3) (tx := t12) (ty := t14) (x := frontS (n0.fmod 57600) ((n0.fmod 57600).fdiv 20)) (y := replyS (n0.fmod 57600) ((n0.fmod 57600).fdiv 20) ([k0, k1, k2, k0].map wordOf)) (ite_ne (by decide) (ite_ne (by decide) (ite_ne (by decide) (ite_ne (by decide) (ite_ne (by decide) (ite_ne (by decide) (ite_ne (by decide) (ite_ne (by decide) (ite_ne (by decide) (ite_ne (by decide) (ite_ne (by decide) (ite_ne (by decide) (ite_eq rfl))))))))))))) (ite_ne (by decide) (ite_ne (by decide) (ite_ne (by decide) (ite_ne (by decide) (ite_ne (by decide) (ite_eq rfl)))))) (ite_ne (by decide) (ite_ne (by decide) (ite_ne (by decide) (ite_eq rfl)))) d0 H.front_len H.reply_len X T F18 N18 fun t19 h19 tk19 F19 N19 => ?_)
  show wpAny _ _ (execs [loopS 19, loopS 20, loopS 21, loopS 22, loopS 23, loopS 24, loopS 25] _) _ _ { s with heap := h19, toks := tk19 }
  refine wpAny_execs_cons (st_voids (s := { s with heap := h19, toks := tk19 }) (tx := t13) (ty := t11) (tz := t19) (x := cutS (n0.fmod 57600) ((n0.fmod 57600).fdiv 20) ([k0, k1, k2, k0].map wordOf)) (y := fieldS (n0.fmod 57600) (markS ((n0.fmod 57600).fdiv 20))) (z := voidS (n0.fmod 57600) ((n0.fmod 57600).fdiv 20) ([k0, k1, k2, k0].map wordOf)) (ite_ne (by decide) (ite_ne (by decide) (ite_ne (by decide) (ite_ne (by decide) (ite_ne (by decide) (ite_eq rfl)))))) (ite_ne (by decide) (ite_ne (by decide) (ite_ne (by decide) (ite_ne (by decide) (ite_ne (by decide) (ite_ne (by decide) (ite_ne (by decide) (ite_eq rfl)))))))) (ite_eq rfl) H.cut_len H.fl_cut H.asc_field H.fl_void B X T F19 N19 fun h20 tk20 F20 N20 => ?_)
  show wpAny _ _ (execs [loopS 20, loopS 21, loopS 22, loopS 23, loopS 24, loopS 25] _) _ _ { s with heap := h20, toks := tk20 }
  refine wpAny_execs_cons (st_bent (s := { s with heap := h20, toks := tk20 }) (tx := t8) (ty := t11) (x := markS ((n0.fmod 57600).fdiv 20)) (y := fieldS (n0.fmod 57600) (markS ((n0.fmod 57600).fdiv 20))) (ite_ne (by decide) (ite_ne (by decide) (ite_ne (by decide) (ite_ne (by decide) (ite_ne (by decide) (ite_ne (by decide) (ite_ne (by decide) (ite_ne (by decide) (ite_ne (by decide) (ite_ne (by decide) (ite_eq rfl))))))))))) (ite_ne (by decide) (ite_ne (by decide) (ite_ne (by decide) (ite_ne (by decide) (ite_ne (by decide) (ite_ne (by decide) (ite_ne (by decide) (ite_eq rfl)))))))) (by rw [H.mark_len]; decide) H.field_len' H.bent1 H.bent2 H.bent3 H.bent4 B XB TB ⟨PassesOwn.never⟩ X T F20 N20 fun vb h21 tk21 F21 N21 => ?_)
  show wpAny _ _ (execs [loopS 21, loopS 22, loopS 23, loopS 24, loopS 25] _) _ _ { s with heap := h21, toks := tk21 }
  refine wpAny_execs_cons (st_foreign (s := { s with heap := h21, toks := tk21 }) (n := ((n0.fmod 57600).fmod 20)) (t := t2) (ty := t14) (y := replyS (n0.fmod 57600) ((n0.fmod 57600).fdiv 20) ([k0, k1, k2, k0].map wordOf)) (ite_ne (by decide) (ite_ne (by decide) (ite_ne (by decide) (ite_ne (by decide) (ite_ne (by decide) (ite_ne (by decide) (ite_ne (by decide) (ite_ne (by decide) (ite_ne (by decide) (ite_ne (by decide) (ite_ne (by decide) (ite_ne (by decide) (ite_ne (by decide) (ite_ne (by decide) (ite_ne (by decide) (ite_eq rfl)))))))))))))))) (ite_ne (by decide) (ite_ne (by decide) (ite_ne (by decide) (ite_ne (by decide) (ite_ne (by decide) (ite_eq rfl)))))) r0 H.reply_len X T F21 N21 fun t22 h22 tk22 F22 N22 => ?_)
  have hrf := refused_ok r0 r1
  unfold refusedS at hrf
  have hfo := H.foreign ((n0.fmod 57600).fmod 20)
  show wpAny _ _ (execs [loopS 22, loopS 23, loopS 24, loopS 25] _) _ _ { s with heap := h22, toks := tk22 }
  refine wpAny_execs_cons (st_refused (s := { s with heap := h22, toks := tk22 }) (n := ((n0.fmod 57600).fmod 20)) (tn := t2) (y := foreignS ((n0.fmod 57600).fmod 20) (replyS (n0.fmod 57600) ((n0.fmod 57600).fdiv 20) ([k0, k1, k2, k0].map wordOf))) (ty := t22) (ite_ne (by decide) (ite_ne (by decide) (ite_ne (by decide) (ite_ne (by decide) (ite_ne (by decide) (ite_ne (by decide) (ite_ne (by decide) (ite_ne (by decide) (ite_ne (by decide) (ite_ne (by decide) (ite_ne (by decide) (ite_ne (by decide) (ite_ne (by decide) (ite_ne (by decide) (ite_ne (by decide) (ite_ne (by decide) (ite_eq rfl))))))))))))))))) r0 r1 (ite_eq rfl) hfo.1 hfo.2 hrf.1 hrf.2.1 hrf.2.2 B XB TB X T F22 N22 fun h23 tk23 F23 N23 => ?_)
  show wpAny _ _ (execs [loopS 23, loopS 24, loopS 25] _) _ _ { s with heap := h23, toks := tk23 }
  refine wpAny_execs_cons (st_tops (s := { s with heap := h23, toks := tk23 }) (n := (n0.fmod 57600)) (tn := t15) (lw := lw) (ite_ne (by decide) (ite_ne (by decide) (ite_ne (by decide) (ite_ne (by decide) (ite_eq rfl))))) (ite_ne (by decide) (ite_ne (by decide) (ite_ne (by decide) (ite_ne (by decide) (ite_ne (by decide) (ite_ne (by decide) (ite_ne (by decide) (ite_ne (by decide) (ite_ne (by decide) (ite_ne (by decide) (ite_ne (by decide) (ite_ne (by decide) (ite_ne (by decide) (ite_ne (by decide) (ite_ne (by decide) (ite_ne (by decide) (ite_ne (by decide) (ite_ne (by decide) (hways))))))))))))))))))) (hW.more fun p hp => (List.mem_cons_of_mem _ (List.mem_cons_of_mem _ (List.mem_cons_of_mem _ (List.mem_cons_of_mem _ (List.mem_cons_of_mem _ (List.mem_cons_of_mem _ hp))))))) B X T F23 N23 fun qt vq nq h24 tk24 hq24 F24 N24 ne24 => ?_)
  have hd : Downs [k1, k2, k0] (topsOf ((n0.fmod 57600).fmod 20)) := by rw [htops]; exact downs_rot td.1 td.2 hks
  have qn : ∀ p ∈ (lf, ({ cls := .type "tuple", data := .seq (List.toArray vf) } : Obj)) :: (D2, listOf (List.toArray [.str (wordOf k0) u0, .str (wordOf k1) u1, .str (wordOf k2) u2, .str (wordOf k0) u0]) 1) :: (D1, lst v1) :: (ldr, listOf (List.toArray (vdr ++ [.int ((n0.fmod 57600).fmod 20) t2])) (ndr + 1)) :: (lfam, listOf vfam.toArray nfam) :: (lsh, listOf vsh.toArray nsh) :: K, p.1 ≠ qt := ne24
  have fn : ∀ p ∈ (D2, listOf (List.toArray [.str (wordOf k0) u0, .str (wordOf k1) u1, .str (wordOf k2) u2, .str (wordOf k0) u0]) 1) :: (D1, lst v1) :: (ldr, listOf (List.toArray (vdr ++ [.int ((n0.fmod 57600).fmod 20) t2])) (ndr + 1)) :: (lfam, listOf vfam.toArray nfam) :: (lsh, listOf vsh.toArray nsh) :: K, p.1 ≠ lf := ne16
  have wn : ∀ p ∈ (D1, lst v1) :: (ldr, listOf (List.toArray (vdr ++ [.int ((n0.fmod 57600).fmod 20) t2])) (ndr + 1)) :: (lfam, listOf vfam.toArray nfam) :: (lsh, listOf vsh.toArray nsh) :: K, p.1 ≠ D2 := ne6
  have vn : ∀ p ∈ (ldr, listOf (List.toArray (vdr ++ [.int ((n0.fmod 57600).fmod 20) t2])) (ndr + 1)) :: (lfam, listOf vfam.toArray nfam) :: (lsh, listOf vsh.toArray nsh) :: K, p.1 ≠ D1 := ne5
  have N24 : News g L h24 ((lfam, listOf vfam.toArray nfam) :: (qt, listOf (List.toArray vq) nq) :: (lf, ({ cls := .type "tuple", data := .seq (List.toArray vf) } : Obj)) :: (D2, listOf (List.toArray [.str (wordOf k0) u0, .str (wordOf k1) u1, .str (wordOf k2) u2, .str (wordOf k0) u0]) 1) :: (D1, lst v1) :: (ldr, listOf (List.toArray (vdr ++ [.int ((n0.fmod 57600).fmod 20) t2])) (ndr + 1)) :: (lsh, listOf vsh.toArray nsh) :: K) := fun p hp => N24 p (by
    simp only [List.mem_cons] at hp ⊢
    rcases hp with h | h | h | h | h | h | h | h <;> first | exact .inr (.inr (.inr (.inr (.inr (.inl h))))) | exact .inl h | exact .inr (.inl h) | exact .inr (.inr (.inl h)) | exact .inr (.inr (.inr (.inl h))) | exact .inr (.inr (.inr (.inr (.inl h)))) | exact .inr (.inr (.inr (.inr (.inr (.inr (.inl h)))))) | exact .inr (.inr (.inr (.inr (.inr (.inr (.inr h)))))))
  show wpAny _ _ (execs [loopS 24, loopS 25] _) _ _ { s with heap := h24, toks := tk24 }
  refine wpAny_execs_cons (st_last (s := { s with heap := h24, toks := tk24 }) (lf := lf) (lt := qt) (lfam := lfam) (vf := vf) (vt := vq) (vm := vfam) (nf := 0) (nt := nq) (nm := nfam) (bs := ([k0, k1, k2, k0].map wordOf).map encOf) (ns := [k1, k2, k0]) (ts := topsOf ((n0.fmod 57600).fmod 20)) (fam := fam) (n := (n0.fmod 57600)) (tn := t15) (ite_ne (by decide) (ite_ne (by decide) (ite_ne (by decide) (ite_ne (by decide) (ite_eq rfl))))) (List.mem_cons_of_mem _ List.mem_cons_self) hb (by simp) (by simp) (xs_ints s0 s1 s2) (by intro k hk; simp only [List.mem_cons, List.not_mem_nil, or_false] at hk; rcases hk with h | h | h <;> first | exact h ▸ s1 | exact h ▸ s2 | exact h ▸ s0) (by simp) (ite_eq rfl) List.mem_cons_self hq24 hd (ite_ne (by decide) (ite_ne (by decide) (ite_ne (by decide) (ite_ne (by decide) (ite_ne (by decide) (ite_ne (by decide) (ite_ne (by decide) (ite_ne (by decide) (ite_ne (by decide) (ite_ne (by decide) (ite_ne (by decide) (ite_ne (by decide) (ite_ne (by decide) (ite_ne (by decide) (ite_ne (by decide) (ite_ne (by decide) (ite_ne (by decide) (ite_ne (by decide) (ite_ne (by decide) (hfam)))))))))))))))))))) hfi hfl hfs (by intro p hp; simp only [List.mem_cons] at hp; rcases hp with rfl | rfl | rfl | rfl | rfl | rfl | hp <;> first | exact (qn (lfam, listOf vfam.toArray nfam) (List.mem_cons_of_mem _ (List.mem_cons_of_mem _ (List.mem_cons_of_mem _ (List.mem_cons_of_mem _ List.mem_cons_self))))).symm | exact (fn (lfam, listOf vfam.toArray nfam) (List.mem_cons_of_mem _ (List.mem_cons_of_mem _ (List.mem_cons_of_mem _ List.mem_cons_self)))).symm | exact (wn (lfam, listOf vfam.toArray nfam) (List.mem_cons_of_mem _ (List.mem_cons_of_mem _ List.mem_cons_self))).symm | exact (vn (lfam, listOf vfam.toArray nfam) (List.mem_cons_of_mem _ List.mem_cons_self)).symm | exact ne1 | exact ne3.symm | exact (neK p hp).2.1) (ite_ne (by decide) (ite_ne (by decide) (ite_ne (by decide) (ite_ne (by decide) (ite_ne (by decide) (ite_eq rfl)))))) B X T F24 N24 fun vfam2 fam2 nfam2 h25 tk25 hfi2 hput F25 N25 => ?_)
  have N25 : News g L h25 ((lsh, listOf vsh.toArray nsh) :: (lfam, listOf (List.toArray vfam2) nfam2) :: (qt, listOf (List.toArray vq) nq) :: (lf, ({ cls := .type "tuple", data := .seq (List.toArray vf) } : Obj)) :: (D2, listOf (List.toArray [.str (wordOf k0) u0, .str (wordOf k1) u1, .str (wordOf k2) u2, .str (wordOf k0) u0]) 1) :: (D1, lst v1) :: (ldr, listOf (List.toArray (vdr ++ [.int ((n0.fmod 57600).fmod 20) t2])) (ndr + 1)) :: K) := fun p hp => N25 p (by
    simp only [List.mem_cons] at hp ⊢
    rcases hp with h | h | h | h | h | h | h | h <;> first | exact .inr (.inr (.inr (.inr (.inr (.inr (.inl h)))))) | exact .inl h | exact .inr (.inl h) | exact .inr (.inr (.inl h)) | exact .inr (.inr (.inr (.inl h))) | exact .inr (.inr (.inr (.inr (.inl h)))) | exact .inr (.inr (.inr (.inr (.inr (.inl h))))) | exact .inr (.inr (.inr (.inr (.inr (.inr (.inr h)))))))
  obtain ⟨l0, l1, l2, l3, w0, w1, w2, w3, kw, kw0, kw1, kw2, kw3, mm, mm0, mm1, mm2, mm3, i0, i1, i2, i3⟩ := hW
  have up7 : ∀ p ∈ K, p ∈ (lfam, listOf (List.toArray vfam2) nfam2) :: (qt, listOf (List.toArray vq) nq) :: (lf, ({ cls := .type "tuple", data := .seq (List.toArray vf) } : Obj)) :: (D2, listOf (List.toArray [.str (wordOf k0) u0, .str (wordOf k1) u1, .str (wordOf k2) u2, .str (wordOf k0) u0]) 1) :: (D1, lst v1) :: (ldr, listOf (List.toArray (vdr ++ [.int ((n0.fmod 57600).fmod 20) t2])) (ndr + 1)) :: K := fun p hp => (List.mem_cons_of_mem _ (List.mem_cons_of_mem _ (List.mem_cons_of_mem _ (List.mem_cons_of_mem _ (List.mem_cons_of_mem _ (List.mem_cons_of_mem _ hp))))))
  show wpAny _ _ (execs [loopS 25] _) _ _ { s with heap := h25, toks := tk25 }
  refine wpAny_execs_cons (st_put3 (s := { s with heap := h25, toks := tk25 }) (lw := lw) (lt := qt) (lsh := lsh) (oc := oc2) (vt := vq) (vsh := vsh) (nsh := nsh) (ts := topsOf ((n0.fmod 57600).fmod 20)) (sh := sh) (up7 _ hc2) hcd2 (ite_ne (by decide) (ite_ne (by decide) (ite_ne (by decide) (ite_ne (by decide) (ite_ne (by decide) (ite_ne (by decide) (ite_ne (by decide) (ite_ne (by decide) (ite_ne (by decide) (ite_ne (by decide) (ite_ne (by decide) (ite_ne (by decide) (ite_ne (by decide) (ite_ne (by decide) (ite_ne (by decide) (ite_ne (by decide) (ite_ne (by decide) (ite_ne (by decide) (ite_ne (by decide) (hways)))))))))))))))))))) (up7 _ mm) (up7 _ mm2) i2 (ite_eq rfl) (List.mem_cons_of_mem _ List.mem_cons_self) hq24 tl.1 tl.2 hsi hsl hss (by intro p hp; simp only [List.mem_cons] at hp; rcases hp with rfl | rfl | rfl | rfl | rfl | rfl | hp <;> first | exact ne3 | exact (qn (lsh, listOf vsh.toArray nsh) (List.mem_cons_of_mem _ (List.mem_cons_of_mem _ (List.mem_cons_of_mem _ (List.mem_cons_of_mem _ (List.mem_cons_of_mem _ List.mem_cons_self)))))).symm | exact (fn (lsh, listOf vsh.toArray nsh) (List.mem_cons_of_mem _ (List.mem_cons_of_mem _ (List.mem_cons_of_mem _ (List.mem_cons_of_mem _ List.mem_cons_self))))).symm | exact (wn (lsh, listOf vsh.toArray nsh) (List.mem_cons_of_mem _ (List.mem_cons_of_mem _ (List.mem_cons_of_mem _ List.mem_cons_self)))).symm | exact (vn (lsh, listOf vsh.toArray nsh) (List.mem_cons_of_mem _ (List.mem_cons_of_mem _ List.mem_cons_self))).symm | exact ne2 | exact (neK p hp).2.2) B X T F25 N25 fun m26 vsh2 sh2 nsh2 h26 tk26 hm26 hsi2 hputs F26 N26 => ?_)
  show wpAny _ _ (execs [] _) _ _ { s with heap := h26, toks := tk26 }
  refine wpAny_execs_nil (hQ m26 vfam2 fam2 nfam2 vsh2 sh2 nsh2 t2 h26 tk26 ((hm26 _ (by decide) (by decide)).trans (ite_ne (by decide) (ite_ne (by decide) (ite_ne (by decide) (ite_ne (by decide) (ite_ne (by decide) (ite_ne (by decide) (ite_ne (by decide) (ite_ne (by decide) (ite_ne (by decide) (ite_ne (by decide) (ite_ne (by decide) (ite_ne (by decide) (ite_ne (by decide) (ite_ne (by decide) (ite_ne (by decide) (ite_ne (by decide) (ite_ne (by decide) (ite_ne (by decide) (ite_ne (by decide) (hways))))))))))))))))))))) ((hm26 _ (by decide) (by decide)).trans (ite_ne (by decide) (ite_ne (by decide) (ite_ne (by decide) (ite_ne (by decide) (ite_ne (by decide) (ite_ne (by decide) (ite_ne (by decide) (ite_ne (by decide) (ite_ne (by decide) (ite_ne (by decide) (ite_ne (by decide) (ite_ne (by decide) (ite_ne (by decide) (ite_ne (by decide) (ite_ne (by decide) (ite_ne (by decide) (ite_ne (by decide) (ite_ne (by decide) (ite_ne (by decide) (hdr))))))))))))))))))))) ((hm26 _ (by decide) (by decide)).trans (ite_ne (by decide) (ite_ne (by decide) (ite_ne (by decide) (ite_ne (by decide) (ite_ne (by decide) (ite_ne (by decide) (ite_ne (by decide) (ite_ne (by decide) (ite_ne (by decide) (ite_ne (by decide) (ite_ne (by decide) (ite_ne (by decide) (ite_ne (by decide) (ite_ne (by decide) (ite_ne (by decide) (ite_ne (by decide) (ite_ne (by decide) (ite_ne (by decide) (ite_ne (by decide) (hfam))))))))))))))))))))) hfi2 hput hsi2 hputs F26 fun p hp => N26 p ?_)
  simp only [List.mem_cons] at hp ⊢
  rcases hp with h | h | h | h <;> first | exact .inr (.inr (.inr (.inr (.inr (.inr (.inl h)))))) | exact .inr (.inl h) | exact .inl h | exact .inr (.inr (.inr (.inr (.inr (.inr (.inr h))))))
end
end Mine
end
section
open PySem PySem.W PyProof.Rows PySem.Calls PySem.Spec PyProof.Rows.LCg
set_option maxRecDepth 100000
namespace Mine
local macro_rules | `(tactic| omega) => `(tactic| lia)
local macro_rules | `(tactic| ktr_unf) => `(tactic| first | assumption | (dsimp only; (repeat (first | (rw [if_pos (by decide)]) | (rw [if_neg (by decide)]))); first | rfl | assumption))
local macro_rules | `(tactic| k_all) => `(tactic| assumption)
local macro_rules | `(tactic| k_mem) => `(tactic| assumption)
example (w : World) (h : Heap) : (Mine.hd.heap_39 w.params).In h → rprog = PySem.Challenge.rw_wy0014_01.prog → True := by
  k_fill
  intros; trivial
/-- the iterable of the main loop -/
noncomputable def itE : PySem.Expr := match lawS 5 with | .For _ x _ _ _ => x | _ => default
section
variable {w : World} {mean : ExcName → Option Value} {mg mb : Str → Option Value} {g : Heap} {L a : Addr} {ccd : Value} {s : Shared} {m : Str → Option Value} {news : List (Addr × Obj)} {Q : Value → Shared → Prop} {E : Value → Shared → Prop}

set_option maxHeartbeats 4000000 in
theorem it_eval {ls : Addr} {vs : List Value} {ss : List Int} (hs : m (Str.ofString "script") = some (.ref ls)) (hl : g.IsList ls vs.toArray) (hi : IntsAre vs ss) (hsl : ss.length ≤ 63)
   (X : (Mine.hd.heap_39 w.params).In g) (T : Top Mine.hd.view_39 lo mean mg mb g) (F : Fr g L s.heap m) (N : News g L s.heap news)
   (hQ : ∀ D ws nn h' tk', IntsAre ws ([3923, 6406, 11288] ++ ss.take 6) → Fr g L h' m → News g L h' ((D, listOf (List.toArray ws) nn) :: news) → (∀ p ∈ news, p.1 ≠ D) → Q (.ref D) { s with heap := h', toks := tk' }) :
   wpAny (model rprog w) (callerA.deeper (envOfC (Str.ofString "law") lawScope L a ccd)) (eval itE (envOfC (Str.ofString "law") lawScope L a ccd)) Q E s := by
  show wpAny _ _ (eval (.BinOp _ _ _ _) _) _ _ _
  w_strict (repeat' (first | (k_unfold; (try dsimp only)) | (k_end; wrow_close) | ((with_reducible show wpAny _ _ (eval (Expr.Name ..) _) _ _ _); (k_here; k_dflt (first | (refine' nameX_L ?zzF ?zzv ?_ ?zza ?zzb; (case zzF => k_asm); (case zza => rfl); (case zzb => rfl); (case zzv => ktr_unf); k_whole) | (refine' nameX_C ?zzN ?zzc ?zzm ?zzd ?_ ?zza ?zzb; (case zza => rfl); (case zzb => rfl); (case zzN => k_asm); (case zzc => rfl); (case zzm => first | k_mem | assumption); (case zzd => first | assumption | rfl); k_whole)))) | walk1 | (dsimp only; first | ((with_reducible show wpAny _ _ (eval (Expr.Name ..) _) _ _ _); (k_here; k_dflt (first | (refine' nameX_L ?zzF ?zzv ?_ ?zza ?zzb; (case zzF => k_asm); (case zza => rfl); (case zzb => rfl); (case zzv => ktr_unf); k_whole) | (refine' nameX_C ?zzN ?zzc ?zzm ?zzd ?_ ?zza ?zzb; (case zza => rfl); (case zzb => rfl); (case zzN => k_asm); (case zzc => rfl); (case zzm => first | k_mem | assumption); (case zzd => first | assumption | rfl); k_whole)))) | walk1) | (leave1; try dsimp only) | fail "no step"))
  rename_i d0 h0 l0 d1 w1 h1 i1 c1 e1 l1 d2 w2 h2 F2 N2 i2 l2
  refine hQ d2 w2 0 _ _ i2 F2 (fun p hp => N2 p ?_) fun p hp => Nat.ne_of_lt (allLt_mem l2.2.2 p hp)
  rcases List.mem_cons.mp hp with rfl | hp
  · exact List.mem_cons_self
  · exact List.mem_cons_of_mem _ (List.mem_cons_of_mem _ (List.mem_cons_of_mem _ hp))
end
/-- the ranks that are drawn -/
noncomputable def ranks (ss : List Int) : List Int := ([3923, 6406, 11288] ++ ss.take 6).map fun (z : Int) => (z.fmod 57600).fmod 20
theorem ranks_len (ss : List Int) : (ranks ss).length ≤ 9 := by unfold ranks; rw [List.length_map, List.length_append, List.length_take]; simp; lia
/-- the numbers of the pairs of some ranks -/
noncomputable def pairsOf (rs : List Int) : List Int := rs.flatMap fun r => pairNums (topsOf r)
theorem pairsOf_len : ∀ rs : List Int, (pairsOf rs).length = 3 * rs.length
  | [] => rfl
  | r :: rs => by
    have h := pairsOf_len rs
    unfold pairsOf at h ⊢
    rw [List.flatMap_cons, List.length_append, h, List.length_cons]
    have : (pairNums (topsOf r)).length = 3 := rfl
    lia
section
variable {w : World} {mean : ExcName → Option Value} {mg mb : Str → Option Value} {g : Heap} {L a : Addr} {ccd : Value} {s : Shared} {m : Str → Option Value} {news : List (Addr × Obj)} {Q : Flow → Shared → Prop} {E : Value → Shared → Prop}

set_option maxHeartbeats 8000000 in
theorem la_loop {ls lw ldr lfam lsh lt : Addr} {oc1 oc2 : Obj} {vs vdr vfam vsh vt : List Value} {ss : List Int} {ndr nfam nsh nt : Nat} {K : List (Addr × Obj)}
   (hs : m (Str.ofString "script") = some (.ref ls)) (hl : g.IsList ls vs.toArray) (hi : IntsAre vs ss) (hsl : ss.length ≤ 63) (hways : m (Str.ofString "ways") = some (.ref lw)) (hdr : m (Str.ofString "drawn") = some (.ref ldr)) (hfam : m (Str.ofString "family") = some (.ref lfam))
   (hW : WaysIn K lw) (hc1 : (L + 1, oc1) ∈ K) (hcd1 : oc1.data = .cell (some (.ref lt))) (hc2 : (L + 1 + 1, oc2) ∈ K) (hcd2 : oc2.data = .cell (some (.ref lsh))) (htm : (lt, listOf vt.toArray nt) ∈ K) (hT : TriAre K vt (rowC 6))
   (hdi : IntsAre vdr []) (hfi : IntsAre vfam []) (hsi : IntsAre vsh [])
   (ne1 : ldr ≠ lfam) (ne2 : ldr ≠ lsh) (ne3 : lfam ≠ lsh) (neK : ∀ p ∈ K, p.1 ≠ ldr ∧ p.1 ≠ lfam ∧ p.1 ≠ lsh)
   {base : Heap} (B : Below callerA base [] g) (XB : (Mine.hd.heap_39 w.params).In base) (TB : Top Mine.hd.view_39 lo mean mg mb base)
   (X : (Mine.hd.heap_39 w.params).In g) (T : Top Mine.hd.view_39 lo mean mg mb g) (F : Fr g L s.heap m) (N : News g L s.heap ((ldr, listOf vdr.toArray ndr) :: (lfam, listOf vfam.toArray nfam) :: (lsh, listOf vsh.toArray nsh) :: K))
   (hQ : ∀ m' vdr' vfam' vsh' ndr' nfam' nsh' fam sh h' tk', m' (Str.ofString "ways") = some (.ref lw) → m' (Str.ofString "drawn") = some (.ref ldr) → m' (Str.ofString "family") = some (.ref lfam) → IntsAre vdr' (ranks ss) → IntsAre vfam' fam → Puts (ranks ss) [] fam → IntsAre vsh' sh → Puts (pairsOf (ranks ss)) [] sh → Fr g L h' m' →
     News g L h' ((ldr, listOf (List.toArray vdr') ndr') :: (lfam, listOf (List.toArray vfam') nfam') :: (lsh, listOf (List.toArray vsh') nsh') :: K) → Q .next { s with heap := h', toks := tk' }) :
   wpAny (model rprog w) (callerA.deeper (envOfC (Str.ofString "law") lawScope L a ccd)) (exec (lawS 5) (envOfC (Str.ofString "law") lawScope L a ccd)) Q E s := by
  show wpAny _ _ (exec (Stmt.For (PySem.Expr.Name _ _) itE _ _ _) _) _ _ _
  refine for_list (h₀ := g) rfl go_nameL ?_ (by intro _; rfl)
  refine it_eval hs hl hi hsl X T F N fun D ws nn h1 tk1 iw F1 N1 neD => ?_
  refine ⟨fun i m' nx => ∃ vdr vfam vsh ndr nfam nsh fam sh, m' (Str.ofString "ways") = some (.ref lw) ∧ m' (Str.ofString "drawn") = some (.ref ldr) ∧ m' (Str.ofString "family") = some (.ref lfam) ∧ IntsAre vdr ((ranks ss).take i) ∧ IntsAre vfam fam ∧ Puts ((ranks ss).take i) [] fam ∧ IntsAre vsh sh ∧ Puts (pairsOf ((ranks ss).take i)) [] sh ∧
      nx = (ldr, listOf (List.toArray vdr) ndr) :: (lfam, listOf (List.toArray vfam) nfam) :: (lsh, listOf (List.toArray vsh) nsh) :: (D, listOf (List.toArray ws) nn) :: K,
    D, ws.toArray, m, _, rfl, F1, (?_ : News g L h1 ((ldr, listOf vdr.toArray ndr) :: (lfam, listOf vfam.toArray nfam) :: (lsh, listOf vsh.toArray nsh) :: (D, listOf (List.toArray ws) nn) :: K)), ?_, ⟨vdr, vfam, vsh, ndr, nfam, nsh, [], [], hways, hdr, hfam, hdi, hfi, Puts.zero .nil, hsi, Puts.zero .nil, rfl⟩, ?_, ?_⟩
  · intro p hp
    refine N1 p ?_
    simp only [List.mem_cons] at hp ⊢
    rcases hp with h | h | h | h | h
    · exact .inr (.inl h)
    · exact .inr (.inr (.inl h))
    · exact .inr (.inr (.inr (.inl h)))
    · exact .inl h
    · exact .inr (.inr (.inr (.inr h)))
  · rintro i m' nx ⟨_, _, _, _, _, _, _, _, _, _, _, _, _, _, _, _, rfl⟩
    exact .inr ⟨_, List.mem_cons_of_mem _ (List.mem_cons_of_mem _ (List.mem_cons_of_mem _ List.mem_cons_self)), rfl, _, rfl⟩
  · rintro i v m' nx I oI h tk hin hv ⟨vdr2, vfam2, vsh2, ndr2, nfam2, nsh2, fam, sh, hw', hd', hf', iv, ifm, pf, ish, ps, rfl⟩ F2 N2 off2
    obtain ⟨z, t, rfl, hz⟩ := ints_item (its := ws.toArray) (by simpa using iw) hv
    have hr : (ranks ss).take (i + 1) = (ranks ss).take i ++ [(z.fmod 57600).fmod 20] := by
      have : (ranks ss)[i]? = some ((z.fmod 57600).fmod 20) := by
        unfold ranks
        have hz' : ([3923, 6406, 11288] ++ ss.take 6 : List Int)[i]? = some z := hz
        rw [List.getElem?_map, hz']; rfl
      simp [List.take_add_one, this]
    have hln : ((ranks ss).take i).length ≤ 9 := by have := ranks_len ss; rw [List.length_take]; lia
    have hfl := pf.2.2
    have hsl2 := ps.2.2
    rw [pairsOf_len] at hsl2
    simp only [List.length_nil] at hfl hsl2
    have hvl := iv.length
    have o1 : ldr ≠ I := off2 _ List.mem_cons_self
    have o2 : lfam ≠ I := off2 _ (List.mem_cons_of_mem _ List.mem_cons_self)
    have o3 : lsh ≠ I := off2 _ (List.mem_cons_of_mem _ (List.mem_cons_of_mem _ List.mem_cons_self))
    have p1 : ldr ≠ D := neD _ List.mem_cons_self
    have p2 : lfam ≠ D := neD _ (List.mem_cons_of_mem _ List.mem_cons_self)
    have p3 : lsh ≠ D := neD _ (List.mem_cons_of_mem _ (List.mem_cons_of_mem _ List.mem_cons_self))
    have up : ∀ p ∈ K, p ∈ (I, oI) :: (D, listOf (List.toArray ws) nn) :: K := fun p hp => List.mem_cons_of_mem _ (List.mem_cons_of_mem _ hp)
    refine assign_name F2 N2 rfl rfl fun h3 tk3 F3 N3 => ?_
    have N3' : News g L h3 ((ldr, listOf (List.toArray vdr2) ndr2) :: (lfam, listOf (List.toArray vfam2) nfam2) :: (lsh, listOf (List.toArray vsh2) nsh2) :: (I, oI) :: (D, listOf (List.toArray ws) nn) :: K) := by
      intro p hp
      refine N3 p ?_
      simp only [List.mem_cons] at hp ⊢
      rcases hp with h | h | h | h | h | h
      · exact .inr (.inl h)
      · exact .inr (.inr (.inl h))
      · exact .inr (.inr (.inr (.inl h)))
      · exact .inl h
      · exact .inr (.inr (.inr (.inr (.inl h))))
      · exact .inr (.inr (.inr (.inr (.inr h))))
    refine loop_body (s := { s with heap := h3, toks := tk3 }) (n0 := z) (t0 := t) (ite_eq rfl) (ite_ne (by decide) hw') (ite_ne (by decide) hd') (ite_ne (by decide) hf') (hW.more up) (up _ hc1) hcd1 (up _ hc2) hcd2 (up _ htm) (hT.more up) (by lia) ifm (by lia) pf.1 ish (by lia) ps.1 ne1 ne2 ne3 (fun p hp => ?_) B XB TB X T F3 N3' fun m9 vfam9 fam9 nfam9 vsh9 sh9 nsh9 t9 h9 tk9 hw9 hd9 hf9 if9 pf9 is9 ps9 F9 N9 => ?_
    · simp only [List.mem_cons] at hp
      rcases hp with rfl | rfl | hp
      · exact ⟨o1.symm, o2.symm, o3.symm⟩
      · exact ⟨p1.symm, p2.symm, p3.symm⟩
      · exact neK p hp
    · refine TurnEnd.intro F9 (fun p hp => N9 p ?_) (fun p hp => ?_) ⟨vdr2 ++ [.int ((z.fmod 57600).fmod 20) t9], vfam9, vsh9, ndr2 + 1, nfam9, nsh9, fam9, sh9, hw9, hd9, hf9, by rw [hr]; exact ints_snoc iv _ _, if9, by rw [hr]; exact pf.snoc pf9, is9, ?_, rfl⟩
      · simp only [List.mem_cons] at hp ⊢
        rcases hp with h | h | h | h | h | h
        · exact .inr (.inr (.inr (.inl h)))
        · exact .inl h
        · exact .inr (.inl h)
        · exact .inr (.inr (.inl h))
        · exact .inr (.inr (.inr (.inr (.inl h))))
        · exact .inr (.inr (.inr (.inr (.inr h))))
      · simp only [List.mem_cons] at hp
        rcases hp with rfl | rfl | rfl | rfl | hp
        · exact o1
        · exact o2
        · exact o3
        · exact off2 _ (List.mem_cons_of_mem _ (List.mem_cons_of_mem _ (List.mem_cons_of_mem _ List.mem_cons_self)))
        · exact off2 p (List.mem_cons_of_mem _ (List.mem_cons_of_mem _ (List.mem_cons_of_mem _ (List.mem_cons_of_mem _ hp))))
      · rw [hr]
        unfold pairsOf
        rw [List.flatMap_append]
        refine ps.app ?_
        simpa using ps9
  · rintro m' nx h tk ⟨vdr2, vfam2, vsh2, ndr2, nfam2, nsh2, fam, sh, hw', hd', hf', iv, ifm, pf, ish, ps, rfl⟩ F2 N2
    have hsz : (ranks ss).take ws.toArray.size = ranks ss := by
      refine List.take_of_length_le ?_
      rw [List.size_toArray, iw.length]
      unfold ranks
      rw [List.length_map]
      exact Nat.le_refl _
    rw [hsz] at iv pf ps
    refine hQ m' vdr2 vfam2 vsh2 ndr2 nfam2 nsh2 fam sh h tk hw' hd' hf' iv ifm pf ish ps F2 fun p hp => N2 p ?_
    simp only [List.mem_cons] at hp ⊢
    rcases hp with h | h | h | h
    · exact .inl h
    · exact .inr (.inl h)
    · exact .inr (.inr (.inl h))
    · exact .inr (.inr (.inr (.inr h)))
end
end Mine
end
section
open PySem PySem.W PyProof.Rows PySem.Calls PySem.Spec PyProof.Rows.LCg
set_option maxRecDepth 100000
namespace Mine
local macro_rules | `(tactic| ktr_unf) => `(tactic| first | assumption | (dsimp only; (repeat (first | (rw [if_pos (by decide)]) | (rw [if_neg (by decide)]))); first | rfl | assumption))
local macro_rules | `(tactic| k_all) => `(tactic| assumption)
local macro_rules | `(tactic| k_mem) => `(tactic| assumption)
example (w : World) (h : Heap) : (Mine.hd.heap_39 w.params).In h → rprog = PySem.Challenge.rw_wy0014_01.prog → True := by
  k_fill
  intros; trivial
theorem TriIn.of {g h : Heap} {L : Addr} {news : List (Addr × Obj)} {vt : List Value} (hT : TriAre news vt (rowC 6)) (N : News g L h news) : TriIn h vt := fun i hi => by
  obtain ⟨q, t1, t2, t3, hq, hm⟩ := tri_get hT (i := i) (by rw [rowC_len]; exact hi)
  exact ⟨q, t1, t2, t3, hq, ⟨_, (N _ hm).1, rfl, _, rfl⟩⟩
local macro_rules | `(tactic| k_mem) => `(tactic| first | assumption | exact List.Mem.head _ | (refine List.mem_cons_of_mem _ ?_; k_mem))
section
variable {w : World} {mean : ExcName → Option Value} {mg mb : Str → Option Value} {g : Heap} {L a : Addr} {ccd : Value} {s : Shared} {m : Str → Option Value} {news : List (Addr × Obj)} {Q : Flow → Shared → Prop} {E : Value → Shared → Prop}

set_option maxHeartbeats 4000000 in
theorem la_counts {lt : Addr} {oc : Obj} {vt : List Value} {nt : Nat} (hc : (L + 1, oc) ∈ news) (hcd : oc.data = .cell (some (.ref lt))) (htm : (lt, listOf vt.toArray nt) ∈ news) (hT : TriAre news vt (rowC 6)) (hTl : vt.length = 20) {base : Heap} (B : Below callerA base [] g)
   (X : (Mine.hd.heap_39 w.params).In g) (T : Top Mine.hd.view_39 lo mean mg mb g) (F : Fr g L s.heap m) (N : News g L s.heap news)
   (hQ : ∀ D vs nn h' tk', IntsAre vs (cntAt 20) → Fr g L h' (fun z => if z = (Str.ofString "counts") then some (.ref D) else m z) → News g L h' ((D, listOf (List.toArray vs) nn) :: news) → (∀ p ∈ news, p.1 ≠ D) → Q .next { s with heap := h', toks := tk' }) :
   wpAny (model rprog w) (callerA.deeper (envOfC (Str.ofString "law") lawScope L a ccd)) (exec (lawS 12) (envOfC (Str.ofString "law") lawScope L a ccd)) Q E s := by
  show wpAny _ _ (exec (Stmt.Assign _ _ _) _) _ _ _
  w_strict (repeat' (first | (k_unfold; (try dsimp only)) | (k_end; wrow_close) | ((with_reducible show wpAny _ _ (compareOp .NotEq (Value.ref _) (Value.ref _)) _ _ _); (k_here; k_dflt (refine' ne_ints_same ?zzl ?zzi ?zzl2 ?zzi2 ?zze ?zzu ?_; (case zzl => exact list_at (by k_asm) (by k_mem)); (case zzl2 => exact list_at (by k_asm) (by k_mem)); (case zzi => assumption); (case zzi2 => assumption); (case zze => assumption); (case zzu => first | ktr_units | k_units); k_whole))) | ((with_reducible show wpAny _ _ (call (Value.type "list") _ _) _ _ _); (k_here; (rename IsRange _ _ _ _ _ _ _ _ => rgX); k_dflt (refine' kll_range ?zzk0 ?zzk1 ?zzk2 ?zzk3 ?zzk4 ?zzk5 ?zzk6 ?_; (case zzk0 => exact rfl); (case zzk1 => k_asm); (case zzk2 => k_asm); (case zzk3 => exact rgX); (case zzk4 => assumption); (case zzk5 => assumption); (case zzk6 => assumption); k_whole); intro _ _ _ _ _ _ _ _ _)) | ((with_reducible show wpAny _ _ (call (Value.ref _) _ _) _ _ _); (k_here; k_dflt (refine' law_least_spec ?zzB ?zzF ?zzX ?zzN ?zzT ?zzhk ?zzhdp ?zzhun ?zzhW ?zzh0 ?zzhe ?zza0 ?zza1 ?zzb0 ?zzb1 ?zzc0 ?zzc1 ?_; (case zzB => k_asm); (case zzF => k_asm); (case zzX => k_asm); (case zzN => k_asm); (case zzT => k_asm); (case zzhk => exact rfl); (case zzhW => exact WaysIn.at_ (by assumption) (by k_asm)); (case zzh0 => lia); (case zzhe => assumption); (case zza0 => assumption); (case zza1 => assumption); (case zzb0 => assumption); (case zzb1 => assumption); (case zzc0 => assumption); (case zzc1 => assumption); (case zzhdp => decide); (case zzhun => decide); k_whole); intro _ _ _ _ _)) | ((with_reducible show wpAny _ _ (call (Value.ref _) _ _) _ _ _); (k_here; k_dflt (refine' law_counts_spec ?zzB ?zzF ?zzX ?zzN ?zzT ?zzhk ?zzhdp ?zzhun ?zzhT ?zzhl ?zzhr ?_; (case zzB => k_asm); (case zzF => k_asm); (case zzX => k_asm); (case zzN => k_asm); (case zzT => k_asm); (case zzhk => exact rfl); (case zzhT => exact list_at (by k_asm) (by k_mem)); (case zzhl => assumption); (case zzhr => exact TriIn.of (by assumption) (by k_asm)); (case zzhdp => decide); (case zzhun => decide); k_whole); intro _ _ _ _ _ _ _ _ _)) | ((with_reducible show wpAny _ _ (call (Value.builtin "len") _ _) _ _ _); (k_here; k_dflt (refine' len_ints' ?zzl ?zzi ?zzz ?_; (case zzl => exact list_at (by k_asm) (by k_mem)); (case zzi => assumption); (case zzz => lia); k_whole); intro _ _)) | ((with_reducible show wpAny _ _ (eval (Expr.Name ..) _) _ _ _); (k_here; k_dflt (first | (refine' nameX_L ?zzF ?zzv ?_ ?zza ?zzb; (case zzF => k_asm); (case zza => rfl); (case zzb => rfl); (case zzv => ktr_unf); k_whole) | (refine' nameX_C ?zzN ?zzc ?zzm ?zzd ?_ ?zza ?zzb; (case zza => rfl); (case zzb => rfl); (case zzN => k_asm); (case zzc => rfl); (case zzm => first | k_mem | assumption); (case zzd => first | assumption | rfl); k_whole)))) | walk1 | (dsimp only; first | ((with_reducible show wpAny _ _ (compareOp .NotEq (Value.ref _) (Value.ref _)) _ _ _); (k_here; k_dflt (refine' ne_ints_same ?zzl ?zzi ?zzl2 ?zzi2 ?zze ?zzu ?_; (case zzl => exact list_at (by k_asm) (by k_mem)); (case zzl2 => exact list_at (by k_asm) (by k_mem)); (case zzi => assumption); (case zzi2 => assumption); (case zze => assumption); (case zzu => first | ktr_units | k_units); k_whole))) | ((with_reducible show wpAny _ _ (call (Value.type "list") _ _) _ _ _); (k_here; (rename IsRange _ _ _ _ _ _ _ _ => rgX); k_dflt (refine' kll_range ?zzk0 ?zzk1 ?zzk2 ?zzk3 ?zzk4 ?zzk5 ?zzk6 ?_; (case zzk0 => exact rfl); (case zzk1 => k_asm); (case zzk2 => k_asm); (case zzk3 => exact rgX); (case zzk4 => assumption); (case zzk5 => assumption); (case zzk6 => assumption); k_whole); intro _ _ _ _ _ _ _ _ _)) | ((with_reducible show wpAny _ _ (call (Value.ref _) _ _) _ _ _); (k_here; k_dflt (refine' law_least_spec ?zzB ?zzF ?zzX ?zzN ?zzT ?zzhk ?zzhdp ?zzhun ?zzhW ?zzh0 ?zzhe ?zza0 ?zza1 ?zzb0 ?zzb1 ?zzc0 ?zzc1 ?_; (case zzB => k_asm); (case zzF => k_asm); (case zzX => k_asm); (case zzN => k_asm); (case zzT => k_asm); (case zzhk => exact rfl); (case zzhW => exact WaysIn.at_ (by assumption) (by k_asm)); (case zzh0 => lia); (case zzhe => assumption); (case zza0 => assumption); (case zza1 => assumption); (case zzb0 => assumption); (case zzb1 => assumption); (case zzc0 => assumption); (case zzc1 => assumption); (case zzhdp => decide); (case zzhun => decide); k_whole); intro _ _ _ _ _)) | ((with_reducible show wpAny _ _ (call (Value.ref _) _ _) _ _ _); (k_here; k_dflt (refine' law_counts_spec ?zzB ?zzF ?zzX ?zzN ?zzT ?zzhk ?zzhdp ?zzhun ?zzhT ?zzhl ?zzhr ?_; (case zzB => k_asm); (case zzF => k_asm); (case zzX => k_asm); (case zzN => k_asm); (case zzT => k_asm); (case zzhk => exact rfl); (case zzhT => exact list_at (by k_asm) (by k_mem)); (case zzhl => assumption); (case zzhr => exact TriIn.of (by assumption) (by k_asm)); (case zzhdp => decide); (case zzhun => decide); k_whole); intro _ _ _ _ _ _ _ _ _)) | ((with_reducible show wpAny _ _ (call (Value.builtin "len") _ _) _ _ _); (k_here; k_dflt (refine' len_ints' ?zzl ?zzi ?zzz ?_; (case zzl => exact list_at (by k_asm) (by k_mem)); (case zzi => assumption); (case zzz => lia); k_whole); intro _ _)) | ((with_reducible show wpAny _ _ (eval (Expr.Name ..) _) _ _ _); (k_here; k_dflt (first | (refine' nameX_L ?zzF ?zzv ?_ ?zza ?zzb; (case zzF => k_asm); (case zza => rfl); (case zzb => rfl); (case zzv => ktr_unf); k_whole) | (refine' nameX_C ?zzN ?zzc ?zzm ?zzd ?_ ?zza ?zzb; (case zza => rfl); (case zzb => rfl); (case zzN => k_asm); (case zzc => rfl); (case zzm => first | k_mem | assumption); (case zzd => first | assumption | rfl); k_whole)))) | walk1) | (leave1; try dsimp only) | fail "no step"))
  exact hQ _ _ _ _ _ (by assumption) (by assumption) (by assumption) (by assumption)

set_option maxHeartbeats 4000000 in
theorem la_least {lf lfam lw : Addr} {vf vfam : List Value} {nf nfam : Nat} {fst fam : List Int} {a1 b1 c1 : Int} {n : Nat} (hfst : m (Str.ofString "first") = some (.ref lf)) (hfm : (lf, listOf vf.toArray nf) ∈ news) (hfi : IntsAre vf fst) (hfam : m (Str.ofString "family") = some (.ref lfam)) (hfamm : (lfam, listOf vfam.toArray nfam) ∈ news) (hfami : IntsAre vfam fam) (hfaml : fam.length ≤ 20) (hw : m (Str.ofString "ways") = some (.ref lw)) (hW : WaysIn news lw) (he : topsOf (fam.length : Int) = [a1, b1, c1]) (ha0 : 0 ≤ a1) (ha1 : a1 < 8) (hb0 : 0 ≤ b1) (hb1 : b1 < 8) (hc0 : 0 ≤ c1) (hc1 : c1 < 8) (hr1 : Builtin.Range.small 0 (leastOf (fam.length : Int) a1 b1 c1) 1 = true) (hr2 : Builtin.Range.rangeSize 0 (leastOf (fam.length : Int) a1 b1 c1) 1 = (n : Int)) (hn : n ≤ 2 ^ 24) (heq : fst = rangeKs 0 n) {base : Heap} (B : Below callerA base [] g)
   (X : (Mine.hd.heap_39 w.params).In g) (T : Top Mine.hd.view_39 lo mean mg mb g) (F : Fr g L s.heap m) (N : News g L s.heap news)
   (hQ : ∀ h' tk', Fr g L h' m → News g L h' news → Q .next { s with heap := h', toks := tk' }) :
   wpAny (model rprog w) (callerA.deeper (envOfC (Str.ofString "law") lawScope L a ccd)) (exec (lawS 11) (envOfC (Str.ofString "law") lawScope L a ccd)) Q E s := by
  show wpAny _ _ (exec (Stmt.If _ _ _ _) _) _ _ _
  w_strict (repeat' (first | (k_unfold; (try dsimp only)) | (k_end; wrow_close) | ((with_reducible show wpAny _ _ (compareOp .NotEq (Value.ref _) (Value.ref _)) _ _ _); (k_here; k_dflt (refine' ne_ints_same ?zzl ?zzi ?zzl2 ?zzi2 ?zze ?zzu ?_; (case zzl => exact list_at (by k_asm) (by k_mem)); (case zzl2 => exact list_at (by k_asm) (by k_mem)); (case zzi => assumption); (case zzi2 => assumption); (case zze => assumption); (case zzu => first | ktr_units | k_units); k_whole))) | ((with_reducible show wpAny _ _ (call (Value.type "list") _ _) _ _ _); (k_here; (rename IsRange _ _ _ _ _ _ _ _ => rgX); k_dflt (refine' kll_range ?zzk0 ?zzk1 ?zzk2 ?zzk3 ?zzk4 ?zzk5 ?zzk6 ?_; (case zzk0 => exact rfl); (case zzk1 => k_asm); (case zzk2 => k_asm); (case zzk3 => exact rgX); (case zzk4 => assumption); (case zzk5 => assumption); (case zzk6 => assumption); k_whole); intro _ _ _ _ _ _ _ _ _)) | ((with_reducible show wpAny _ _ (call (Value.ref _) _ _) _ _ _); (k_here; k_dflt (refine' law_least_spec ?zzB ?zzF ?zzX ?zzN ?zzT ?zzhk ?zzhdp ?zzhun ?zzhW ?zzh0 ?zzhe ?zza0 ?zza1 ?zzb0 ?zzb1 ?zzc0 ?zzc1 ?_; (case zzB => k_asm); (case zzF => k_asm); (case zzX => k_asm); (case zzN => k_asm); (case zzT => k_asm); (case zzhk => exact rfl); (case zzhW => exact WaysIn.at_ (by assumption) (by k_asm)); (case zzh0 => lia); (case zzhe => assumption); (case zza0 => assumption); (case zza1 => assumption); (case zzb0 => assumption); (case zzb1 => assumption); (case zzc0 => assumption); (case zzc1 => assumption); (case zzhdp => decide); (case zzhun => decide); k_whole); intro _ _ _ _ _)) | ((with_reducible show wpAny _ _ (call (Value.ref _) _ _) _ _ _); (k_here; k_dflt (refine' law_counts_spec ?zzB ?zzF ?zzX ?zzN ?zzT ?zzhk ?zzhdp ?zzhun ?zzhT ?zzhl ?zzhr ?_; (case zzB => k_asm); (case zzF => k_asm); (case zzX => k_asm); (case zzN => k_asm); (case zzT => k_asm); (case zzhk => exact rfl); (case zzhT => exact list_at (by k_asm) (by k_mem)); (case zzhl => assumption); (case zzhr => exact TriIn.of (by assumption) (by k_asm)); (case zzhdp => decide); (case zzhun => decide); k_whole); intro _ _ _ _ _ _ _ _ _)) | ((with_reducible show wpAny _ _ (call (Value.builtin "len") _ _) _ _ _); (k_here; k_dflt (refine' len_ints' ?zzl ?zzi ?zzz ?_; (case zzl => exact list_at (by k_asm) (by k_mem)); (case zzi => assumption); (case zzz => lia); k_whole); intro _ _)) | ((with_reducible show wpAny _ _ (eval (Expr.Name ..) _) _ _ _); (k_here; k_dflt (first | (refine' nameX_L ?zzF ?zzv ?_ ?zza ?zzb; (case zzF => k_asm); (case zza => rfl); (case zzb => rfl); (case zzv => ktr_unf); k_whole) | (refine' nameX_C ?zzN ?zzc ?zzm ?zzd ?_ ?zza ?zzb; (case zza => rfl); (case zzb => rfl); (case zzN => k_asm); (case zzc => rfl); (case zzm => first | k_mem | assumption); (case zzd => first | assumption | rfl); k_whole)))) | walk1 | (dsimp only; first | ((with_reducible show wpAny _ _ (compareOp .NotEq (Value.ref _) (Value.ref _)) _ _ _); (k_here; k_dflt (refine' ne_ints_same ?zzl ?zzi ?zzl2 ?zzi2 ?zze ?zzu ?_; (case zzl => exact list_at (by k_asm) (by k_mem)); (case zzl2 => exact list_at (by k_asm) (by k_mem)); (case zzi => assumption); (case zzi2 => assumption); (case zze => assumption); (case zzu => first | ktr_units | k_units); k_whole))) | ((with_reducible show wpAny _ _ (call (Value.type "list") _ _) _ _ _); (k_here; (rename IsRange _ _ _ _ _ _ _ _ => rgX); k_dflt (refine' kll_range ?zzk0 ?zzk1 ?zzk2 ?zzk3 ?zzk4 ?zzk5 ?zzk6 ?_; (case zzk0 => exact rfl); (case zzk1 => k_asm); (case zzk2 => k_asm); (case zzk3 => exact rgX); (case zzk4 => assumption); (case zzk5 => assumption); (case zzk6 => assumption); k_whole); intro _ _ _ _ _ _ _ _ _)) | ((with_reducible show wpAny _ _ (call (Value.ref _) _ _) _ _ _); (k_here; k_dflt (refine' law_least_spec ?zzB ?zzF ?zzX ?zzN ?zzT ?zzhk ?zzhdp ?zzhun ?zzhW ?zzh0 ?zzhe ?zza0 ?zza1 ?zzb0 ?zzb1 ?zzc0 ?zzc1 ?_; (case zzB => k_asm); (case zzF => k_asm); (case zzX => k_asm); (case zzN => k_asm); (case zzT => k_asm); (case zzhk => exact rfl); (case zzhW => exact WaysIn.at_ (by assumption) (by k_asm)); (case zzh0 => lia); (case zzhe => assumption); (case zza0 => assumption); (case zza1 => assumption); (case zzb0 => assumption); (case zzb1 => assumption); (case zzc0 => assumption); (case zzc1 => assumption); (case zzhdp => decide); (case zzhun => decide); k_whole); intro _ _ _ _ _)) | ((with_reducible show wpAny _ _ (call (Value.ref _) _ _) _ _ _); (k_here; k_dflt (refine' law_counts_spec ?zzB ?zzF ?zzX ?zzN ?zzT ?zzhk ?zzhdp ?zzhun ?zzhT ?zzhl ?zzhr ?_; (case zzB => k_asm); (case zzF => k_asm); (case zzX => k_asm); (case zzN => k_asm); (case zzT => k_asm); (case zzhk => exact rfl); (case zzhT => exact list_at (by k_asm) (by k_mem)); (case zzhl => assumption); (case zzhr => exact TriIn.of (by assumption) (by k_asm)); (case zzhdp => decide); (case zzhun => decide); k_whole); intro _ _ _ _ _ _ _ _ _)) | ((with_reducible show wpAny _ _ (call (Value.builtin "len") _ _) _ _ _); (k_here; k_dflt (refine' len_ints' ?zzl ?zzi ?zzz ?_; (case zzl => exact list_at (by k_asm) (by k_mem)); (case zzi => assumption); (case zzz => lia); k_whole); intro _ _)) | ((with_reducible show wpAny _ _ (eval (Expr.Name ..) _) _ _ _); (k_here; k_dflt (first | (refine' nameX_L ?zzF ?zzv ?_ ?zza ?zzb; (case zzF => k_asm); (case zza => rfl); (case zzb => rfl); (case zzv => ktr_unf); k_whole) | (refine' nameX_C ?zzN ?zzc ?zzm ?zzd ?_ ?zza ?zzb; (case zza => rfl); (case zzb => rfl); (case zzN => k_asm); (case zzc => rfl); (case zzm => first | k_mem | assumption); (case zzd => first | assumption | rfl); k_whole)))) | walk1) | (leave1; try dsimp only) | fail "no step"))
  exact hQ _ _ (by assumption) (News.drop1 (by assumption))
end
end Mine
end
section
open PyProof.Rows.LCt PySem PySem.W PyProof.Rows PySem.Calls PySem.Spec PyProof.Rows.LCg
set_option maxRecDepth 100000
namespace Mine
local macro_rules | `(tactic| ktr_unf) => `(tactic| first | assumption | (dsimp only; (repeat (first | (rw [if_pos (by decide)]) | (rw [if_neg (by decide)]))); first | rfl | assumption))
local macro_rules | `(tactic| k_all) => `(tactic| assumption)
local macro_rules | `(tactic| k_mem) => `(tactic| assumption)
example (w : World) (h : Heap) : (Mine.hd.heap_39 w.params).In h → rprog = PySem.Challenge.rw_wy0014_01.prog → True := by
  k_fill
  intros; trivial
noncomputable def cntE : PySem.Expr := match lawS 13 with | .Assign _ (.Call _ (x :: _) _ _) _ => x | _ => default
noncomputable def tstE : PySem.Expr := match cntE with | .ListComp _ (⟨_, _, c :: _, _⟩ :: _) _ _ => c | _ => default
section
variable {prog : Program} {w : World} {A : Around} {E : Value → Shared → Prop} {s : Shared} {h₀ : Heap} {L : Addr} {m : Str → Option Value} {env : Env}
/-- the turns of a one-clause comprehension with a test -/
theorem compRestT_J {ct elt : PySem.Expr} {x : Str} {scope : Scope} {cl : List (Str × Addr)} {Sx : List (Addr × Obj) → Prop} {P : Nat → Value → Prop} {Fin : List Value → List (Addr × Obj) → Prop} (J : Nat → List Value → List (Addr × Obj) → Prop) (n : Nat)
    (turn : ∀ i ys news v I oI C oC D m₂ h tk (E' : Value → Shared → Prop), i < n → J i ys news → P i v → NsObj oC m₂ → m₂ x = some v → Fr h₀ L h m → News h₀ L h ((I, oI) :: (C, oC) :: (D, lst ys) :: news) → Off3 I C D news →
      wpAny (model prog w) A (isTrue ct (compEnvC scope cl C env) (eval ct (compEnvC scope cl C env))) (fun ok s' => if ok = true then
        wpAny (model prog w) A (eval elt (compEnvC scope cl C env)) (CompEnd h₀ L m { s with heap := h, toks := tk } I oI C oC D (lst ys) Sx (fun y news' => J (i + 1) (ys ++ [y]) news')) E' s'
        else CompEnd h₀ L m { s with heap := h, toks := tk } I oI C oC D (lst ys) Sx (fun _ news' => J (i + 1) ys news') Value.none s') E' { s with heap := h, toks := tk })
    (fin : ∀ ys news, J n ys news → Fin ys news) : ∀ k i ys news, i + k = n → J i ys news → CompRestT prog w A h₀ L m env ct elt x scope cl s Sx P Fin k i ys news
  | 0, i, ys, news, e, hJ => CompRestT.zero (fin _ _ ((show i = n by lia) ▸ hJ))
  | k + 1, i, ys, news, e, hJ => CompRestT.succ fun v I oI C oC D m₂ h tk E' hP hC hx F N o ne =>
      wpAny_mono (turn i ys news v I oI C oC D m₂ h tk E' (by lia) hJ hP hC hx F N o) (fun ok s' c => by
        cases ok with
        | true =>
          simp only [if_true] at c ⊢
          exact wpAny_mono c (fun y s₂ c => CompEnd.mono c fun n' hJ' => compRestT_J J n turn fin k (i + 1) (ys ++ [y]) n' (by lia) hJ') fun _ _ e => e
        | false =>
          simp only [Bool.false_eq_true, if_false] at c ⊢
          exact CompEnd.mono c fun n' hJ' => compRestT_J J n turn fin k (i + 1) ys n' (by lia) hJ') fun _ _ e => e
end
local macro_rules | `(tactic| k_mem) => `(tactic| first | assumption | exact List.Mem.head _ | (refine List.mem_cons_of_mem _ ?_; k_mem))
section
variable {w : World} {mean : ExcName → Option Value} {mg mb : Str → Option Value} {g : Heap} {L a : Addr} {ccd : Value} {s : Shared} {m : Str → Option Value} {news : List (Addr × Obj)} {Q : Value → Shared → Prop} {E : Value → Shared → Prop}
end
section
variable {w : World} {mean : ExcName → Option Value} {mg mb : Str → Option Value} {g : Heap} {L a : Addr} {ccd : Value} {s : Shared} {m : Str → Option Value} {news : List (Addr × Obj)} {Q : Bool → Shared → Prop} {E : Value → Shared → Prop}

set_option maxHeartbeats 4000000 in
theorem cnt_tst {C D I : Addr} {oC oI : Obj} {mC : Str → Option Value} {ys : List Value} {x : Int} {t : Tok} (hC : NsObj oC mC) (hx : mC (Str.ofString "count") = some (.int x t)) (x0 : 0 ≤ x) (x1 : x < 100) {lsh : Addr} {oc : Obj} {vsh : List Value} {nsh : Nat} {sh : List Int} (hc : (L + 1 + 1, oc) ∈ news) (hcd : oc.data = .cell (some (.ref lsh))) (hshm : (lsh, listOf vsh.toArray nsh) ∈ news) (hshi : IntsAre vsh sh) (hshl : sh.length ≤ 99)
   (X : (Mine.hd.heap_39 w.params).In g) (T : Top Mine.hd.view_39 lo mean mg mb g) (F : Fr g L s.heap m) (N : News g L s.heap ((I, oI) :: (C, oC) :: (D, lst ys) :: news))
   (hQ : ∀ h' tk', Fr g L h' m → News g L h' ((I, oI) :: (C, oC) :: (D, lst ys) :: news) → Q (decide (x ≤ (sh.length : Int))) { s with heap := h', toks := tk' }) :
   wpAny (model rprog w) (callerA.deeper (envOfC (Str.ofString "law") lawScope L a ccd)) (isTrue tstE (compEnvC (lcScope cntE) [((Str.ofString "shadow"), L + 1 + 1)] C (envOfC (Str.ofString "law") lawScope L a ccd)) (eval tstE (compEnvC (lcScope cntE) [((Str.ofString "shadow"), L + 1 + 1)] C (envOfC (Str.ofString "law") lawScope L a ccd)))) Q E s := by
  show wpAny _ _ (isTrue (.Compare _ _ _ _) _ _) _ _ _
  w_strict (repeat' (first | (k_unfold; (try dsimp only)) | (k_end; wrow_close) | ((with_reducible show wpAny _ _ (call (Value.builtin "len") _ _) _ _ _); (k_here; k_dflt (refine' len_ints' ?zzl ?zzi ?zzz ?_; (case zzl => exact list_at (by k_asm) (by k_mem)); (case zzi => assumption); (case zzz => lia); k_whole); intro _ _)) | ((with_reducible show wpAny _ _ (eval (Expr.Name ..) _) _ _ _); (k_here; k_dflt (first | (refine' nameX_L ?zzF ?zzv ?_ ?zza ?zzb; (case zzF => k_asm); (case zza => rfl); (case zzb => rfl); (case zzv => ktr_unf); k_whole) | (refine' nameX_C ?zzN ?zzc ?zzm ?zzd ?_ ?zza ?zzb; (case zza => rfl); (case zzb => rfl); (case zzN => k_asm); (case zzc => rfl); (case zzm => first | k_mem | assumption); (case zzd => first | assumption | rfl); k_whole)))) | walk1 | (dsimp only; first | ((with_reducible show wpAny _ _ (call (Value.builtin "len") _ _) _ _ _); (k_here; k_dflt (refine' len_ints' ?zzl ?zzi ?zzz ?_; (case zzl => exact list_at (by k_asm) (by k_mem)); (case zzi => assumption); (case zzz => lia); k_whole); intro _ _)) | ((with_reducible show wpAny _ _ (eval (Expr.Name ..) _) _ _ _); (k_here; k_dflt (first | (refine' nameX_L ?zzF ?zzv ?_ ?zza ?zzb; (case zzF => k_asm); (case zza => rfl); (case zzb => rfl); (case zzv => ktr_unf); k_whole) | (refine' nameX_C ?zzN ?zzc ?zzm ?zzd ?_ ?zza ?zzb; (case zza => rfl); (case zzb => rfl); (case zzN => k_asm); (case zzc => rfl); (case zzm => first | k_mem | assumption); (case zzd => first | assumption | rfl); k_whole)))) | walk1) | (leave1; try dsimp only) | fail "no step"))
  exact hQ _ _ (by assumption) (by assumption)
end
section
variable {w : World} {mean : ExcName → Option Value} {mg mb : Str → Option Value} {g : Heap} {L a : Addr} {ccd : Value} {s : Shared} {m : Str → Option Value} {news : List (Addr × Obj)} {Q : Value → Shared → Prop} {E : Value → Shared → Prop}

set_option maxHeartbeats 4000000 in
theorem cnt_elt {C D I : Addr} {oC oI : Obj} {mC : Str → Option Value} {ys : List Value} {x : Int} {t : Tok} (hC : NsObj oC mC) (hx : mC (Str.ofString "count") = some (.int x t))
   (X : (Mine.hd.heap_39 w.params).In g) (T : Top Mine.hd.view_39 lo mean mg mb g) (F : Fr g L s.heap m) (N : News g L s.heap ((I, oI) :: (C, oC) :: (D, lst ys) :: news))
   (hQ : ∀ h' tk', Fr g L h' m → News g L h' ((I, oI) :: (C, oC) :: (D, lst ys) :: news) → Q (.int x t) { s with heap := h', toks := tk' }) :
   wpAny (model rprog w) (callerA.deeper (envOfC (Str.ofString "law") lawScope L a ccd)) (eval (eltOf cntE) (compEnvC (lcScope cntE) [((Str.ofString "shadow"), L + 1 + 1)] C (envOfC (Str.ofString "law") lawScope L a ccd))) Q E s := by
  show wpAny _ _ (eval (.Name _ _) _) _ _ _
  w_strict (repeat' (first | (k_unfold; (try dsimp only)) | (k_end; wrow_close) | ((with_reducible show wpAny _ _ (call (Value.builtin "len") _ _) _ _ _); (k_here; k_dflt (refine' len_ints' ?zzl ?zzi ?zzz ?_; (case zzl => exact list_at (by k_asm) (by k_mem)); (case zzi => assumption); (case zzz => lia); k_whole); intro _ _)) | ((with_reducible show wpAny _ _ (eval (Expr.Name ..) _) _ _ _); (k_here; k_dflt (first | (refine' nameX_L ?zzF ?zzv ?_ ?zza ?zzb; (case zzF => k_asm); (case zza => rfl); (case zzb => rfl); (case zzv => ktr_unf); k_whole) | (refine' nameX_C ?zzN ?zzc ?zzm ?zzd ?_ ?zza ?zzb; (case zza => rfl); (case zzb => rfl); (case zzN => k_asm); (case zzc => rfl); (case zzm => first | k_mem | assumption); (case zzd => first | assumption | rfl); k_whole)))) | walk1 | (dsimp only; first | ((with_reducible show wpAny _ _ (call (Value.builtin "len") _ _) _ _ _); (k_here; k_dflt (refine' len_ints' ?zzl ?zzi ?zzz ?_; (case zzl => exact list_at (by k_asm) (by k_mem)); (case zzi => assumption); (case zzz => lia); k_whole); intro _ _)) | ((with_reducible show wpAny _ _ (eval (Expr.Name ..) _) _ _ _); (k_here; k_dflt (first | (refine' nameX_L ?zzF ?zzv ?_ ?zza ?zzb; (case zzF => k_asm); (case zza => rfl); (case zzb => rfl); (case zzv => ktr_unf); k_whole) | (refine' nameX_C ?zzN ?zzc ?zzm ?zzd ?_ ?zza ?zzb; (case zza => rfl); (case zzb => rfl); (case zzN => k_asm); (case zzc => rfl); (case zzm => first | k_mem | assumption); (case zzd => first | assumption | rfl); k_whole)))) | walk1) | (leave1; try dsimp only) | fail "no step"))
  exact hQ _ _ (by assumption) (by assumption)
end
section
variable {w : World} {mean : ExcName → Option Value} {mg mb : Str → Option Value} {g : Heap} {L a : Addr} {ccd : Value} {s : Shared} {m : Str → Option Value} {news : List (Addr × Obj)} {Q : Value → Shared → Prop} {E : Value → Shared → Prop}

set_option maxHeartbeats 4000000 in
theorem cnt_list {lc : Addr} {vc : List Value} {nc : Nat} {cs : List Int} (hcs : m (Str.ofString "counts") = some (.ref lc)) (hcm : (lc, listOf vc.toArray nc) ∈ news) (hci : IntsAre vc cs) (hcb : ∀ x ∈ cs, 0 ≤ x ∧ x < 100) (hcl : cs.length ≤ 60) {lsh : Addr} {oc : Obj} {vsh : List Value} {nsh : Nat} {sh : List Int} (hc : (L + 1 + 1, oc) ∈ news) (hcd : oc.data = .cell (some (.ref lsh))) (hshm : (lsh, listOf vsh.toArray nsh) ∈ news) (hshi : IntsAre vsh sh) (hshl : sh.length ≤ 99)
   (X : (Mine.hd.heap_39 w.params).In g) (T : Top Mine.hd.view_39 lo mean mg mb g) (F : Fr g L s.heap m) (N : News g L s.heap news)
   (hQ : ∀ D vs h' tk', IntsAre vs (cs.filter fun x => decide (x ≤ (sh.length : Int))) → Fr g L h' m → News g L h' ((D, lst vs) :: news) → (∀ p ∈ news, p.1 ≠ D) → Q (.ref D) { s with heap := h', toks := tk' }) :
   wpAny (model rprog w) (callerA.deeper (envOfC (Str.ofString "law") lawScope L a ccd)) (eval cntE (envOfC (Str.ofString "law") lawScope L a ccd)) Q E s := by
  show wpAny _ _ (eval (.ListComp _ [⟨PySem.Expr.Name _ _, _, [_], 0⟩] _ _) _) _ _ _
  refine LCt.ListComp_T (h₀ := g) (L := L) (m := m) (cl := [(Str.ofString "shadow", L + 1 + 1)]) F (by rfl) (by decide) rfl (by decide) rfl ?_
  refine nameX_L F hcs ?_ rfl rfl
  refine LCt.CompSrcT.ledger rfl F N hcm (by rw [sizeLine_eq, List.size_toArray, hci.length]; lia) fun g' => ?_
  refine compRestT_J (J := fun i ys nw => IntsAre ys ((cs.take i).filter fun x => decide (x ≤ (sh.length : Int))) ∧ nw = news) vc.toArray.size ?_ ?_ _ 0 [] news (by lia) ⟨.nil, rfl⟩
  · rintro i ys nw v I oI C oC D m₂ h tk E' hlt ⟨hS, rfl⟩ hv hC hx F N off
    obtain ⟨c, t, rfl, hc'⟩ := ints_item (its := vc.toArray) (by simpa using hci) hv
    have hb := hcb c (List.mem_of_getElem? hc')
    have ht : cs.take (i + 1) = cs.take i ++ [c] := by simp [List.take_add_one, hc']
    refine cnt_tst hC hx hb.1 hb.2 hc hcd hshm hshi hshl X T F N fun h' tk' F' N' => ?_
    by_cases hle : c ≤ (sh.length : Int)
    · rw [decide_eq_true hle]
      simp only [if_true]
      refine cnt_elt hC hx X T F' N' fun h2 tk2 F2 N2 => CompEnd.same (s₁ := { s with heap := h, toks := tk }) F2 N2 off (.inr ⟨_, hcm, rfl, _, rfl⟩) ⟨?_, rfl⟩
      rw [ht, List.filter_append, show [c].filter (fun x => decide (x ≤ (sh.length : Int))) = [c] by simp [hle]]
      exact ints_snoc hS _ _
    · rw [decide_eq_false hle]
      simp only [Bool.false_eq_true, if_false]
      refine CompEnd.same (s₁ := { s with heap := h, toks := tk }) F' N' off (.inr ⟨_, hcm, rfl, _, rfl⟩) ⟨?_, rfl⟩
      rw [ht, List.filter_append, show [c].filter (fun x => decide (x ≤ (sh.length : Int))) = [] by simp [hle], List.append_nil]
      exact hS
  · rintro ys nw ⟨hS, rfl⟩
    intro D h' tk F' N' o1
    refine hQ D ys h' tk ?_ F' N' (Off1.mem o1)
    rwa [List.take_of_length_le (by rw [List.size_toArray, hci.length]; exact Nat.le_refl _)] at hS
end
section
variable {w : World} {mean : ExcName → Option Value} {mg mb : Str → Option Value} {g : Heap} {L a : Addr} {ccd : Value} {s : Shared} {m : Str → Option Value} {news : List (Addr × Obj)} {Q : Flow → Shared → Prop} {E : Value → Shared → Prop}

set_option maxHeartbeats 4000000 in
theorem la_most {lc : Addr} {vc : List Value} {nc : Nat} {cs : List Int} (hcs : m (Str.ofString "counts") = some (.ref lc)) (hcm : (lc, listOf vc.toArray nc) ∈ news) (hci : IntsAre vc cs) (hcb : ∀ x ∈ cs, 0 ≤ x ∧ x < 100) (hcl : cs.length ≤ 60) {lsh : Addr} {oc : Obj} {vsh : List Value} {nsh : Nat} {sh : List Int} (hc : (L + 1 + 1, oc) ∈ news) (hcd : oc.data = .cell (some (.ref lsh))) (hshm : (lsh, listOf vsh.toArray nsh) ∈ news) (hshi : IntsAre vsh sh) (hshl : sh.length ≤ 99) (hfl : (cs.filter fun x => decide (x ≤ (sh.length : Int))).length ≤ 1000) 
   (X : (Mine.hd.heap_39 w.params).In g) (T : Top Mine.hd.view_39 lo mean mg mb g) (F : Fr g L s.heap m) (N : News g L s.heap news)
   (hQ : ∀ t h' tk', Fr g L h' (fun z => if z = (Str.ofString "most") then some (.int ((cs.filter fun x => decide (x ≤ (sh.length : Int))).length : Int) t) else m z) → News g L h' news → Q .next { s with heap := h', toks := tk' }) :
   wpAny (model rprog w) (callerA.deeper (envOfC (Str.ofString "law") lawScope L a ccd)) (exec (lawS 13) (envOfC (Str.ofString "law") lawScope L a ccd)) Q E s := by
  show wpAny _ _ (exec (Stmt.Assign _ _ _) _) _ _ _
  w_strict (repeat' (first | (k_unfold; (try dsimp only)) | (k_end; wrow_close) | ((with_reducible show wpAny _ _ (call (Value.ref _) _ _) _ _ _); (k_here; k_dflt (refine' bisect_right_spec3 ?zzB ?zzF ?zzX ?zzN ?zzT ?zzhk ?zzhdp ?zzhun ?zzl ?zzi ?zzn ?zzS ?zzlo ?zzv ?_; (case zzB => k_asm); (case zzF => k_asm); (case zzX => k_asm); (case zzN => k_asm); (case zzT => k_asm); (case zzhk => exact rfl); (case zzl => exact list_at (by k_asm) (by k_mem)); (case zzi => assumption); (case zzn => assumption); (case zzS => assumption); (case zzlo => lia); (case zzv => assumption); (case zzhdp => decide); (case zzhun => decide); k_whole); intro _ _ _ _ _ _ _ _)) | ((with_reducible show wpAny _ _ (call (Value.builtin "len") _ _) _ _ _); (k_here; k_dflt (refine' len_ints' ?zzl ?zzi ?zzz ?_; (case zzl => exact list_at (by k_asm) (by k_mem)); (case zzi => assumption); (case zzz => first | lia | assumption); k_whole); intro _ _)) | ((with_reducible show wpAny _ _ (eval (Expr.ListComp ..) _) _ _ _); (k_here; k_dflt (refine' cnt_list ?zzw ?zzd ?zzP ?zzb ?zzl ?zzc ?zzcd ?zzsm ?zzsi ?zzsl ?zzX ?zzT ?zzF ?zzN ?_; (case zzX => k_asm); (case zzT => k_asm); (case zzF => k_asm); (case zzN => k_asm); (case zzw => assumption); (case zzd => k_mem); (case zzP => assumption); (case zzb => assumption); (case zzl => assumption); (case zzc => k_mem); (case zzcd => assumption); (case zzsm => k_mem); (case zzsi => assumption); (case zzsl => assumption); k_whole); intro _ _ _ _ _ _ _ _)) | ((with_reducible show wpAny _ _ (call (Value.builtin "len") _ _) _ _ _); (k_here; k_dflt (refine' len_ints' ?zzl ?zzi ?zzz ?_; (case zzl => exact list_at (by k_asm) (by k_mem)); (case zzi => assumption); (case zzz => lia); k_whole); intro _ _)) | ((with_reducible show wpAny _ _ (eval (Expr.Name ..) _) _ _ _); (k_here; k_dflt (first | (refine' nameX_L ?zzF ?zzv ?_ ?zza ?zzb; (case zzF => k_asm); (case zza => rfl); (case zzb => rfl); (case zzv => ktr_unf); k_whole) | (refine' nameX_C ?zzN ?zzc ?zzm ?zzd ?_ ?zza ?zzb; (case zza => rfl); (case zzb => rfl); (case zzN => k_asm); (case zzc => rfl); (case zzm => first | k_mem | assumption); (case zzd => first | assumption | rfl); k_whole)))) | walk1 | (dsimp only; first | ((with_reducible show wpAny _ _ (call (Value.ref _) _ _) _ _ _); (k_here; k_dflt (refine' bisect_right_spec3 ?zzB ?zzF ?zzX ?zzN ?zzT ?zzhk ?zzhdp ?zzhun ?zzl ?zzi ?zzn ?zzS ?zzlo ?zzv ?_; (case zzB => k_asm); (case zzF => k_asm); (case zzX => k_asm); (case zzN => k_asm); (case zzT => k_asm); (case zzhk => exact rfl); (case zzl => exact list_at (by k_asm) (by k_mem)); (case zzi => assumption); (case zzn => assumption); (case zzS => assumption); (case zzlo => lia); (case zzv => assumption); (case zzhdp => decide); (case zzhun => decide); k_whole); intro _ _ _ _ _ _ _ _)) | ((with_reducible show wpAny _ _ (call (Value.builtin "len") _ _) _ _ _); (k_here; k_dflt (refine' len_ints' ?zzl ?zzi ?zzz ?_; (case zzl => exact list_at (by k_asm) (by k_mem)); (case zzi => assumption); (case zzz => first | lia | assumption); k_whole); intro _ _)) | ((with_reducible show wpAny _ _ (eval (Expr.ListComp ..) _) _ _ _); (k_here; k_dflt (refine' cnt_list ?zzw ?zzd ?zzP ?zzb ?zzl ?zzc ?zzcd ?zzsm ?zzsi ?zzsl ?zzX ?zzT ?zzF ?zzN ?_; (case zzX => k_asm); (case zzT => k_asm); (case zzF => k_asm); (case zzN => k_asm); (case zzw => assumption); (case zzd => k_mem); (case zzP => assumption); (case zzb => assumption); (case zzl => assumption); (case zzc => k_mem); (case zzcd => assumption); (case zzsm => k_mem); (case zzsi => assumption); (case zzsl => assumption); k_whole); intro _ _ _ _ _ _ _ _)) | ((with_reducible show wpAny _ _ (call (Value.builtin "len") _ _) _ _ _); (k_here; k_dflt (refine' len_ints' ?zzl ?zzi ?zzz ?_; (case zzl => exact list_at (by k_asm) (by k_mem)); (case zzi => assumption); (case zzz => lia); k_whole); intro _ _)) | ((with_reducible show wpAny _ _ (eval (Expr.Name ..) _) _ _ _); (k_here; k_dflt (first | (refine' nameX_L ?zzF ?zzv ?_ ?zza ?zzb; (case zzF => k_asm); (case zza => rfl); (case zzb => rfl); (case zzv => ktr_unf); k_whole) | (refine' nameX_C ?zzN ?zzc ?zzm ?zzd ?_ ?zza ?zzb; (case zza => rfl); (case zzb => rfl); (case zzN => k_asm); (case zzc => rfl); (case zzm => first | k_mem | assumption); (case zzd => first | assumption | rfl); k_whole)))) | walk1) | (leave1; try dsimp only) | fail "no step"))
  rename IntsAre _ (List.filter _ _) => hI9
  rename Fr g L _ _ => F9
  exact hQ _ _ _ F9 (News.drop1 (by assumption))

set_option maxHeartbeats 4000000 in
theorem la_end {lc lf : Addr} {vc vf : List Value} {nc nf : Nat} {cs fam : List Int} {mm : Int} {tm : Tok} (hcs : m (Str.ofString "counts") = some (.ref lc)) (hcm : (lc, listOf vc.toArray nc) ∈ news) (hci : IntsAre vc cs) (hcl : cs.length ≤ 100) (hcp : cs.Pairwise (· ≤ ·)) (hfam : m (Str.ofString "family") = some (.ref lf)) (hfm : (lf, listOf vf.toArray nf) ∈ news) (hfi : IntsAre vf fam) (hfl : fam.length ≤ 99) (hm : m (Str.ofString "most") = some (.int mm tm)) {lsh : Addr} {oc : Obj} {vsh : List Value} {nsh : Nat} {sh : List Int} (hc : (L + 1 + 1, oc) ∈ news) (hcd : oc.data = .cell (some (.ref lsh))) (hshm : (lsh, listOf vsh.toArray nsh) ∈ news) (hshi : IntsAre vsh sh) (hshl : sh.length ≤ 99) (hv : InvR (sh.length : Int) cs ((fam.length : Int) + 1) cs.length) (hk : ∀ k, InvR (sh.length : Int) cs k k → k = mm) {base : Heap} (B : Below callerA base [] g)
   (X : (Mine.hd.heap_39 w.params).In g) (T : Top Mine.hd.view_39 lo mean mg mb g) (F : Fr g L s.heap m) (N : News g L s.heap news)
   (hQ : ∀ h' tk', Fr g L h' m → News g L h' news → Q (.ret (.bool true)) { s with heap := h', toks := tk' }) :
   wpAny (model rprog w) (callerA.deeper (envOfC (Str.ofString "law") lawScope L a ccd)) (exec (lawS 14) (envOfC (Str.ofString "law") lawScope L a ccd)) Q E s := by
  show wpAny _ _ (exec (Stmt.Return (some _) _) _) _ _ _
  w_strict (repeat' (first | (k_unfold; (try dsimp only)) | (k_end; wrow_close) | ((with_reducible show wpAny _ _ (call (Value.ref _) _ _) _ _ _); (k_here; k_dflt (refine' bisect_right_spec3 ?zzB ?zzF ?zzX ?zzN ?zzT ?zzhk ?zzhdp ?zzhun ?zzl ?zzi ?zzn ?zzS ?zzlo ?zzv ?_; (case zzB => k_asm); (case zzF => k_asm); (case zzX => k_asm); (case zzN => k_asm); (case zzT => k_asm); (case zzhk => exact rfl); (case zzl => exact list_at (by k_asm) (by k_mem)); (case zzi => assumption); (case zzn => assumption); (case zzS => assumption); (case zzlo => lia); (case zzv => assumption); (case zzhdp => decide); (case zzhun => decide); k_whole); intro _ _ _ _ _ _ _ _)) | ((with_reducible show wpAny _ _ (call (Value.builtin "len") _ _) _ _ _); (k_here; k_dflt (refine' len_ints' ?zzl ?zzi ?zzz ?_; (case zzl => exact list_at (by k_asm) (by k_mem)); (case zzi => assumption); (case zzz => first | lia | assumption); k_whole); intro _ _)) | ((with_reducible show wpAny _ _ (eval (Expr.ListComp ..) _) _ _ _); (k_here; k_dflt (refine' cnt_list ?zzw ?zzd ?zzP ?zzb ?zzl ?zzc ?zzcd ?zzsm ?zzsi ?zzsl ?zzX ?zzT ?zzF ?zzN ?_; (case zzX => k_asm); (case zzT => k_asm); (case zzF => k_asm); (case zzN => k_asm); (case zzw => assumption); (case zzd => k_mem); (case zzP => assumption); (case zzb => assumption); (case zzl => assumption); (case zzc => k_mem); (case zzcd => assumption); (case zzsm => k_mem); (case zzsi => assumption); (case zzsl => assumption); k_whole); intro _ _ _ _ _ _ _ _)) | ((with_reducible show wpAny _ _ (call (Value.builtin "len") _ _) _ _ _); (k_here; k_dflt (refine' len_ints' ?zzl ?zzi ?zzz ?_; (case zzl => exact list_at (by k_asm) (by k_mem)); (case zzi => assumption); (case zzz => lia); k_whole); intro _ _)) | ((with_reducible show wpAny _ _ (eval (Expr.Name ..) _) _ _ _); (k_here; k_dflt (first | (refine' nameX_L ?zzF ?zzv ?_ ?zza ?zzb; (case zzF => k_asm); (case zza => rfl); (case zzb => rfl); (case zzv => ktr_unf); k_whole) | (refine' nameX_C ?zzN ?zzc ?zzm ?zzd ?_ ?zza ?zzb; (case zza => rfl); (case zzb => rfl); (case zzN => k_asm); (case zzc => rfl); (case zzm => first | k_mem | assumption); (case zzd => first | assumption | rfl); k_whole)))) | walk1 | (dsimp only; first | ((with_reducible show wpAny _ _ (call (Value.ref _) _ _) _ _ _); (k_here; k_dflt (refine' bisect_right_spec3 ?zzB ?zzF ?zzX ?zzN ?zzT ?zzhk ?zzhdp ?zzhun ?zzl ?zzi ?zzn ?zzS ?zzlo ?zzv ?_; (case zzB => k_asm); (case zzF => k_asm); (case zzX => k_asm); (case zzN => k_asm); (case zzT => k_asm); (case zzhk => exact rfl); (case zzl => exact list_at (by k_asm) (by k_mem)); (case zzi => assumption); (case zzn => assumption); (case zzS => assumption); (case zzlo => lia); (case zzv => assumption); (case zzhdp => decide); (case zzhun => decide); k_whole); intro _ _ _ _ _ _ _ _)) | ((with_reducible show wpAny _ _ (call (Value.builtin "len") _ _) _ _ _); (k_here; k_dflt (refine' len_ints' ?zzl ?zzi ?zzz ?_; (case zzl => exact list_at (by k_asm) (by k_mem)); (case zzi => assumption); (case zzz => first | lia | assumption); k_whole); intro _ _)) | ((with_reducible show wpAny _ _ (eval (Expr.ListComp ..) _) _ _ _); (k_here; k_dflt (refine' cnt_list ?zzw ?zzd ?zzP ?zzb ?zzl ?zzc ?zzcd ?zzsm ?zzsi ?zzsl ?zzX ?zzT ?zzF ?zzN ?_; (case zzX => k_asm); (case zzT => k_asm); (case zzF => k_asm); (case zzN => k_asm); (case zzw => assumption); (case zzd => k_mem); (case zzP => assumption); (case zzb => assumption); (case zzl => assumption); (case zzc => k_mem); (case zzcd => assumption); (case zzsm => k_mem); (case zzsi => assumption); (case zzsl => assumption); k_whole); intro _ _ _ _ _ _ _ _)) | ((with_reducible show wpAny _ _ (call (Value.builtin "len") _ _) _ _ _); (k_here; k_dflt (refine' len_ints' ?zzl ?zzi ?zzz ?_; (case zzl => exact list_at (by k_asm) (by k_mem)); (case zzi => assumption); (case zzz => lia); k_whole); intro _ _)) | ((with_reducible show wpAny _ _ (eval (Expr.Name ..) _) _ _ _); (k_here; k_dflt (first | (refine' nameX_L ?zzF ?zzv ?_ ?zza ?zzb; (case zzF => k_asm); (case zza => rfl); (case zzb => rfl); (case zzv => ktr_unf); k_whole) | (refine' nameX_C ?zzN ?zzc ?zzm ?zzd ?_ ?zza ?zzb; (case zza => rfl); (case zzb => rfl); (case zzN => k_asm); (case zzc => rfl); (case zzm => first | k_mem | assumption); (case zzd => first | assumption | rfl); k_whole)))) | walk1) | (leave1; try dsimp only) | fail "no step"))
  rename InvR _ _ _ _ => hv9
  rw [hk _ hv9, beq_self_eq_true]
  exact hQ _ _ (by assumption) (by assumption)
end
end Mine
end
section
open PySem PySem.W PyProof.Rows PySem.Calls PySem.Spec PyProof.Rows.LCg
set_option maxRecDepth 100000
namespace Mine
section
variable {prog : Program} {w : World} {A : Around} {E : Value → Shared → Prop} {h₀ : Heap} {L : Addr} {m : Str → Option Value} {env : Env}
theorem block_L {elt iter target : PySem.Expr} {rest : List Comprehension} {scope : Scope} {cl : List (Str × Addr)} {pos : Pos} {s₂ : Shared} {I ld : Addr} {its : Array Value} {news : List (Addr × Obj)} {RR : Value → Addr → Result → Shared → Prop}
    (hh : A.handled = none) (hcell : ∀ y ∈ scope.names, y.2 ≠ .cell) (hkind : scope.kind = .function) (hI : s₂.heap.IsListIter I ld 0 ∧ s₂.heap.IsList ld its)
    (F : Fr h₀ L s₂.heap m) (N : News h₀ L s₂.heap news) (hIL : L ≠ I) (hI₀ : h₀.get? I = none) (off : ∀ p ∈ news, p.1 ≠ I) (hne : ld ≠ I)
    (run : ∀ C D mC h tk, CSt h₀ L m C D mC [] news h → (h.IsListIter I ld 0 ∧ h.IsList ld its) → I ≠ C → I ≠ D →
      codeAny (model prog w) A (.compLoop (.ListComp elt (⟨target, iter, [], 0⟩ :: rest) scope pos) 0 (.ref I) (.ref D) (compEnvC scope cl C env)) (RR (.ref D) C) { s₂ with heap := h, toks := tk }) :
    wpAny (model prog w) A (newList []) (fun acc s₃ => wpAny (model prog w) A (newFunctionEnv scope env.globals cl [] env.qual none .none (some env)) (fun cenv s₄ =>
      codeAny (model prog w) A (.compStart (.ListComp elt (⟨target, iter, [], 0⟩ :: rest) scope pos) 0 (.ref I) acc { cenv with scope := relabel scope env }) (RR acc cenv.locals) s₄) E s₃) E s₂ := by
  refine wpAny_newObj_type (wpAny_newFunctionEnv hcell (by intro y hy; simp at hy) (fun h₁ hns₁ hsb₁ => ?_) hkind)
  dsimp only at hns₁ hsb₁ ⊢
  generalize hH2 : s₂.heap.push { cls := .type "list", dict := none, data := .seq ([] : List Value).toArray } = H2 at hns₁ hsb₁ ⊢
  have hC : H2.objs.size = s₂.heap.objs.size + 1 := by rw [← hH2, Heap.size_push]
  have hDC : s₂.heap.objs.size ≠ H2.objs.size := by rw [hC]; exact Nat.ne_of_lt (Nat.lt_succ_self _)
  have below : ∀ b, b < s₂.heap.objs.size → b ≠ H2.objs.size ∧ b ≠ s₂.heap.objs.size := fun b hb => ⟨by rw [hC]; exact Nat.ne_of_lt (Nat.lt_succ_of_lt hb), Nat.ne_of_lt hb⟩
  have hIlt : I < s₂.heap.objs.size := by
    obtain ⟨_, e, _⟩ := hI.1
    exact Heap.lt_size e
  have old : ∀ b o, s₂.heap.get? b = some o → h₁.get? b = some o := fun b o e => hsb₁.extBut b o (below b (Heap.lt_size e)).1 (Heap.get?_push_of_some _ (hH2 ▸ Heap.get?_push_of_some _ e))
  have hacc : h₁.get? s₂.heap.objs.size = some (lst []) := hsb₁.extBut _ _ hDC (Heap.get?_push_of_some _ (hH2 ▸ Heap.get?_push_size _ rfl))
  have hst₁ : h₁.IsListIter I ld 0 ∧ h₁.IsList ld its := ⟨by obtain ⟨o, e, r⟩ := hI.1; exact ⟨o, old _ _ e, r⟩, by obtain ⟨o, e, r⟩ := hI.2; exact ⟨o, old _ _ e, r⟩⟩
  have fresh : ∀ a, s₂.heap.objs.size ≤ a → s₂.heap.get? a = none := fun a ha => by
    cases e : s₂.heap.get? a with
    | none => rfl
    | some o' => exact absurd (Heap.lt_size e) (Nat.not_lt.mpr ha)
  have fresh₀ : ∀ a, s₂.heap.objs.size ≤ a → h₀.get? a = none := fun a ha => by
    cases e : h₀.get? a with
    | none => rfl
    | some o' => have := F.keep a o' e; rw [fresh a ha] at this; cases this
  have hD₀ : h₀.get? s₂.heap.objs.size = none := fresh₀ _ (Nat.le_refl _)
  have hC₀ : h₀.get? H2.objs.size = none := fresh₀ _ (by rw [hC]; exact Nat.le_succ _)
  have hLlt : L < s₂.heap.objs.size := F.ns.lt
  have go := run H2.objs.size s₂.heap.objs.size _ h₁ (s₂.toks + ([] : List (Str × Value)).length)
    ⟨F.keeps old, fun p hp => ⟨old _ _ (N p hp).1, (N p hp).2⟩, hacc, hns₁, hDC.symm, Ne.symm (below L hLlt).1, Ne.symm (below L hLlt).2, hC₀, hD₀, fun p hp => ⟨(below _ (Heap.lt_size (N p hp).1)).1, (below _ (Heap.lt_size (N p hp).1)).2⟩⟩ hst₁ (below I hIlt).1 (below I hIlt).2
  refine start_any (d := 0) rfl go ?_
  have W := Walks.list (prog := prog) (w := w) (A := A) hh I ld hne its
  exact W.self 0 _ _ _ hst₁ go
end
section
variable {w : World} {mean : ExcName → Option Value} {mg mb : Str → Option Value} {g : Heap} {L a : Addr} {ccd : Value} {s : Shared} {m : Str → Option Value} {p p0 tp px px2 py spos : Pos} {kk : Nat} {news : List (Addr × Obj)} {Q : Flow → Shared → Prop} {E : Value → Shared → Prop}
theorem assign_sid (X : (Mine.hd.heap_39 w.params).In g) (T : Top Mine.hd.view_39 lo mean mg mb g) (F : Fr g L s.heap m) (N : News g L s.heap news) {lt ld : Addr} {oc : Obj} {vt vd : List Value} {nt nd : Nat} {rs : List Int}
    (hsw : swapsWith (sidL p p0 tp px px2 kk) (some (.Name (Str.ofString "sides") py)) spos.line (lawE L a ccd) = pure true)
    (hcl : closureFor (lcScope sidE) (lawE L a ccd) = pure [(Str.ofString "triples", L + 1)])
    (hdn : m (Str.ofString "due") = some (.ref ld)) (hd : (ld, listOf vd.toArray nd) ∈ news) (hdi : IntsAre vd rs) (hrs : ∀ r ∈ rs, 0 ≤ r ∧ r < 20) (hl : rs.length ≤ 12)
    (hc : (L + 1, oc) ∈ news) (hcd : oc.data = .cell (some (.ref lt))) (hlt : (lt, listOf vt.toArray nt) ∈ news) (hT : TriAre news vt (rowC 6))
    (ev : ∀ Q' : Value → Shared → Prop, Q' (.ref ld) s → wpAny (model rprog w) (lawA L a ccd) (eval (iterOf sidE 0) (lawE L a ccd)) Q' E s)
    (hQ : ∀ D ys extra h' tk', Fr g L h' (fun z => if z = Str.ofString "sides" then some (.ref D) else m z) → News g L h' ((D, lst ys) :: extra) → (∀ q ∈ extra, q.1 ≠ D) → Grown news extra → PrsAre extra ys (sidesAll rs) → Q .next { s with heap := h', toks := tk' }) :
    wpAny (model rprog w) (lawA L a ccd) (exec (.Assign [.Name (Str.ofString "sides") py] (sidL p p0 tp px px2 kk) spos) (lawE L a ccd)) Q E s := by
  have hk : (lcScope sidE).kind = .function := rfl
  rw [exec_Assign_Name_used _ _ _ _ hsw]
  refine wpAny_bind (wpAny_standAt (wpAny_bind ?_))
  show wpAny _ (lawA L a ccd) (do let _ ← comprehension (sidL p p0 tp px px2 kk) (lcScope sidE) (lawE L a ccd) _ (newList []) false (eval (iterOf sidE 0) (lawE L a ccd)) (some (assign (.Name (Str.ofString "sides") py) (lawE L a ccd)))) _ _ s
  refine wpAny_bind (wpAny_mono (wpAny_comprehension_free (use := some (assign (.Name (Str.ofString "sides") py) (lawE L a ccd))) (Q := fun _ s' => Q .next s') rfl (fun _ => rfl) hcl hk (by decide)
    (ev _ ?_)) (fun _ s' hq => wpAny_pure (wpAny_pure hq)) fun _ _ e => e)
  have hlL : s.heap.IsList ld vd.toArray := ⟨_, (N _ hd).1, rfl, _, rfl⟩
  have hne : ld ≠ s.heap.objs.size := Nat.ne_of_lt (Heap.lt_size (N _ hd).1)
  refine wpAny_pyIter_list hlL ?_
  have up : ∀ b o, s.heap.get? b = some o → (s.heap.push { cls := .type "list_iterator", data := .fields #[.ref ld, .int 0 0] }).get? b = some o := fun b o e => Heap.get?_push_of_some _ e
  have off : ∀ q ∈ news, q.1 ≠ s.heap.objs.size := fun q hq => Nat.ne_of_lt (Heap.lt_size (N q hq).1)
  refine block_L (ld := ld) (its := vd.toArray) rfl (by decide) hk ⟨⟨_, Heap.get?_push_size _ rfl, rfl, rfl⟩, hlL.push _⟩ (F.keeps up) (N.grown up) (Nat.ne_of_lt F.ns.lt) (next_is_new F) off hne fun C D mC h tk st hI iC iD => ?_
  refine codeAny_mono (sid_lvl0 (K := fun s₅ => ∀ f, compPost (model rprog w) (lawA L a ccd) E (some (assign (.Name (Str.ofString "sides") py) (lawE L a ccd))) (fun _ s' => Q .next s') (.ref D) C (.ok f) s₅) X T st hI iC iD (Ne.symm (Nat.ne_of_lt F.ns.lt)) (next_is_new F) off hd hdi hrs hl hc hcd hlt hT fun mC' ys' extra' h' tk' st' hg hP f => ?_) fun r s₅ hr => ?_
  · show wpAny _ (lawA L a ccd) (assign (.Name (Str.ofString "sides") py) (lawE L a ccd) (.ref D)) _ _ _
    refine wpAny_assign_Name (wpAny_storeName_local rfl st'.fr.ns (fun h₂ hn₂ hs₂ => ?_) rfl)
    have hL₀ : g.get? (lawE L a ccd).locals = none := Heap.get?_none_of_le F.above
    have F₂ : Fr g L h₂ (fun z => if z = Str.ofString "sides" then some (.ref D) else m z) := ⟨hn₂, fun b o e => hs₂.extBut b o (fun q => by rw [q, hL₀] at e; cases e) (st'.fr.keep b o e), F.above⟩
    refine ⟨mC', st'.ns.sameBut hs₂ st'.cl, fun h'' hs'' => hQ D ys' extra' h'' _ (F₂.change hs'' st'.cl st'.c0) (fun q hq => ?_) (fun q hq => (st'.offs q hq).2) hg hP⟩
    rcases List.mem_cons.mp hq with rfl | hq
    · exact ⟨hs''.extBut _ _ st'.cd.symm (hs₂.extBut _ _ st'.dL st'.dl), st'.dL, st'.d0⟩
    · have z := st'.led q hq
      exact ⟨hs''.extBut _ _ (st'.offs q hq).1 (hs₂.extBut _ _ z.2.1 z.1), z.2⟩
  · obtain ⟨f, rfl, hK⟩ := hr
    exact hK f
end
end Mine
end
section
open PySem PySem.W PyProof.Rows PySem.Calls PySem.Spec PyProof.Rows.LCg
set_option maxRecDepth 100000
namespace Mine
example (w : World) (h : Heap) : (Mine.hd.heap_39 w.params).In h → rprog = PySem.Challenge.rw_wy0014_01.prog → True := by
  k_fill
  intros; trivial
section
variable {w : World} {mean : ExcName → Option Value} {mg mb : Str → Option Value} {g : Heap} {L a : Addr} {ccd : Value} {s : Shared} {m : Str → Option Value} {news : List (Addr × Obj)} {Q : Flow → Shared → Prop} {E : Value → Shared → Prop}

set_option maxHeartbeats 4000000 in
theorem la_sides {lt ld : Addr} {oc : Obj} {vt vd : List Value} {nt nd : Nat} {rs : List Int} (hdn : m (Str.ofString "due") = some (.ref ld)) (hd : (ld, listOf vd.toArray nd) ∈ news) (hdi : IntsAre vd rs) (hrs : ∀ r ∈ rs, 0 ≤ r ∧ r < 20) (hl : rs.length ≤ 12) (hc : (L + 1, oc) ∈ news) (hcd : oc.data = .cell (some (.ref lt))) (hlt : (lt, listOf vt.toArray nt) ∈ news) (hT : TriAre news vt (rowC 6))
   (X : (Mine.hd.heap_39 w.params).In g) (T : Top Mine.hd.view_39 lo mean mg mb g) (F : Fr g L s.heap m) (N : News g L s.heap news)
   (hQ : ∀ D ys extra h' tk', Fr g L h' (fun z => if z = (Str.ofString "sides") then some (.ref D) else m z) → News g L h' ((D, lst ys) :: extra) → (∀ q ∈ extra, q.1 ≠ D) → Grown news extra → PrsAre extra ys (sidesAll rs) → Q .next { s with heap := h', toks := tk' }) :
   wpAny (model rprog w) (callerA.deeper (envOfC (Str.ofString "law") lawScope L a ccd)) (exec (lawS 7) (envOfC (Str.ofString "law") lawScope L a ccd)) Q E s := by
  show wpAny _ _ (exec (Stmt.Assign [PySem.Expr.Name _ _] (PySem.Expr.ListComp _ [⟨PySem.Expr.Name _ _, _, [], 0⟩, ⟨PySem.Expr.Tuple [PySem.Expr.Name _ _, PySem.Expr.Name _ _] _ _, _, [], 0⟩] _ _) _) _) _ _ _
  refine assign_sid X T F N ?_ (by rfl) hdn hd hdi hrs hl hc hcd hlt hT (fun Q' q => ?_) hQ
  · with_unfolding_all rfl
  · exact nameX_L F hdn q rfl rfl
end
end Mine
end
section
open PySem PySem.W PyProof.Rows PySem.Calls PySem.Spec PyProof.Rows.LCg
set_option maxRecDepth 100000
namespace Mine
local macro_rules | `(tactic| ktr_unf) => `(tactic| first | assumption | (dsimp only; (repeat (first | (rw [if_pos (by decide)]) | (rw [if_neg (by decide)]))); first | rfl | assumption))
local macro_rules | `(tactic| k_all) => `(tactic| assumption)
local macro_rules | `(tactic| k_mem) => `(tactic| assumption)
example (w : World) (h : Heap) : (Mine.hd.heap_39 w.params).In h → rprog = PySem.Challenge.rw_wy0014_01.prog → True := by
  k_fill
  intros; trivial
/-- ints that make a small set -/
noncomputable def Few (ns : List Int) : Prop := (∀ n ∈ ns, 0 ≤ n ∧ n < 20) ∧ ∀ m : List Int, m.Nodup → (∀ z ∈ m, z ∈ ns) → m.length ≤ 17
local macro_rules | `(tactic| k_mem) => `(tactic| first | assumption | exact List.Mem.head _ | (refine List.mem_cons_of_mem _ ?_; k_mem))
section
variable {w : World} {mean : ExcName → Option Value} {mg mb : Str → Option Value} {g : Heap} {L a : Addr} {ccd : Value} {s : Shared} {m : Str → Option Value} {news : List (Addr × Obj)} {Q : Flow → Shared → Prop} {E : Value → Shared → Prop}

set_option maxHeartbeats 4000000 in
theorem la_due {ld : Addr} {vd : List Value} {nd : Nat} {ns : List Int} (hd : m (Str.ofString "drawn") = some (.ref ld)) (hdm : (ld, listOf vd.toArray nd) ∈ news) (hi : IntsAre vd ns) (hf : Few ns)
   (X : (Mine.hd.heap_39 w.params).In g) (T : Top Mine.hd.view_39 lo mean mg mb g) (F : Fr g L s.heap m) (N : News g L s.heap news)
   (hQ : ∀ D vs ks c h' tk', Fr g L h' (fun z => if z = (Str.ofString "due") then some (.ref D) else m z) → News g L h' ((D, listOf (List.toArray vs) c) :: news) → (∀ p ∈ news, p.1 ≠ D) → IntsAre vs ks → ks.Pairwise (· < ·) → (∀ z, z ∈ ks ↔ z ∈ ns) → Q .next { s with heap := h', toks := tk' }) :
   wpAny (model rprog w) (callerA.deeper (envOfC (Str.ofString "law") lawScope L a ccd)) (exec (lawS 6) (envOfC (Str.ofString "law") lawScope L a ccd)) Q E s := by
  show wpAny _ _ (exec (Stmt.Assign _ _ _) _) _ _ _
  w_strict (repeat' (first | (k_unfold; (try dsimp only)) | (k_end; wrow_close) | ((with_reducible show wpAny _ _ (call (Value.builtin "sorted") _ _) _ _ _); (k_here; k_dflt (refine' sorted_set ?zzh ?zzF ?zzN ?zzS ?zzg ?zzl ?zzm ?_; (case zzh => exact rfl); (case zzF => k_asm); (case zzN => k_asm); (case zzS => exact List.Mem.head _); (case zzg => assumption); (case zzl => assumption); (case zzm => assumption); k_whole); intro _ _ _ _ _ _ _ _ _ _ _ _)) | ((with_reducible show wpAny _ _ (call (Value.type "set") _ _) _ _ _); (k_here; k_dflt (refine' set_of_list ?zzh ?zzF ?zzN ?zzl ?zzi ?zzb ?zzc ?_; (case zzh => exact rfl); (case zzF => k_asm); (case zzN => k_asm); (case zzl => exact list_at (by k_asm) (by k_mem)); (case zzi => assumption); (case zzb => exact And.left (by assumption : Few _)); (case zzc => exact And.right (by assumption : Few _)); k_whole); intro _ _ _ _ _ _ _ _ _ _ _ _)) | ((with_reducible show wpAny _ _ (eval (Expr.Name ..) _) _ _ _); (k_here; k_dflt (first | (refine' nameX_L ?zzF ?zzv ?_ ?zza ?zzb; (case zzF => k_asm); (case zza => rfl); (case zzb => rfl); (case zzv => ktr_unf); k_whole) | (refine' nameX_C ?zzN ?zzc ?zzm ?zzd ?_ ?zza ?zzb; (case zza => rfl); (case zzb => rfl); (case zzN => k_asm); (case zzc => rfl); (case zzm => first | k_mem | assumption); (case zzd => first | assumption | rfl); k_whole)))) | walk1 | (dsimp only; first | ((with_reducible show wpAny _ _ (call (Value.builtin "sorted") _ _) _ _ _); (k_here; k_dflt (refine' sorted_set ?zzh ?zzF ?zzN ?zzS ?zzg ?zzl ?zzm ?_; (case zzh => exact rfl); (case zzF => k_asm); (case zzN => k_asm); (case zzS => exact List.Mem.head _); (case zzg => assumption); (case zzl => assumption); (case zzm => assumption); k_whole); intro _ _ _ _ _ _ _ _ _ _ _ _)) | ((with_reducible show wpAny _ _ (call (Value.type "set") _ _) _ _ _); (k_here; k_dflt (refine' set_of_list ?zzh ?zzF ?zzN ?zzl ?zzi ?zzb ?zzc ?_; (case zzh => exact rfl); (case zzF => k_asm); (case zzN => k_asm); (case zzl => exact list_at (by k_asm) (by k_mem)); (case zzi => assumption); (case zzb => exact And.left (by assumption : Few _)); (case zzc => exact And.right (by assumption : Few _)); k_whole); intro _ _ _ _ _ _ _ _ _ _ _ _)) | ((with_reducible show wpAny _ _ (eval (Expr.Name ..) _) _ _ _); (k_here; k_dflt (first | (refine' nameX_L ?zzF ?zzv ?_ ?zza ?zzb; (case zzF => k_asm); (case zza => rfl); (case zzb => rfl); (case zzv => ktr_unf); k_whole) | (refine' nameX_C ?zzN ?zzc ?zzm ?zzd ?_ ?zza ?zzb; (case zza => rfl); (case zzb => rfl); (case zzN => k_asm); (case zzc => rfl); (case zzm => first | k_mem | assumption); (case zzd => first | assumption | rfl); k_whole)))) | walk1) | (leave1; try dsimp only) | fail "no step"))
  rename_i S1 h1 tk1 es1 ep1 t1 l1 g1 hl1 hm1 D2 h2 tk2 vs2 ks2 c2 l2 i2 p2 m2 h3 F3 N3
  refine hQ D2 vs2 ks2 c2 _ _ F3 (fun p hp => N3 p ?_) (fun p hp => Nat.ne_of_lt (l2 p (List.mem_cons_of_mem _ hp))) i2 p2 m2
  rcases List.mem_cons.mp hp with rfl | hp
  · exact List.mem_cons_self
  · exact List.mem_cons_of_mem _ (List.mem_cons_of_mem _ hp)
end
end Mine
end
section
open PyProof.Rows.LCp PySem PySem.W PyProof.Rows PySem.Calls PySem.Spec PyProof.Rows.LCg
set_option maxRecDepth 100000
namespace Mine
local macro_rules | `(tactic| ktr_unf) => `(tactic| first | assumption | (dsimp only; (repeat (first | (rw [if_pos (by decide)]) | (rw [if_neg (by decide)]))); first | rfl | assumption))
local macro_rules | `(tactic| k_all) => `(tactic| assumption)
local macro_rules | `(tactic| k_mem) => `(tactic| assumption)
example (w : World) (h : Heap) : (Mine.hd.heap_39 w.params).In h → rprog = PySem.Challenge.rw_wy0014_01.prog → True := by
  k_fill
  intros; trivial
noncomputable def numE : PySem.Expr := match lawS 8 with | .If (.BoolOp _ (_ :: .Compare _ _ (.Call _ (.Call _ (x :: _) _ _ :: _) _ _ :: _) _ :: _) _) _ _ _ => x | _ => default
noncomputable def pairNum (p : Int × Int) : Int := (p.1 * (p.1 - 1)).fdiv 2 + p.2
section
variable {w : World} {mean : ExcName → Option Value} {mg mb : Str → Option Value} {g : Heap} {L a : Addr} {ccd : Value} {s : Shared} {m : Str → Option Value} {news : List (Addr × Obj)} {Q : Value → Shared → Prop} {E : Value → Shared → Prop}

set_option maxHeartbeats 4000000 in
theorem num_elt {C D I : Addr} {oC oI : Obj} {mC : Str → Option Value} {ys : List Value} {x y : Int} {t u : Tok} {cl : List (Str × Addr)} (hC : NsObj oC mC) (hx : mC (Str.ofString "high") = some (.int x t)) (hy : mC (Str.ofString "low") = some (.int y u)) (x0 : 0 ≤ x) (x1 : x < 6) (y0 : 0 ≤ y) (y1 : y < 6)
   (X : (Mine.hd.heap_39 w.params).In g) (T : Top Mine.hd.view_39 lo mean mg mb g) (F : Fr g L s.heap m) (N : News g L s.heap ((I, oI) :: (C, oC) :: (D, lst ys) :: news))
   (hQ : ∀ t' h' tk', Fr g L h' m → News g L h' ((I, oI) :: (C, oC) :: (D, lst ys) :: news) → Q (.int (pairNum (x, y)) t') { s with heap := h', toks := tk' }) :
   wpAny (model rprog w) (callerA.deeper (envOfC (Str.ofString "law") lawScope L a ccd)) (eval (eltOf numE) (compEnvC (lcScope numE) cl C (envOfC (Str.ofString "law") lawScope L a ccd))) Q E s := by
  show wpAny _ _ (eval (.BinOp _ _ _ _) _) _ _ _
  w_strict (repeat' (first | (k_unfold; (try dsimp only)) | (k_end; wrow_close) | ((with_reducible show wpAny _ _ (eval (Expr.Name ..) _) _ _ _); (k_here; k_dflt (first | (refine' nameX_L ?zzF ?zzv ?_ ?zza ?zzb; (case zzF => k_asm); (case zza => rfl); (case zzb => rfl); (case zzv => ktr_unf); k_whole) | (refine' nameX_C ?zzN ?zzc ?zzm ?zzd ?_ ?zza ?zzb; (case zza => rfl); (case zzb => rfl); (case zzN => k_asm); (case zzc => rfl); (case zzm => first | k_mem | assumption); (case zzd => first | assumption | rfl); k_whole)))) | walk1 | (dsimp only; first | ((with_reducible show wpAny _ _ (eval (Expr.Name ..) _) _ _ _); (k_here; k_dflt (first | (refine' nameX_L ?zzF ?zzv ?_ ?zza ?zzb; (case zzF => k_asm); (case zza => rfl); (case zzb => rfl); (case zzv => ktr_unf); k_whole) | (refine' nameX_C ?zzN ?zzc ?zzm ?zzd ?_ ?zza ?zzb; (case zza => rfl); (case zzb => rfl); (case zzN => k_asm); (case zzc => rfl); (case zzm => first | k_mem | assumption); (case zzd => first | assumption | rfl); k_whole)))) | walk1) | (leave1; try dsimp only) | fail "no step"))
  exact hQ _ _ _ (by assumption) (by assumption)
end
section
variable {prog : Program} {w : World} {A : Around} {E : Value → Shared → Prop} {s : Shared} {h₀ : Heap} {L : Addr} {m : Str → Option Value} {env : Env}
/-- the turns of a one-clause comprehension over pairs -/
theorem compRestP_J {elt : PySem.Expr} {x x₂ : Str} {scope : Scope} {cl : List (Str × Addr)} {Sx : List (Addr × Obj) → Prop} {P : Nat → Value → Prop} {Fin : List Value → List (Addr × Obj) → Prop} (J : Nat → List Value → List (Addr × Obj) → Prop) (n : Nat)
    (turn : ∀ i ys news v, i < n → J i ys news → P i v → ∃ (t : Addr) (ot : Obj) (v₁ v₂ : Value) (nt : Nat), v = .ref t ∧ (t, ot) ∈ news ∧ ot.cls = .type "tuple" ∧ ot.data = .seq #[v₁, v₂] nt ∧
      ∀ I oI C oC D m₂ h tk (E' : Value → Shared → Prop), NsObj oC m₂ → m₂ x = some v₁ → m₂ x₂ = some v₂ → Fr h₀ L h m → News h₀ L h ((I, oI) :: (C, oC) :: (D, lst ys) :: news) → Off3 I C D news → ((@Ne Nat I C) ∧ (@Ne Nat I D) ∧ (@Ne Nat C D)) →
      wpAny (model prog w) A (eval elt (compEnvC scope cl C env)) (CompEnd h₀ L m { s with heap := h, toks := tk } I oI C oC D (lst ys) Sx (fun y news' => J (i + 1) (ys ++ [y]) news')) E' { s with heap := h, toks := tk })
    (fin : ∀ ys news, J n ys news → Fin ys news) : ∀ k i ys news, i + k = n → J i ys news → CompRestP prog w A h₀ L m env elt x x₂ scope cl s Sx P Fin k i ys news
  | 0, i, ys, news, e, hJ => CompRestP.zero (fin _ _ ((show i = n by lia) ▸ hJ))
  | k + 1, i, ys, news, e, hJ => CompRestP.succ fun v hP => by
      obtain ⟨t, ot, v₁, v₂, nt, e1, e2, e3, e4, hh⟩ := turn i ys news v (by lia) hJ hP
      exact ⟨t, ot, v₁, v₂, nt, e1, e2, e3, e4, fun I oI C oC D m₂ h tk E' hC hx hx₂ F N o ne =>
        wpAny_mono (hh I oI C oC D m₂ h tk E' hC hx hx₂ F N o ne) (fun y s' c => CompEnd.mono c fun n' hJ' => compRestP_J J n turn fin k (i + 1) (ys ++ [y]) n' (by lia) hJ') fun _ _ e => e⟩
end
theorem prs_get {extra : List (Addr × Obj)} {ys : List Value} {l : List (Int × Int)} (h : PrsAre extra ys l) {i : Nat} {v : Value} (hv : ys.toArray[i]? = some v) : ∃ q x y t u, v = .ref q ∧ (q, pairObj x y t u) ∈ extra ∧ l[i]? = some (x, y) := by
  have hv' : ys[i]? = some v := by simpa using hv
  clear hv
  induction h generalizing i with
  | nil => simp at hv'
  | cons hh _ ih =>
    cases i with
    | zero =>
      obtain ⟨q, t, u, rfl, hm⟩ := hh
      exact ⟨q, _, _, t, u, by simpa using hv'.symm, hm, rfl⟩
    | succ i => simpa using ih (i := i) (by simpa using hv')
section
variable {w : World} {mean : ExcName → Option Value} {mg mb : Str → Option Value} {g : Heap} {L a : Addr} {ccd : Value} {s : Shared} {m : Str → Option Value} {news : List (Addr × Obj)} {Q : Value → Shared → Prop} {E : Value → Shared → Prop}

set_option maxHeartbeats 4000000 in
theorem num_list {lw : Addr} {vd : List Value} {nd : Nat} {ps : List (Int × Int)} (hw : m (Str.ofString "sides") = some (.ref lw)) (hd : (lw, listOf vd.toArray nd) ∈ news) (hP : PrsAre news vd ps) (hb : ∀ p ∈ ps, 0 ≤ p.1 ∧ p.1 < 6 ∧ 0 ≤ p.2 ∧ p.2 < 6) (hl : ps.length ≤ 60)
   (X : (Mine.hd.heap_39 w.params).In g) (T : Top Mine.hd.view_39 lo mean mg mb g) (F : Fr g L s.heap m) (N : News g L s.heap news)
   (hQ : ∀ D vs h' tk', IntsAre vs (ps.map pairNum) → Fr g L h' m → News g L h' ((D, lst vs) :: news) → (∀ p ∈ news, p.1 ≠ D) → Q (.ref D) { s with heap := h', toks := tk' }) :
   wpAny (model rprog w) (callerA.deeper (envOfC (Str.ofString "law") lawScope L a ccd)) (eval numE (envOfC (Str.ofString "law") lawScope L a ccd)) Q E s := by
  show wpAny _ _ (eval (.ListComp _ [⟨PySem.Expr.Tuple [PySem.Expr.Name _ _, PySem.Expr.Name _ _] _ _, _, [], 0⟩] _ _) _) _ _ _
  refine LCp.ListComp_P (h₀ := g) (L := L) (m := m) (cl := []) F rfl (by decide) rfl (by decide) rfl rfl (by decide) ?_
  refine nameX_L F hw ?_ rfl rfl
  refine LCp.SrcLP.ledger rfl F N hd ?_ fun g' => ?_
  · rw [sizeLine_eq, List.size_toArray, hP.length]; lia
  refine compRestP_J (J := fun i ys nw => IntsAre ys ((ps.take i).map pairNum) ∧ nw = news) vd.toArray.size ?_ ?_ _ 0 [] news (by lia) ⟨.nil, rfl⟩
  · rintro i ys nw v hlt ⟨hS, rfl⟩ hv
    obtain ⟨q, x, y, t, u, rfl, hq, hp⟩ := prs_get hP hv
    have hpb := hb (x, y) (List.mem_of_getElem? hp)
    refine ⟨q, _, .int x t, .int y u, _, rfl, hq, rfl, rfl, ?_⟩
    intro I oI C oC D m₂ h tk E' hC hx hx₂ F N off ne
    refine num_elt hC hx hx₂ hpb.1 hpb.2.1 hpb.2.2.1 hpb.2.2.2 X T F N fun t' h' tk' F' N' => CompEnd.same F' N' off (.inr ⟨_, hd, rfl, _, rfl⟩) ⟨?_, rfl⟩
    rw [show ps.take (i + 1) = ps.take i ++ [(x, y)] by simp [List.take_add_one, hp], List.map_append]
    exact ints_snoc hS _ _
  · rintro ys nw ⟨hS, rfl⟩
    intro D h' tk F' N' o1
    refine hQ D ys h' tk ?_ F' N' (Off1.mem o1)
    rwa [List.take_of_length_le (by rw [List.size_toArray, hP.length]; exact Nat.le_refl _)] at hS
end
/-- the one list that is sorted and has just these numbers -/
noncomputable def Ups (ns ts : List Int) : Prop := ∀ ks : List Int, ks.Pairwise (· < ·) → (∀ z, z ∈ ks ↔ z ∈ ns) → ts = ks
local macro_rules | `(tactic| k_mem) => `(tactic| first | assumption | exact List.Mem.head _ | (refine List.mem_cons_of_mem _ ?_; k_mem))
section
variable {w : World} {mean : ExcName → Option Value} {mg mb : Str → Option Value} {g : Heap} {L a : Addr} {ccd : Value} {s : Shared} {m : Str → Option Value} {news : List (Addr × Obj)} {Q : Flow → Shared → Prop} {E : Value → Shared → Prop}

set_option maxHeartbeats 4000000 in
theorem la_check {ls lfam ldue lsh : Addr} {oc : Obj} {vs vf vd vsh : List Value} {ns nf nd nsh : Nat} {ps : List (Int × Int)} {fam due sh : List Int} (hs : m (Str.ofString "sides") = some (.ref ls)) (hsm : (ls, listOf vs.toArray ns) ∈ news) (hP : PrsAre news vs ps) (hb : ∀ p ∈ ps, 0 ≤ p.1 ∧ p.1 < 6 ∧ 0 ≤ p.2 ∧ p.2 < 6) (hl : ps.length ≤ 60) (hfew : Few (ps.map pairNum)) (hf : m (Str.ofString "family") = some (.ref lfam)) (hfm : (lfam, listOf vf.toArray nf) ∈ news) (hfi : IntsAre vf fam) (hdu : m (Str.ofString "due") = some (.ref ldue)) (hdm : (ldue, listOf vd.toArray nd) ∈ news) (hdi : IntsAre vd due) (hfd : fam = due) (hc : (L + 1 + 1, oc) ∈ news) (hcd : oc.data = .cell (some (.ref lsh))) (hshm : (lsh, listOf vsh.toArray nsh) ∈ news) (hshi : IntsAre vsh sh) (hup : Ups (ps.map pairNum) sh)
   (X : (Mine.hd.heap_39 w.params).In g) (T : Top Mine.hd.view_39 lo mean mg mb g) (F : Fr g L s.heap m) (N : News g L s.heap news)
   (hQ : ∀ h' tk', Fr g L h' m → News g L h' news → Q .next { s with heap := h', toks := tk' }) :
   wpAny (model rprog w) (callerA.deeper (envOfC (Str.ofString "law") lawScope L a ccd)) (exec (lawS 8) (envOfC (Str.ofString "law") lawScope L a ccd)) Q E s := by
  show wpAny _ _ (exec (Stmt.If _ _ _ _) _) _ _ _
  w_strict (repeat' (first | (k_unfold; (try dsimp only)) | (k_end; wrow_close) | ((with_reducible show wpAny _ _ (compareOp .NotEq (Value.ref _) (Value.ref _)) _ _ _); (k_here; k_dflt (refine' ne_ints_same ?zzl ?zzi ?zzl2 ?zzi2 ?zze ?zzu ?_; (case zzl => exact list_at (by k_asm) (by k_mem)); (case zzl2 => exact list_at (by k_asm) (by k_mem)); (case zzi => assumption); (case zzi2 => assumption); (case zze => first | assumption | exact (by assumption : Ups _ _) _ (by assumption) (by assumption)); (case zzu => first | ktr_units | k_units); k_whole))) | ((with_reducible show wpAny _ _ (call (Value.builtin "sorted") _ _) _ _ _); (k_here; k_dflt (refine' sorted_set ?zzh ?zzF ?zzN ?zzS ?zzg ?zzl ?zzm ?_; (case zzh => exact rfl); (case zzF => k_asm); (case zzN => k_asm); (case zzS => exact List.Mem.head _); (case zzg => assumption); (case zzl => assumption); (case zzm => assumption); k_whole); intro _ _ _ _ _ _ _ _ _ _ _ _)) | ((with_reducible show wpAny _ _ (call (Value.type "set") _ _) _ _ _); (k_here; k_dflt (refine' set_of_list ?zzh ?zzF ?zzN ?zzl ?zzi ?zzb ?zzc ?_; (case zzh => exact rfl); (case zzF => k_asm); (case zzN => k_asm); (case zzl => exact list_at (by k_asm) (by k_mem)); (case zzi => assumption); (case zzb => exact And.left (by assumption : Few _)); (case zzc => exact And.right (by assumption : Few _)); k_whole); intro _ _ _ _ _ _ _ _ _ _ _ _)) | ((with_reducible show wpAny _ _ (eval (Expr.ListComp ..) _) _ _ _); (k_here; k_dflt (refine' num_list ?zzw ?zzd ?zzP ?zzb ?zzl ?zzX ?zzT ?zzF ?zzN ?_; (case zzX => k_asm); (case zzT => k_asm); (case zzF => k_asm); (case zzN => k_asm); (case zzw => assumption); (case zzd => k_mem); (case zzP => assumption); (case zzb => assumption); (case zzl => assumption); k_whole); intro _ _ _ _ _ _ _ _)) | ((with_reducible show wpAny _ _ (eval (Expr.Name ..) _) _ _ _); (k_here; k_dflt (first | (refine' nameX_L ?zzF ?zzv ?_ ?zza ?zzb; (case zzF => k_asm); (case zza => rfl); (case zzb => rfl); (case zzv => ktr_unf); k_whole) | (refine' nameX_C ?zzN ?zzc ?zzm ?zzd ?_ ?zza ?zzb; (case zza => rfl); (case zzb => rfl); (case zzN => k_asm); (case zzc => rfl); (case zzm => first | k_mem | assumption); (case zzd => first | assumption | rfl); k_whole)))) | walk1 | (dsimp only; first | ((with_reducible show wpAny _ _ (compareOp .NotEq (Value.ref _) (Value.ref _)) _ _ _); (k_here; k_dflt (refine' ne_ints_same ?zzl ?zzi ?zzl2 ?zzi2 ?zze ?zzu ?_; (case zzl => exact list_at (by k_asm) (by k_mem)); (case zzl2 => exact list_at (by k_asm) (by k_mem)); (case zzi => assumption); (case zzi2 => assumption); (case zze => first | assumption | exact (by assumption : Ups _ _) _ (by assumption) (by assumption)); (case zzu => first | ktr_units | k_units); k_whole))) | ((with_reducible show wpAny _ _ (call (Value.builtin "sorted") _ _) _ _ _); (k_here; k_dflt (refine' sorted_set ?zzh ?zzF ?zzN ?zzS ?zzg ?zzl ?zzm ?_; (case zzh => exact rfl); (case zzF => k_asm); (case zzN => k_asm); (case zzS => exact List.Mem.head _); (case zzg => assumption); (case zzl => assumption); (case zzm => assumption); k_whole); intro _ _ _ _ _ _ _ _ _ _ _ _)) | ((with_reducible show wpAny _ _ (call (Value.type "set") _ _) _ _ _); (k_here; k_dflt (refine' set_of_list ?zzh ?zzF ?zzN ?zzl ?zzi ?zzb ?zzc ?_; (case zzh => exact rfl); (case zzF => k_asm); (case zzN => k_asm); (case zzl => exact list_at (by k_asm) (by k_mem)); (case zzi => assumption); (case zzb => exact And.left (by assumption : Few _)); (case zzc => exact And.right (by assumption : Few _)); k_whole); intro _ _ _ _ _ _ _ _ _ _ _ _)) | ((with_reducible show wpAny _ _ (eval (Expr.ListComp ..) _) _ _ _); (k_here; k_dflt (refine' num_list ?zzw ?zzd ?zzP ?zzb ?zzl ?zzX ?zzT ?zzF ?zzN ?_; (case zzX => k_asm); (case zzT => k_asm); (case zzF => k_asm); (case zzN => k_asm); (case zzw => assumption); (case zzd => k_mem); (case zzP => assumption); (case zzb => assumption); (case zzl => assumption); k_whole); intro _ _ _ _ _ _ _ _)) | ((with_reducible show wpAny _ _ (eval (Expr.Name ..) _) _ _ _); (k_here; k_dflt (first | (refine' nameX_L ?zzF ?zzv ?_ ?zza ?zzb; (case zzF => k_asm); (case zza => rfl); (case zzb => rfl); (case zzv => ktr_unf); k_whole) | (refine' nameX_C ?zzN ?zzc ?zzm ?zzd ?_ ?zza ?zzb; (case zza => rfl); (case zzb => rfl); (case zzN => k_asm); (case zzc => rfl); (case zzm => first | k_mem | assumption); (case zzd => first | assumption | rfl); k_whole)))) | walk1) | (leave1; try dsimp only) | fail "no step"))
  exact hQ _ _ (by assumption) (News.drop3 (by assumption))
end
end Mine
end
section
open PySem PySem.W PyProof.Rows
set_option maxRecDepth 100000
namespace Mine
/-- the pairs of the triples, by number -/
noncomputable def triN : List (List Nat) := (List.range 20).map fun (r : Nat) => (pairNums (topsOf (r : Int))).map Int.toNat
noncomputable def tri (p : Nat → Bool) : Nat := (triN.filter fun l => l.all p).length
noncomputable def edg (p : Nat → Bool) : Nat := ((List.range 15).filter p).length
noncomputable def csC : List Nat := [0, 3, 5, 6, 6, 8, 9, 9, 10, 10]
noncomputable def bits (b0 b1 b3 b6 b10 b11 b12 b13 b14 : Bool) : List Bool := [b0, b1, true, b3, true, true, b6, true, true, true, b10, b11, b12, b13, b14]
noncomputable def cntT : List Bool → Nat
  | [] => 0
  | true :: l => cntT l + 1
  | false :: l => cntT l
theorem triN_lt : ∀ l ∈ triN, ∀ e ∈ l, e < 15 := by decide
noncomputable def chkB (b : List Bool) : Bool := decide (csC.getD (min (triN.filter fun l => l.all fun e => b.getD e false).length 9) 0 ≤ cntT b)
set_option maxHeartbeats 4000000 in
theorem chk_all : ([false, true].all fun b0 => [false, true].all fun b1 => [false, true].all fun b3 => [false, true].all fun b6 => [false, true].all fun b10 => [false, true].all fun b11 => [false, true].all fun b12 => [false, true].all fun b13 => [false, true].all fun b14 => chkB (bits b0 b1 b3 b6 b10 b11 b12 b13 b14)) = true := by decide +kernel
end Mine
end
section
open PySem PySem.W PyProof.Rows
set_option maxRecDepth 100000
namespace Mine
theorem chk_one (b0 b1 b3 b6 b10 b11 b12 b13 b14 : Bool) : chkB (bits b0 b1 b3 b6 b10 b11 b12 b13 b14) = true := by
  have two : ∀ b : Bool, b ∈ [false, true] := by decide
  have h := chk_all
  rw [List.all_eq_true] at h
  have h := h b0 (two b0)
  rw [List.all_eq_true] at h
  have h := h b1 (two b1)
  rw [List.all_eq_true] at h
  have h := h b3 (two b3)
  rw [List.all_eq_true] at h
  have h := h b6 (two b6)
  rw [List.all_eq_true] at h
  have h := h b10 (two b10)
  rw [List.all_eq_true] at h
  have h := h b11 (two b11)
  rw [List.all_eq_true] at h
  have h := h b12 (two b12)
  rw [List.all_eq_true] at h
  have h := h b13 (two b13)
  rw [List.all_eq_true] at h
  exact h b14 (two b14)
theorem cntT_eq : ∀ l : List Bool, cntT l = (l.filter id).length
  | [] => rfl
  | true :: l => by rw [cntT, cntT_eq l]; rfl
  | false :: l => by rw [cntT, cntT_eq l]; rfl
theorem kk_bits {p : Nat → Bool} (h2 : p 2 = true) (h4 : p 4 = true) (h5 : p 5 = true) (h7 : p 7 = true) (h8 : p 8 = true) (h9 : p 9 = true) : csC.getD (min (tri p) 9) 0 ≤ edg p := by
  have hb : (List.range 15).map p = bits (p 0) (p 1) (p 3) (p 6) (p 10) (p 11) (p 12) (p 13) (p 14) := by
    show [p 0, p 1, p 2, p 3, p 4, p 5, p 6, p 7, p 8, p 9, p 10, p 11, p 12, p 13, p 14] = _
    rw [h2, h4, h5, h7, h8, h9]; rfl
  have h := of_decide_eq_true (chk_one (p 0) (p 1) (p 3) (p 6) (p 10) (p 11) (p 12) (p 13) (p 14))
  rw [← hb] at h
  have e1 : cntT ((List.range 15).map p) = edg p := by
    rw [cntT_eq]
    unfold edg
    rw [List.filter_map, List.length_map]
    rfl
  have e2 : (triN.filter fun l => l.all fun e => ((List.range 15).map p).getD e false) = triN.filter fun l => l.all p := by
    refine List.filter_congr fun l hl => ?_
    have hlt := triN_lt l hl
    rw [Bool.eq_iff_iff, List.all_eq_true, List.all_eq_true]
    have one : ∀ e ∈ l, ((List.range 15).map p).getD e false = p e := fun e he => by
      rw [List.getD_eq_getElem?_getD, List.getElem?_map, List.getElem?_range (hlt e he)]; rfl
    exact ⟨fun q e he => by rw [← one e he]; exact q e he, fun q e he => by rw [one e he]; exact q e he⟩
  rw [e1, e2] at h
  exact h
theorem pairs_in : ∀ r : Nat, r < 20 → ∀ z ∈ pairNums (topsOf (r : Int)), 0 ≤ z ∧ z < 15 := by decide
theorem cs_is : ∀ i : Nat, i ≤ 9 → (cntAt 20).getD i 0 = ((csC.getD i 0 : Nat) : Int) := by decide
theorem cs_mono : ∀ j, j ≤ 9 → ∀ i, i ≤ j → csC.getD i 0 ≤ csC.getD j 0 := by decide
theorem lt_nodup {l : List Int} (h : l.Pairwise (· < ·)) : l.Nodup := h.imp fun q => Int.ne_of_lt q
/-- a family with three given ranks and at most nine has no smaller shadow than the first ones -/
theorem kk_main {fam sh : List Int} (hF : fam.Pairwise (· < ·)) (hb : ∀ r ∈ fam, 0 ≤ r ∧ r < 20) (h3 : (3 : Int) ∈ fam) (h6 : (6 : Int) ∈ fam) (h8 : (8 : Int) ∈ fam) (hl : fam.length ≤ 9)
    (hS : ∀ z, z ∈ sh ↔ z ∈ pairsOf fam) : ∀ i : Nat, i ≤ fam.length → (cntAt 20).getD i 0 ≤ (sh.length : Int) := by
  have inS : ∀ r ∈ fam, ∀ z ∈ pairNums (topsOf r), z ∈ sh := fun r hr z hz => (hS z).mpr (List.mem_flatMap.mpr ⟨r, hr, hz⟩)
  have hp : ∀ e : Nat, ((e : Int) ∈ sh) → (fun e : Nat => decide ((e : Int) ∈ sh)) e = true := fun e h => decide_eq_true h
  have s3 : ∀ z ∈ pairNums (topsOf 3), z ∈ sh := inS 3 h3
  have s6 : ∀ z ∈ pairNums (topsOf 6), z ∈ sh := inS 6 h6
  have s8 : ∀ z ∈ pairNums (topsOf 8), z ∈ sh := inS 8 h8
  have k := kk_bits (p := fun e : Nat => decide ((e : Int) ∈ sh)) (hp 2 (s3 2 (by decide))) (hp 4 (s3 4 (by decide))) (hp 5 (s3 5 (by decide))) (hp 7 (s6 7 (by decide))) (hp 8 (s6 8 (by decide))) (hp 9 (s8 9 (by decide)))
  have e1 : edg (fun e : Nat => decide ((e : Int) ∈ sh)) ≤ sh.length := by
    have := nodup_le (((List.range 15).filter fun e : Nat => decide ((e : Int) ∈ sh)).map fun e : Nat => (e : Int)) sh ?_ ?_
    · rw [List.length_map] at this
      exact this
    · refine List.pairwise_map.mpr (((List.pairwise_lt_range (n := 15)).sublist List.filter_sublist).imp fun {a b} q => ?_)
      show (a : Int) ≠ (b : Int)
      lia
    · intro z hz
      obtain ⟨e, he, rfl⟩ := List.mem_map.mp hz
      exact of_decide_eq_true (List.mem_filter.mp he).2
  have e2 : fam.length ≤ tri (fun e : Nat => decide ((e : Int) ∈ sh)) := by
    have := nodup_le fam (((List.range 20).filter fun r : Nat => ((pairNums (topsOf (r : Int))).map Int.toNat).all fun e : Nat => decide ((e : Int) ∈ sh)).map fun r : Nat => (r : Int)) (lt_nodup hF) ?_
    · rw [List.length_map] at this
      refine Nat.le_trans this ?_
      unfold tri triN
      rw [List.filter_map, List.length_map]
      exact Nat.le_refl _
    · intro r hr
      have hbr := hb r hr
      refine List.mem_map.mpr ⟨r.toNat, List.mem_filter.mpr ⟨List.mem_range.mpr (by lia), ?_⟩, Int.toNat_of_nonneg hbr.1⟩
      rw [List.all_eq_true]
      intro e he
      obtain ⟨z, hz, rfl⟩ := List.mem_map.mp he
      have hz0 := (pairs_in r.toNat (by lia) z hz).1
      rw [Int.toNat_of_nonneg hbr.1] at hz
      rw [Int.toNat_of_nonneg hz0]
      exact decide_eq_true (inS r hr z hz)
  intro i hi
  rw [cs_is i (by lia)]
  have m1 := cs_mono (min (tri fun e : Nat => decide ((e : Int) ∈ sh)) 9) (Nat.min_le_right _ _) i (by lia)
  lia
end Mine
end
section
open PySem PySem.W PyProof.Rows
set_option maxRecDepth 100000
namespace Mine
theorem rank_bounds (ss : List Int) : ∀ r ∈ ranks ss, 0 ≤ r ∧ r < 20 := fun r hr => by
  obtain ⟨z, _, rfl⟩ := List.mem_map.mp hr
  exact fmod_lt _ (by decide)
theorem ranks_368 (ss : List Int) : (3 : Int) ∈ ranks ss ∧ (6 : Int) ∈ ranks ss ∧ (8 : Int) ∈ ranks ss := by
  have e : ranks ss = 3 :: 6 :: 8 :: (ss.take 6).map (fun (z : Int) => (z.fmod 57600).fmod 20) := rfl
  rw [e]
  simp
theorem few_ranks (ss : List Int) : Few (ranks ss) := ⟨rank_bounds ss, fun m hm hs => by
  have h1 := nodup_le m (ranks ss) hm hs
  have h2 := ranks_len ss
  lia⟩
theorem below_len {m : List Int} (hm : m.Nodup) (hs : ∀ z ∈ m, 0 ≤ z ∧ z < 15) : m.length ≤ 15 := by
  have := nodup_le m ((List.range 15).map fun e : Nat => (e : Int)) hm fun z hz => by
    have := hs z hz
    exact List.mem_map.mpr ⟨z.toNat, List.mem_range.mpr (by lia), Int.toNat_of_nonneg this.1⟩
  simpa using this
theorem pairsOf_in {rs : List Int} (hb : ∀ r ∈ rs, 0 ≤ r ∧ r < 20) : ∀ z ∈ pairsOf rs, 0 ≤ z ∧ z < 15 := fun z hz => by
  obtain ⟨r, hr, h⟩ := List.mem_flatMap.mp hz
  have b := hb r hr
  have e : ((r.toNat : Nat) : Int) = r := Int.toNat_of_nonneg b.1
  exact pairs_in r.toNat (by lia) z (by rw [e]; exact h)
theorem few_pairs {rs : List Int} (hb : ∀ r ∈ rs, 0 ≤ r ∧ r < 20) : Few (pairsOf rs) :=
  ⟨fun z hz => by have := pairsOf_in hb z hz; lia, fun m hm hs => by
    have := below_len hm fun z hz => pairsOf_in hb z (hs z hz)
    lia⟩
theorem side_nums : ∀ r : Nat, r < 20 → (sidesOf (trip (r : Int))).map pairNum = pairNums (topsOf (r : Int)) := by decide
theorem side_bounds : ∀ r : Nat, r < 20 → ∀ p ∈ sidesOf (trip (r : Int)), 0 ≤ p.1 ∧ p.1 < 6 ∧ 0 ≤ p.2 ∧ p.2 < 6 := by decide
theorem sides_nums : ∀ {rs : List Int}, (∀ r ∈ rs, 0 ≤ r ∧ r < 20) → (sidesAll rs).map pairNum = pairsOf rs
  | [], _ => rfl
  | r :: rs, hb => by
    have ih := sides_nums (rs := rs) fun q hq => hb q (List.mem_cons_of_mem _ hq)
    have b := hb r List.mem_cons_self
    have e : ((r.toNat : Nat) : Int) = r := Int.toNat_of_nonneg b.1
    have h := side_nums r.toNat (by lia)
    rw [e] at h
    unfold sidesAll pairsOf at ih ⊢
    rw [List.flatMap_cons, List.flatMap_cons, List.map_append, ih, h]
theorem sides_bounds {rs : List Int} (hb : ∀ r ∈ rs, 0 ≤ r ∧ r < 20) : ∀ p ∈ sidesAll rs, 0 ≤ p.1 ∧ p.1 < 6 ∧ 0 ≤ p.2 ∧ p.2 < 6 := fun p hp => by
  obtain ⟨r, hr, h⟩ := List.mem_flatMap.mp hp
  have b := hb r hr
  have e : ((r.toNat : Nat) : Int) = r := Int.toNat_of_nonneg b.1
  exact side_bounds r.toNat (by lia) p (by rw [e]; exact h)
theorem lt_asym (a b : Int) (h : a < b) : ¬ b < a := by lia
theorem pairsOf_mem {rs ks : List Int} (h : ∀ z, z ∈ ks ↔ z ∈ rs) (z : Int) : z ∈ pairsOf ks ↔ z ∈ pairsOf rs := by
  unfold pairsOf
  rw [List.mem_flatMap, List.mem_flatMap]
  exact ⟨fun ⟨r, hr, q⟩ => ⟨r, (h r).mp hr, q⟩, fun ⟨r, hr, q⟩ => ⟨r, (h r).mpr hr, q⟩⟩
theorem ups_of {rs ks sh : List Int} (hk : ∀ z, z ∈ ks ↔ z ∈ rs) (hb : ∀ r ∈ rs, 0 ≤ r ∧ r < 20) (hp : Puts (pairsOf rs) [] sh) : Ups ((sidesAll ks).map pairNum) sh := by
  rw [sides_nums fun r hr => hb r ((hk r).mp hr)]
  intro ts ht hm
  refine sorted_ext lt_asym hp.1 ht fun z => ?_
  rw [hp.2.1 z, hm z, pairsOf_mem hk z]
  simp
theorem fam_is {rs ks fam : List Int} (hk : ∀ z, z ∈ ks ↔ z ∈ rs) (hs : ks.Pairwise (· < ·)) (hp : Puts rs [] fam) : fam = ks :=
  sorted_ext lt_asym hp.1 hs fun z => by rw [hp.2.1 z, hk z]; simp
noncomputable def leastN (n : Nat) : Nat := (leastOf (n : Int) (trip (n : Int)).1 (trip (n : Int)).2.1 (trip (n : Int)).2.2).toNat
theorem least_facts : ∀ n : Nat, n ≤ 9 → Builtin.Range.small 0 (leastOf (n : Int) (trip (n : Int)).1 (trip (n : Int)).2.1 (trip (n : Int)).2.2) 1 = true ∧
    Builtin.Range.rangeSize 0 (leastOf (n : Int) (trip (n : Int)).1 (trip (n : Int)).2.1 (trip (n : Int)).2.2) 1 = ((leastN n : Nat) : Int) ∧ leastN n ≤ 2 ^ 24 := by decide
theorem first_facts : ∀ n : Nat, n ≤ 9 → (rangeKs 0 (leastN n)).Pairwise (· < ·) ∧ (∀ z ∈ allNums n, z ∈ rangeKs 0 (leastN n)) ∧ (∀ z ∈ rangeKs 0 (leastN n), z ∈ allNums n) := by decide
theorem trip8 : ∀ n : Nat, n ≤ 9 → topsOf (n : Int) = [(trip (n : Int)).1, (trip (n : Int)).2.1, (trip (n : Int)).2.2] ∧ (0 ≤ (trip (n : Int)).1 ∧ (trip (n : Int)).1 < 8) ∧ (0 ≤ (trip (n : Int)).2.1 ∧ (trip (n : Int)).2.1 < 8) ∧ (0 ≤ (trip (n : Int)).2.2 ∧ (trip (n : Int)).2.2 < 8) := by decide
theorem first_is {n : Nat} {fst : List Int} (hn : n ≤ 9) (hp : Puts (allNums n) [] fst) : fst = rangeKs 0 (leastN n) := by
  obtain ⟨h1, h2, h3⟩ := first_facts n hn
  refine sorted_ext lt_asym hp.1 h1 fun z => ?_
  rw [hp.2.1 z]
  constructor
  · rintro (h | h)
    · cases h
    · exact h2 z h
  · exact fun h => .inr (h3 z h)
theorem cnt_sorted : (cntAt 20).Pairwise (· ≤ ·) := by decide
theorem cnt_bounds : ∀ x ∈ cntAt 20, 0 ≤ x ∧ x < 100 := by decide
theorem tri_len {extra : List (Addr × Obj)} {ys : List Value} {l : List (Int × Int × Int)} (h : TriAre extra ys l) : ys.length = l.length := by
  induction h with
  | nil => rfl
  | cons _ _ ih => rw [List.length_cons, List.length_cons, ih]
/-- the bounds of the last search -/
theorem end_range {fam sh : List Int} (hl : fam.length ≤ 9) (h : ∀ i : Nat, i ≤ fam.length → (cntAt 20).getD i 0 ≤ (sh.length : Int)) : InvR (sh.length : Int) (cntAt 20) ((fam.length : Int) + 1) (cntAt 20).length := by
  have hc := cnt_len 20
  refine ⟨by lia, by lia, Int.le_refl _, fun i hi => h i (by lia), fun i h1 h2 => ?_⟩
  lia
end Mine
end
section
open PySem PySem.W PyProof.Rows PySem.Calls PySem.Spec PyProof.Rows.LCg
set_option maxRecDepth 100000
namespace Mine
section
variable {w : World} {mean : ExcName → Option Value} {mg mb : Str → Option Value} {g : Heap} {L a : Addr} {ccd : Value} {s : Shared} {m : Str → Option Value} {p p0 p1 p2 : Pos} {news : List (Addr × Obj)} {Q E : Value → Shared → Prop}
theorem eval_tri (X : (Mine.hd.heap_39 w.params).In g) (T : Top Mine.hd.view_39 lo mean mg mb g) (F : Fr g L s.heap m) (N : News g L s.heap news)
    (hQ : ∀ D ys extra h' tk', Fr g L h' m → News g L h' ((D, lst ys) :: extra) → (∀ q ∈ extra, q.1 ≠ D) → Grown news extra → TriAre extra ys (rowC 6) → Q (.ref D) { s with heap := h', toks := tk' }) :
    wpAny (model rprog w) (lawA L a ccd) (eval (triL p p0 p1 p2) (lawE L a ccd)) Q E s := by
  have hk : (lcScope triE).kind = .function := rfl
  rw [eval_ListComp]
  refine wpAny_comprehension_free (use := none) (cl := _) rfl (fun _ => rfl) (by with_unfolding_all rfl) hk (by decide) (tri_i0 X T F N fun r t u v h' tk' hr F' N' => ?_)
  refine wpAny_pyIter_range hr (by decide) ?_
  have off : ∀ q ∈ news, q.1 ≠ h'.objs.size := fun q hq => Nat.ne_of_lt (Heap.lt_size (N' q hq).1)
  refine block_R (n := 6) (a := 0) rfl (by decide) hk (by show IsRangeIter _ _ _ _ _; exact Heap.get?_push_size _ rfl) (F'.push _) (fun q hq => ⟨Heap.get?_push_of_some _ (N' q hq).1, (N' q hq).2⟩) (Nat.ne_of_lt F'.ns.lt) (next_is_new F') off fun C D mC h tk st hI iC iD => ?_
  refine codeAny_mono (lvl0 (K := fun s₅ => ∀ f, compPost (model rprog w) (lawA L a ccd) E none Q (.ref D) C (.ok f) s₅) X T st hI iC iD (Ne.symm (Nat.ne_of_lt F'.ns.lt)) (next_is_new F') off fun mC' ys' extra' h' tk' st' hg hT f => ?_) fun r s₅ hr => ?_
  · refine ⟨mC', st'.ns, fun h'' hs'' => hQ D ys' extra' h'' _ (st'.fr.change hs'' st'.cl st'.c0) (fun q hq => ?_) (fun q hq => (st'.offs q hq).2) hg hT⟩
    rcases List.mem_cons.mp hq with rfl | hq
    · exact ⟨hs''.extBut _ _ st'.cd.symm st'.dl, st'.dL, st'.d0⟩
    · exact ⟨hs''.extBut _ _ (st'.offs q hq).1 (st'.led q hq).1, (st'.led q hq).2⟩
  · obtain ⟨f, rfl, hK⟩ := hr
    exact hK f
end
end Mine
end
section
open PySem PySem.W PyProof.Rows PySem.Calls PySem.Spec PyProof.Rows.LCg
set_option maxRecDepth 100000
namespace Mine
theorem TriAre.offD {I : Addr} {e2 e3 : List (Addr × Obj)} {o : Obj} {ys : List Value} {l : List (Int × Int × Int)} (h : TriAre e2 ys l) (ho : o.data = .cell none) (k : ∀ p, p ∈ e2 ↔ p = (I, o) ∨ p ∈ e3) : TriAre e3 ys l := by
  induction h with
  | nil => exact .nil
  | cons hh _ ih =>
    obtain ⟨q, t1, t2, t3, e, hm⟩ := hh
    rcases (k _).mp hm with h | h
    · have h2 := (congrArg (fun p : Addr × Obj => p.2.data) h).symm
      exact absurd (ho.symm.trans h2) (by intro h3; cases h3)
    · exact .cons ⟨q, t1, t2, t3, e, h⟩ ih
section
variable {w : World} {mean : ExcName → Option Value} {mg mb : Str → Option Value} {g : Heap} {L a : Addr} {ccd : Value} {s : Shared} {m : Str → Option Value} {p p0 p1 p2 : Pos} {news0 : List (Addr × Obj)} {oc1 : Obj} {Q E : Value → Shared → Prop}
theorem eval_tri2 (X : (Mine.hd.heap_39 w.params).In g) (T : Top Mine.hd.view_39 lo mean mg mb g) (F : Fr g L s.heap m) (N : News g L s.heap ((L + 1, oc1) :: news0)) (hne : ∀ q ∈ news0, q.1 ≠ L + 1)
    (hQ : ∀ D ys pre h' tk', Fr g L h' m → News g L h' ((L + 1, oc1) :: (D, lst ys) :: (pre ++ news0)) → (∀ q ∈ (D, lst ys) :: (pre ++ news0), q.1 ≠ L + 1) → TriAre (pre ++ news0) ys (rowC 6) → Q (.ref D) { s with heap := h', toks := tk' })
    (hoc : oc1.data = .cell none) :
    wpAny (model rprog w) (lawA L a ccd) (eval (triL p p0 p1 p2) (lawE L a ccd)) Q E s := by
  refine eval_tri X T F N fun D ys extra h' tk' F' N' off hg hT => ?_
  obtain ⟨pre, rfl, hp⟩ := hg
  have h1 := N' (L + 1, oc1) (List.mem_cons_of_mem _ (List.mem_append_right _ List.mem_cons_self))
  refine hQ D ys pre h' tk' F' (fun q hq => ?_) (fun q hq => ?_) (hT.offD (I := L + 1) (o := oc1) hoc fun q => ?_)
  · rcases List.mem_cons.mp hq with rfl | hq
    · exact h1
    · rcases List.mem_cons.mp hq with rfl | hq
      · exact N' _ List.mem_cons_self
      · rcases List.mem_append.mp hq with hq | hq
        · exact N' _ (List.mem_cons_of_mem _ (List.mem_append_left _ hq))
        · exact N' _ (List.mem_cons_of_mem _ (List.mem_append_right _ (List.mem_cons_of_mem _ hq)))
  · rcases List.mem_cons.mp hq with rfl | hq
    · exact Ne.symm (off (L + 1, oc1) (List.mem_append_right _ List.mem_cons_self))
    · rcases List.mem_append.mp hq with hq | hq
      · exact hp q hq _ List.mem_cons_self
      · exact hne q hq
  · simp only [List.mem_append, List.mem_cons]
    constructor
    · rintro (h | h | h)
      · exact .inr (.inl h)
      · exact .inl h
      · exact .inr (.inr h)
    · rintro (h | h | h)
      · exact .inr (.inl h)
      · exact .inl h
      · exact .inr (.inr h)
end
local macro_rules | `(tactic| k_all) => `(tactic| assumption)
example (w : World) (h : Heap) : (Mine.hd.heap_39 w.params).In h → rprog = PySem.Challenge.rw_wy0014_01.prog → True := by
  k_fill
  intros; trivial
section
variable {w : World} {mean : ExcName → Option Value} {mg mb : Str → Option Value} {g : Heap} {L a : Addr} {ccd : Value} {s : Shared} {m : Str → Option Value} {news0 : List (Addr × Obj)} {oc1 : Obj} {Q : Flow → Shared → Prop} {E : Value → Shared → Prop}
set_option maxHeartbeats 4000000 in
theorem st_triples (X : (Mine.hd.heap_39 w.params).In g) (T : Top Mine.hd.view_39 lo mean mg mb g) (F : Fr g L s.heap m) (N : News g L s.heap ((L + 1, oc1) :: news0)) (hne : ∀ q ∈ news0, q.1 ≠ L + 1)
   (hc1 : oc1.data = .cell none)
   (hQ : ∀ D ys pre oc' h' tk', Fr g L h' m → News g L h' ((L + 1, oc') :: (D, lst ys) :: (pre ++ news0)) → oc'.data = .cell (some (.ref D)) → (∀ q ∈ (D, lst ys) :: (pre ++ news0), q.1 ≠ L + 1) → TriAre (pre ++ news0) ys (rowC 6) → Q .next { s with heap := h', toks := tk' }) :
   wpAny (model rprog w) (callerA.deeper (envOfC (Str.ofString "law") lawScope L a ccd)) (exec (lawS 1) (envOfC (Str.ofString "law") lawScope L a ccd)) Q E s := by
  show wpAny _ _ (exec (Stmt.Assign _ _ _) _) _ _ _
  w_strict (repeat' (first | (k_unfold; (try dsimp only)) | (k_end; wrow_close) | ((with_reducible show wpAny _ _ (eval (Expr.ListComp ..) _) _ _ _); (k_here; k_dflt (refine' eval_tri2 ?zzX ?zzT ?zzF ?zzN ?zzh ?_ ?zzo; (case zzX => k_asm); (case zzT => k_asm); (case zzF => k_asm); (case zzN => k_asm); (case zzh => assumption); (case zzo => assumption); k_whole); intro _ _ _ _ _ _ _ _ _)) | walk1 | (dsimp only; first | ((with_reducible show wpAny _ _ (eval (Expr.ListComp ..) _) _ _ _); (k_here; k_dflt (refine' eval_tri2 ?zzX ?zzT ?zzF ?zzN ?zzh ?_ ?zzo; (case zzX => k_asm); (case zzT => k_asm); (case zzF => k_asm); (case zzN => k_asm); (case zzh => assumption); (case zzo => assumption); k_whole); intro _ _ _ _ _ _ _ _ _)) | walk1) | (leave1; try dsimp only) | fail "no step"))
  exact hQ _ _ _ _ _ _ (by assumption) (by assumption) (by assumption) (by assumption) (by assumption)
end
end Mine
end
section
open PySem PySem.W PyProof.Rows PySem.Calls PySem.Spec PyProof.Rows.LCg
set_option maxRecDepth 100000
namespace Mine
local macro_rules | `(tactic| ktr_unf) => `(tactic| first | assumption | (dsimp only; (repeat (first | (rw [if_pos (by decide)]) | (rw [if_neg (by decide)]))); first | rfl | assumption))
local macro_rules | `(tactic| k_all) => `(tactic| assumption)
local macro_rules | `(tactic| k_mem) => `(tactic| assumption)
example (w : World) (h : Heap) : (Mine.hd.heap_39 w.params).In h → rprog = PySem.Challenge.rw_wy0014_01.prog → True := by
  k_fill
  intros; trivial
section
variable {w : World} {mean : ExcName → Option Value} {mg mb : Str → Option Value} {g : Heap} {L a : Addr} {ccd : Value} {s : Shared} {m : Str → Option Value} {news : List (Addr × Obj)} {Q : Flow → Shared → Prop} {E : Value → Shared → Prop}

set_option maxHeartbeats 4000000 in
theorem la_drawn 
   (X : (Mine.hd.heap_39 w.params).In g) (T : Top Mine.hd.view_39 lo mean mg mb g) (F : Fr g L s.heap m) (N : News g L s.heap news)
   (hQ : ∀ D h' tk', Fr g L h' (fun z => if z = (Str.ofString "drawn") then some (.ref D) else m z) → News g L h' ((D, listOf #[] 0) :: news) → (∀ p ∈ news, p.1 ≠ D) → Q .next { s with heap := h', toks := tk' }) :
   wpAny (model rprog w) (callerA.deeper (envOfC (Str.ofString "law") lawScope L a ccd)) (exec (lawS 2) (envOfC (Str.ofString "law") lawScope L a ccd)) Q E s := by
  show wpAny _ _ (exec (Stmt.Assign _ _ _) _) _ _ _
  w_strict (repeat' (first | (k_unfold; (try dsimp only)) | (k_end; wrow_close) | ((with_reducible show wpAny _ _ (eval (Expr.Name ..) _) _ _ _); (k_here; k_dflt (first | (refine' nameX_L ?zzF ?zzv ?_ ?zza ?zzb; (case zzF => k_asm); (case zza => rfl); (case zzb => rfl); (case zzv => ktr_unf); k_whole) | (refine' nameX_C ?zzN ?zzc ?zzm ?zzd ?_ ?zza ?zzb; (case zza => rfl); (case zzb => rfl); (case zzN => k_asm); (case zzc => rfl); (case zzm => first | k_mem | assumption); (case zzd => first | assumption | rfl); k_whole)))) | walk1 | (dsimp only; first | ((with_reducible show wpAny _ _ (eval (Expr.Name ..) _) _ _ _); (k_here; k_dflt (first | (refine' nameX_L ?zzF ?zzv ?_ ?zza ?zzb; (case zzF => k_asm); (case zza => rfl); (case zzb => rfl); (case zzv => ktr_unf); k_whole) | (refine' nameX_C ?zzN ?zzc ?zzm ?zzd ?_ ?zza ?zzb; (case zza => rfl); (case zzb => rfl); (case zzN => k_asm); (case zzc => rfl); (case zzm => first | k_mem | assumption); (case zzd => first | assumption | rfl); k_whole)))) | walk1) | (leave1; try dsimp only) | fail "no step"))
  rename_i d h1 l1 h2 F2 N2
  exact hQ _ _ _ F2 N2 (fun p hp => Nat.ne_of_lt (l1 p hp))

set_option maxHeartbeats 4000000 in
theorem la_family 
   (X : (Mine.hd.heap_39 w.params).In g) (T : Top Mine.hd.view_39 lo mean mg mb g) (F : Fr g L s.heap m) (N : News g L s.heap news)
   (hQ : ∀ D h' tk', Fr g L h' (fun z => if z = (Str.ofString "family") then some (.ref D) else m z) → News g L h' ((D, listOf #[] 0) :: news) → (∀ p ∈ news, p.1 ≠ D) → Q .next { s with heap := h', toks := tk' }) :
   wpAny (model rprog w) (callerA.deeper (envOfC (Str.ofString "law") lawScope L a ccd)) (exec (lawS 3) (envOfC (Str.ofString "law") lawScope L a ccd)) Q E s := by
  show wpAny _ _ (exec (Stmt.Assign _ _ _) _) _ _ _
  w_strict (repeat' (first | (k_unfold; (try dsimp only)) | (k_end; wrow_close) | ((with_reducible show wpAny _ _ (eval (Expr.Name ..) _) _ _ _); (k_here; k_dflt (first | (refine' nameX_L ?zzF ?zzv ?_ ?zza ?zzb; (case zzF => k_asm); (case zza => rfl); (case zzb => rfl); (case zzv => ktr_unf); k_whole) | (refine' nameX_C ?zzN ?zzc ?zzm ?zzd ?_ ?zza ?zzb; (case zza => rfl); (case zzb => rfl); (case zzN => k_asm); (case zzc => rfl); (case zzm => first | k_mem | assumption); (case zzd => first | assumption | rfl); k_whole)))) | walk1 | (dsimp only; first | ((with_reducible show wpAny _ _ (eval (Expr.Name ..) _) _ _ _); (k_here; k_dflt (first | (refine' nameX_L ?zzF ?zzv ?_ ?zza ?zzb; (case zzF => k_asm); (case zza => rfl); (case zzb => rfl); (case zzv => ktr_unf); k_whole) | (refine' nameX_C ?zzN ?zzc ?zzm ?zzd ?_ ?zza ?zzb; (case zza => rfl); (case zzb => rfl); (case zzN => k_asm); (case zzc => rfl); (case zzm => first | k_mem | assumption); (case zzd => first | assumption | rfl); k_whole)))) | walk1) | (leave1; try dsimp only) | fail "no step"))
  rename_i d h1 l1 h2 F2 N2
  exact hQ _ _ _ F2 N2 (fun p hp => Nat.ne_of_lt (l1 p hp))

set_option maxHeartbeats 4000000 in
theorem la_first 
   (X : (Mine.hd.heap_39 w.params).In g) (T : Top Mine.hd.view_39 lo mean mg mb g) (F : Fr g L s.heap m) (N : News g L s.heap news)
   (hQ : ∀ D h' tk', Fr g L h' (fun z => if z = (Str.ofString "first") then some (.ref D) else m z) → News g L h' ((D, listOf #[] 0) :: news) → (∀ p ∈ news, p.1 ≠ D) → Q .next { s with heap := h', toks := tk' }) :
   wpAny (model rprog w) (callerA.deeper (envOfC (Str.ofString "law") lawScope L a ccd)) (exec (lawS 9) (envOfC (Str.ofString "law") lawScope L a ccd)) Q E s := by
  show wpAny _ _ (exec (Stmt.Assign _ _ _) _) _ _ _
  w_strict (repeat' (first | (k_unfold; (try dsimp only)) | (k_end; wrow_close) | ((with_reducible show wpAny _ _ (eval (Expr.Name ..) _) _ _ _); (k_here; k_dflt (first | (refine' nameX_L ?zzF ?zzv ?_ ?zza ?zzb; (case zzF => k_asm); (case zza => rfl); (case zzb => rfl); (case zzv => ktr_unf); k_whole) | (refine' nameX_C ?zzN ?zzc ?zzm ?zzd ?_ ?zza ?zzb; (case zza => rfl); (case zzb => rfl); (case zzN => k_asm); (case zzc => rfl); (case zzm => first | k_mem | assumption); (case zzd => first | assumption | rfl); k_whole)))) | walk1 | (dsimp only; first | ((with_reducible show wpAny _ _ (eval (Expr.Name ..) _) _ _ _); (k_here; k_dflt (first | (refine' nameX_L ?zzF ?zzv ?_ ?zza ?zzb; (case zzF => k_asm); (case zza => rfl); (case zzb => rfl); (case zzv => ktr_unf); k_whole) | (refine' nameX_C ?zzN ?zzc ?zzm ?zzd ?_ ?zza ?zzb; (case zza => rfl); (case zzb => rfl); (case zzN => k_asm); (case zzc => rfl); (case zzm => first | k_mem | assumption); (case zzd => first | assumption | rfl); k_whole)))) | walk1) | (leave1; try dsimp only) | fail "no step"))
  rename_i d h1 l1 h2 F2 N2
  exact hQ _ _ _ F2 N2 (fun p hp => Nat.ne_of_lt (l1 p hp))

set_option maxHeartbeats 4000000 in
theorem la_shadow {oc : Obj} (hc : oc.data = .cell none) (hne : ∀ p ∈ news, p.1 ≠ L + 1 + 1)
   (X : (Mine.hd.heap_39 w.params).In g) (T : Top Mine.hd.view_39 lo mean mg mb g) (F : Fr g L s.heap m) (N : News g L s.heap ((L + 1 + 1, oc) :: news))
   (hQ : ∀ D oc' h' tk', Fr g L h' m → News g L h' ((D, listOf #[] 0) :: (L + 1 + 1, oc') :: news) → oc'.data = .cell (some (.ref D)) → (∀ p ∈ news, p.1 ≠ D) → D ≠ L + 1 + 1 → Q .next { s with heap := h', toks := tk' }) :
   wpAny (model rprog w) (callerA.deeper (envOfC (Str.ofString "law") lawScope L a ccd)) (exec (lawS 4) (envOfC (Str.ofString "law") lawScope L a ccd)) Q E s := by
  show wpAny _ _ (exec (Stmt.Assign _ _ _) _) _ _ _
  w_strict (repeat' (first | (k_unfold; (try dsimp only)) | (k_end; wrow_close) | ((with_reducible show wpAny _ _ (eval (Expr.Name ..) _) _ _ _); (k_here; k_dflt (first | (refine' nameX_L ?zzF ?zzv ?_ ?zza ?zzb; (case zzF => k_asm); (case zza => rfl); (case zzb => rfl); (case zzv => ktr_unf); k_whole) | (refine' nameX_C ?zzN ?zzc ?zzm ?zzd ?_ ?zza ?zzb; (case zza => rfl); (case zzb => rfl); (case zzN => k_asm); (case zzc => rfl); (case zzm => first | k_mem | assumption); (case zzd => first | assumption | rfl); k_whole)))) | walk1 | (dsimp only; first | ((with_reducible show wpAny _ _ (eval (Expr.Name ..) _) _ _ _); (k_here; k_dflt (first | (refine' nameX_L ?zzF ?zzv ?_ ?zza ?zzb; (case zzF => k_asm); (case zza => rfl); (case zzb => rfl); (case zzv => ktr_unf); k_whole) | (refine' nameX_C ?zzN ?zzc ?zzm ?zzd ?_ ?zza ?zzb; (case zza => rfl); (case zzb => rfl); (case zzN => k_asm); (case zzc => rfl); (case zzm => first | k_mem | assumption); (case zzd => first | assumption | rfl); k_whole)))) | walk1) | (leave1; try dsimp only) | fail "no step"))
  rename_i d h1 l1 h2 o2 F2 N2 d2
  exact hQ _ _ _ _ F2 N2 d2 (fun p hp => Nat.ne_of_lt (allLt_mem l1.2 p hp)) (Nat.ne_of_gt l1.1)
end
end Mine
end
section
open PySem PySem.W PyProof.Rows PySem.Calls PySem.Spec PyProof.Rows.LCg
set_option maxRecDepth 100000
namespace Mine
/-- the tuples of the triples are not at a cell -/
theorem tri_keep {g h : Heap} {L c : Addr} {oc : Obj} {pre rest : List (Addr × Obj)} {ys : List Value} {l : List (Int × Int × Int)} (hT : TriAre (pre ++ rest) ys l) (N : News g L h (pre ++ rest)) (hc : h.get? c = some oc) (hd : oc.data = .cell none) :
    TriAre (pre.filter (fun p => decide (p.1 ≠ c)) ++ rest) ys l := by
  induction hT with
  | nil => exact .nil
  | cons hh _ ih =>
    obtain ⟨q, t1, t2, t3, e, hm⟩ := hh
    refine .cons ⟨q, t1, t2, t3, e, ?_⟩ ih
    rcases List.mem_append.mp hm with h1 | h1
    · refine List.mem_append_left _ (List.mem_filter.mpr ⟨h1, decide_eq_true fun (e2 : q = c) => ?_⟩)
      have h2 := (N _ hm).1
      rw [show (q, _).1 = q from rfl, e2, hc] at h2
      have h3 := Option.some.inj h2
      rw [h3] at hd
      cases hd
    · exact List.mem_append_right _ h1
section
variable {w : World} {mean : ExcName → Option Value} {mg mb : Str → Option Value} {g : Heap} {L a : Addr} {ccd : Value} {s : Shared} {m : Str → Option Value} {news : List (Addr × Obj)} {Q : Flow → Shared → Prop} {E : Value → Shared → Prop}

set_option maxHeartbeats 8000000 in
theorem law_body {ls : Addr} {vs : List Value} {ss : List Int} {oc1 oc2 : Obj} (hs : m (Str.ofString "script") = some (.ref ls)) (hl : g.IsList ls vs.toArray) (hi : IntsAre vs ss) (hsl : ss.length ≤ 63) (ho1 : oc1.data = .cell none) (ho2 : oc2.data = .cell none)
   {base : Heap} (B : Below callerA base [] g) (XB : (Mine.hd.heap_39 w.params).In base) (TB : Top Mine.hd.view_39 lo mean mg mb base)
   (X : (Mine.hd.heap_39 w.params).In g) (T : Top Mine.hd.view_39 lo mean mg mb g) (F : Fr g L s.heap m) (N : News g L s.heap [(L + 1 + 1, oc2), (L + 1, oc1)])
   (hQ : ∀ m' nx h' tk', Fr g L h' m' → News g L h' nx → Q (.ret (.bool true)) { s with heap := h', toks := tk' }) :
   wpAny (model rprog w) (callerA.deeper (envOfC (Str.ofString "law") lawScope L a ccd)) (execs lawBody (envOfC (Str.ofString "law") lawScope L a ccd)) Q E s := by
  show wpAny _ _ (execs [lawS 0, lawS 1, lawS 2, lawS 3, lawS 4, lawS 5, lawS 6, lawS 7, lawS 8, lawS 9, lawS 10, lawS 11, lawS 12, lawS 13, lawS 14] _) _ _ _
  have c12 : L + 1 + 1 ≠ L + 1 := fun e => absurd (show @Eq Nat (L + 1 + 1) (L + 1) from e) (by lia)
  refine wpAny_execs_cons (st_ways base w mean mg mb g L a ccd s m _ E oc1 oc2 ho1 ho2 X T F N B fun lw pre h1 tk1 F1 N1 hW ne1 => ?_)
  show wpAny _ _ (execs [lawS 1, lawS 2, lawS 3, lawS 4, lawS 5, lawS 6, lawS 7, lawS 8, lawS 9, lawS 10, lawS 11, lawS 12, lawS 13, lawS 14] _) _ _ { s with heap := h1, toks := tk1 }
  have N1' : News g L h1 ((L + 1, oc1) :: (pre ++ [(L + 1 + 1, oc2)])) := fun p hp => N1 p (by
    simp only [List.mem_cons, List.mem_append, List.not_mem_nil, or_false] at hp ⊢
    rcases hp with h | h | h
    · exact .inr (.inr h)
    · exact .inl h
    · exact .inr (.inl h))
  refine wpAny_execs_cons (st_triples (s := { s with heap := h1, toks := tk1 }) X T F1 N1' (fun q hq => ?_) ho1 fun D ys pre2 oc1' h2 tk2 F2 N2 hd1 neC hT => ?_)
  · rcases List.mem_append.mp hq with h | h
    · exact (ne1 q h).2
    · rw [List.mem_singleton.mp h]; exact c12
  show wpAny _ _ (execs [lawS 2, lawS 3, lawS 4, lawS 5, lawS 6, lawS 7, lawS 8, lawS 9, lawS 10, lawS 11, lawS 12, lawS 13, lawS 14] _) _ _ { s with heap := h2, toks := tk2 }
  have hc2 : h2.get? (L + 1 + 1) = some oc2 := (N2 (L + 1 + 1, oc2) (List.mem_cons_of_mem _ (List.mem_cons_of_mem _ (List.mem_append_right _ (List.mem_append_right _ List.mem_cons_self))))).1
  have hT2 := tri_keep (pre := pre2) (rest := pre ++ [(L + 1 + 1, oc2)]) hT (fun p hp => N2 p (List.mem_cons_of_mem _ (List.mem_cons_of_mem _ hp))) hc2 ho2
  have hD2 : D ≠ L + 1 + 1 := fun e => by
    have h3 := (N2 (D, lst ys) (List.mem_cons_of_mem _ List.mem_cons_self)).1
    rw [show ((D, lst ys) : Addr × Obj).1 = D from rfl, e, hc2] at h3
    rw [Option.some.inj h3] at ho2
    cases ho2
  generalize hP : pre2.filter (fun p => decide (p.1 ≠ L + 1 + 1)) = P at hT2
  have hPn : ∀ p ∈ P, p.1 ≠ L + 1 + 1 := fun p hp => by
    rw [← hP] at hp
    exact of_decide_eq_true (List.mem_filter.mp hp).2
  have N2' : News g L h2 ((L + 1 + 1, oc2) :: (L + 1, oc1') :: (D, lst ys) :: (P ++ pre)) := fun p hp => N2 p (by
    simp only [List.mem_cons, List.mem_append] at hp ⊢
    rcases hp with h | h | h | h | h
    · exact .inr (.inr (.inr (.inr (.inl h))))
    · exact .inl h
    · exact .inr (.inl h)
    · exact .inr (.inr (.inl (by rw [← hP] at h; exact (List.mem_filter.mp h).1)))
    · exact .inr (.inr (.inr (.inl h))))
  have hT3 : TriAre (P ++ pre) ys (rowC 6) := by
    have key : ∀ {l : List (Int × Int × Int)} {ys : List Value}, TriAre (P ++ (pre ++ [(L + 1 + 1, oc2)])) ys l → TriAre (P ++ pre) ys l := fun h => by
      induction h with
      | nil => exact .nil
      | cons hh _ ih =>
        obtain ⟨q, t1, t2, t3, e, hm⟩ := hh
        refine .cons ⟨q, t1, t2, t3, e, ?_⟩ ih
        rcases List.mem_append.mp hm with h1 | h1
        · exact List.mem_append_left _ h1
        · rcases List.mem_append.mp h1 with h1 | h1
          · exact List.mem_append_right _ h1
          · have := List.mem_singleton.mp h1
            injection this with e1 e2
            rw [← e2] at ho2
            cases ho2
    exact key hT2
  refine wpAny_execs_cons (la_drawn (s := { s with heap := h2, toks := tk2 }) X T F2 N2' fun ldr h3 tk3 F3 N3 ne3 => ?_)
  show wpAny _ _ (execs [lawS 3, lawS 4, lawS 5, lawS 6, lawS 7, lawS 8, lawS 9, lawS 10, lawS 11, lawS 12, lawS 13, lawS 14] _) _ _ { s with heap := h3, toks := tk3 }
  refine wpAny_execs_cons (la_family (s := { s with heap := h3, toks := tk3 }) X T F3 N3 fun lfam h4 tk4 F4 N4 ne4 => ?_)
  show wpAny _ _ (execs [lawS 4, lawS 5, lawS 6, lawS 7, lawS 8, lawS 9, lawS 10, lawS 11, lawS 12, lawS 13, lawS 14] _) _ _ { s with heap := h4, toks := tk4 }
  have N4' : News g L h4 ((L + 1 + 1, oc2) :: (lfam, listOf #[] 0) :: (ldr, listOf #[] 0) :: (L + 1, oc1') :: (D, lst ys) :: (P ++ pre)) := fun p hp => N4 p (by
    simp only [List.mem_cons] at hp ⊢
    rcases hp with h | h | h | h
    · exact .inr (.inr (.inl h))
    · exact .inl h
    · exact .inr (.inl h)
    · exact .inr (.inr (.inr h)))
  refine wpAny_execs_cons (la_shadow (s := { s with heap := h4, toks := tk4 }) ho2 (fun p hp => ?_) X T F4 N4' fun lsh oc2' h5 tk5 F5 N5 hd2 ne5 ne5c => ?_)
  · simp only [List.mem_cons, List.mem_append] at hp
    rcases hp with rfl | rfl | rfl | rfl | hp | hp
    · exact (ne4 _ (List.mem_cons_of_mem _ List.mem_cons_self)).symm
    · exact (ne3 _ List.mem_cons_self).symm
    · exact c12.symm
    · exact hD2
    · exact hPn p hp
    · exact (ne1 p hp).1
  show wpAny _ _ (execs [lawS 5, lawS 6, lawS 7, lawS 8, lawS 9, lawS 10, lawS 11, lawS 12, lawS 13, lawS 14] _) _ _ { s with heap := h5, toks := tk5 }
  obtain ⟨K, hK⟩ : ∃ K, K = (L + 1 + 1, oc2') :: (L + 1, oc1') :: (D, lst ys) :: (P ++ pre) := ⟨_, rfl⟩
  have kc2 : (L + 1 + 1, oc2') ∈ K := hK ▸ List.mem_cons_self
  have kc1 : (L + 1, oc1') ∈ K := hK ▸ List.mem_cons_of_mem _ List.mem_cons_self
  have kt : (D, listOf (List.toArray ys) ys.length) ∈ K := hK ▸ List.mem_cons_of_mem _ (List.mem_cons_of_mem _ List.mem_cons_self)
  have kp : ∀ p ∈ P ++ pre, p ∈ K := fun p hp => hK ▸ List.mem_cons_of_mem _ (List.mem_cons_of_mem _ (List.mem_cons_of_mem _ hp))
  have N5' : News g L h5 ((ldr, listOf (List.toArray []) 0) :: (lfam, listOf (List.toArray []) 0) :: (lsh, listOf (List.toArray []) 0) :: K) := fun p hp => N5 p (by
    rw [hK] at hp
    simp only [List.mem_cons] at hp ⊢
    rcases hp with h | h | h | h | h
    · exact .inr (.inr (.inr (.inl h)))
    · exact .inr (.inr (.inl h))
    · exact .inl h
    · exact .inr (.inl h)
    · exact .inr (.inr (.inr (.inr h))))
  have d1 : ldr ≠ lfam := ne4 _ List.mem_cons_self
  have d2 : ldr ≠ lsh := ne5 _ (List.mem_cons_of_mem _ List.mem_cons_self)
  have d3 : lfam ≠ lsh := ne5 _ List.mem_cons_self
  have neK : ∀ p ∈ K, p.1 ≠ ldr ∧ p.1 ≠ lfam ∧ p.1 ≠ lsh := fun p hp => by
    rw [hK] at hp
    rcases List.mem_cons.mp hp with rfl | hp
    · exact ⟨ne3 (L + 1 + 1, oc2) List.mem_cons_self, ne4 (L + 1 + 1, oc2) (List.mem_cons_of_mem _ List.mem_cons_self), ne5c.symm⟩
    · exact ⟨ne3 p (List.mem_cons_of_mem _ hp), ne4 p (List.mem_cons_of_mem _ (List.mem_cons_of_mem _ hp)), ne5 p (List.mem_cons_of_mem _ (List.mem_cons_of_mem _ hp))⟩
  refine wpAny_execs_cons (la_loop (s := { s with heap := h5, toks := tk5 }) (vdr := []) (vfam := []) (vsh := []) (vt := ys) (nt := ys.length) (ite_ne (by decide) (ite_ne (by decide) (ite_ne (by decide) hs))) hl hi hsl (ite_ne (by decide) (ite_ne (by decide) (ite_eq rfl))) (ite_ne (by decide) (ite_eq rfl)) (ite_eq rfl) (hW.more fun p hp => kp p (List.mem_append_right _ hp)) kc1 hd1 kc2 hd2 kt (hT3.more kp) .nil .nil .nil d1 d2 d3 neK B XB TB X T F5 N5' fun m6 vdr vfam vsh ndr nfam nsh fam sh h6 tk6 hw6 hdr6 hf6 iv ifm pf ish ps F6 N6 => ?_)
  show wpAny _ _ (execs [lawS 6, lawS 7, lawS 8, lawS 9, lawS 10, lawS 11, lawS 12, lawS 13, lawS 14] _) _ _ { s with heap := h6, toks := tk6 }
  refine wpAny_execs_cons (la_due (s := { s with heap := h6, toks := tk6 }) hdr6 List.mem_cons_self iv (few_ranks ss) X T F6 N6 fun ldue vdue ks ndue h7 tk7 F7 N7 ne7 idue sdue mdue => ?_)
  show wpAny _ _ (execs [lawS 7, lawS 8, lawS 9, lawS 10, lawS 11, lawS 12, lawS 13, lawS 14] _) _ _ { s with heap := h7, toks := tk7 }
  have hfk : fam = ks := fam_is mdue sdue pf
  have hkb : ∀ r ∈ ks, 0 ≤ r ∧ r < 20 := fun r hr => rank_bounds ss r ((mdue r).mp hr)
  have hkl : ks.length ≤ 9 := Nat.le_trans (nodup_le ks (ranks ss) (lt_nodup sdue) fun z hz => (mdue z).mp hz) (ranks_len ss)
  have up7 : ∀ p ∈ K, p ∈ (ldue, listOf (List.toArray vdue) ndue) :: (ldr, listOf (List.toArray vdr) ndr) :: (lfam, listOf (List.toArray vfam) nfam) :: (lsh, listOf (List.toArray vsh) nsh) :: K := fun p hp => List.mem_cons_of_mem _ (List.mem_cons_of_mem _ (List.mem_cons_of_mem _ (List.mem_cons_of_mem _ hp)))
  have hTK : TriAre K ys (rowC 6) := hT3.more kp
  have hWK : WaysIn K lw := hW.more fun p hp => kp p (List.mem_append_right _ hp)
  refine wpAny_execs_cons (la_sides (s := { s with heap := h7, toks := tk7 }) (vt := ys) (nt := ys.length) (ite_eq rfl) List.mem_cons_self idue hkb (by lia) (up7 _ kc1) hd1 (up7 _ kt) (hTK.more up7) X T F7 N7 fun lsd ysd extra h8 tk8 F8 N8 ne8 gr hP8 => ?_)
  show wpAny _ _ (execs [lawS 8, lawS 9, lawS 10, lawS 11, lawS 12, lawS 13, lawS 14] _) _ _ { s with heap := h8, toks := tk8 }
  have up8 : ∀ p ∈ (ldue, listOf (List.toArray vdue) ndue) :: (ldr, listOf (List.toArray vdr) ndr) :: (lfam, listOf (List.toArray vfam) nfam) :: (lsh, listOf (List.toArray vsh) nsh) :: K, p ∈ (lsd, lst ysd) :: extra := fun p hp => List.mem_cons_of_mem _ (by
    obtain ⟨pre9, e9, _⟩ := gr
    rw [e9]
    exact List.mem_append_right _ hp)
  have upK : ∀ p ∈ K, p ∈ (lsd, lst ysd) :: extra := fun p hp => up8 p (up7 p hp)
  have kfam : (lfam, listOf (List.toArray vfam) nfam) ∈ (lsd, lst ysd) :: extra := up8 _ (List.mem_cons_of_mem _ (List.mem_cons_of_mem _ List.mem_cons_self))
  have ksh : (lsh, listOf (List.toArray vsh) nsh) ∈ (lsd, lst ysd) :: extra := up8 _ (List.mem_cons_of_mem _ (List.mem_cons_of_mem _ (List.mem_cons_of_mem _ List.mem_cons_self)))
  refine wpAny_execs_cons (la_check (s := { s with heap := h8, toks := tk8 }) (vs := ysd) (ns := ysd.length) (ps := sidesAll ks) (due := ks) (fam := fam) (sh := sh) (ite_eq rfl) List.mem_cons_self (hP8.more fun p hp => List.mem_cons_of_mem _ hp) (sides_bounds hkb) (by rw [sidesAll_len]; lia) (by rw [sides_nums hkb]; exact few_pairs hkb) (ite_ne (by decide) (ite_ne (by decide) hf6)) kfam ifm (ite_ne (by decide) (ite_eq rfl)) (up8 _ List.mem_cons_self) idue hfk (upK _ kc2) hd2 ksh ish (ups_of mdue (rank_bounds ss) ps) X T F8 N8 fun h9 tk9 F9 N9 => ?_)
  show wpAny _ _ (execs [lawS 9, lawS 10, lawS 11, lawS 12, lawS 13, lawS 14] _) _ _ { s with heap := h9, toks := tk9 }
  refine wpAny_execs_cons (la_first (s := { s with heap := h9, toks := tk9 }) X T F9 N9 fun lfst h10 tk10 F10 N10 ne10 => ?_)
  show wpAny _ _ (execs [lawS 10, lawS 11, lawS 12, lawS 13, lawS 14] _) _ _ { s with heap := h10, toks := tk10 }
  have hfl : fam.length ≤ 9 := hfk ▸ hkl
  refine wpAny_execs_cons (la_firsts (s := { s with heap := h10, toks := tk10 }) (v0 := []) (vt := ys) (nt := ys.length) (ite_eq rfl) .nil ne10 (ite_ne (by decide) (ite_ne (by decide) (ite_ne (by decide) hf6))) kfam ifm (by lia) (ite_ne (by decide) (ite_ne (by decide) (ite_ne (by decide) hw6))) (hWK.more upK) (upK _ kc1) hd1 (upK _ kt) (hTK.more upK) B X T F10 N10 fun m11 vfst fst nfst h11 tk11 hm11 ifst pfst F11 N11 => ?_)
  show wpAny _ _ (execs [lawS 11, lawS 12, lawS 13, lawS 14] _) _ _ { s with heap := h11, toks := tk11 }
  have hfam11 : m11 (Str.ofString "family") = some (.ref lfam) := (hm11 _ (by decide) (by decide) (by decide) (by decide)).trans (ite_ne (by decide) (ite_ne (by decide) (ite_ne (by decide) hf6)))
  have hways11 : m11 (Str.ofString "ways") = some (.ref lw) := (hm11 _ (by decide) (by decide) (by decide) (by decide)).trans (ite_ne (by decide) (ite_ne (by decide) (ite_ne (by decide) hw6)))
  have hfst11 : m11 (Str.ofString "first") = some (.ref lfst) := (hm11 _ (by decide) (by decide) (by decide) (by decide)).trans (ite_eq rfl)
  obtain ⟨t1, ⟨t2, t3⟩, ⟨t4, t5⟩, ⟨t6, t7⟩⟩ := trip8 fam.length hfl
  obtain ⟨q1, q2, q3⟩ := least_facts fam.length hfl
  have up11 : ∀ p ∈ (lsd, lst ysd) :: extra, p ∈ (lfst, listOf (List.toArray vfst) nfst) :: (lsd, lst ysd) :: extra := fun p hp => List.mem_cons_of_mem _ hp
  refine wpAny_execs_cons (la_least (s := { s with heap := h11, toks := tk11 }) (n := leastN fam.length) hfst11 List.mem_cons_self ifst hfam11 (up11 _ kfam) ifm (by lia) hways11 (hWK.more fun p hp => up11 p (upK p hp)) t1 t2 t3 t4 t5 t6 t7 q1 q2 q3 (first_is hfl pfst) B X T F11 N11 fun h12 tk12 F12 N12 => ?_)
  show wpAny _ _ (execs [lawS 12, lawS 13, lawS 14] _) _ _ { s with heap := h12, toks := tk12 }
  refine wpAny_execs_cons (la_counts (s := { s with heap := h12, toks := tk12 }) (vt := ys) (nt := ys.length) (up11 _ (upK _ kc1)) hd1 (up11 _ (upK _ kt)) (hTK.more fun p hp => up11 p (upK p hp)) ((tri_len hTK).trans rowC_len) B X T F12 N12 fun lc vc nc h13 tk13 ic F13 N13 ne13 => ?_)
  show wpAny _ _ (execs [lawS 13, lawS 14] _) _ _ { s with heap := h13, toks := tk13 }
  have up13 : ∀ p ∈ (lsd, lst ysd) :: extra, p ∈ (lc, listOf (List.toArray vc) nc) :: (lfst, listOf (List.toArray vfst) nfst) :: (lsd, lst ysd) :: extra := fun p hp => List.mem_cons_of_mem _ (up11 p hp)
  have hshl : sh.length ≤ 99 := by
    have := ps.2.2
    rw [pairsOf_len] at this
    have := ranks_len ss
    simp only [List.length_nil] at *
    lia
  refine wpAny_execs_cons (la_most (s := { s with heap := h13, toks := tk13 }) (ite_eq rfl) List.mem_cons_self ic cnt_bounds (by rw [cnt_len]; decide) (up13 _ (upK _ kc2)) hd2 (up13 _ ksh) ish hshl (Nat.le_trans (List.length_filter_le _ _) (by rw [cnt_len]; decide)) X T F13 N13 fun tm h14 tk14 F14 N14 => ?_)
  show wpAny _ _ (execs [lawS 14] _) _ _ { s with heap := h14, toks := tk14 }
  have s3 := ranks_368 ss
  have hsm : ∀ z, z ∈ sh ↔ z ∈ pairsOf fam := fun z => by
    rw [hfk, ps.2.1 z, pairsOf_mem mdue z]
    simp
  have hv := end_range hfl (kk_main (sh := sh) pf.1 (hfk ▸ hkb) (hfk ▸ (mdue 3).mpr s3.1) (hfk ▸ (mdue 6).mpr s3.2.1) (hfk ▸ (mdue 8).mpr s3.2.2) hfl hsm)
  refine wpAny_execs_cons (la_end (s := { s with heap := h14, toks := tk14 }) (ite_ne (by decide) (ite_eq rfl)) List.mem_cons_self ic (by rw [cnt_len]; decide) cnt_sorted (ite_ne (by decide) (ite_ne (by decide) hfam11)) (up13 _ kfam) ifm (by lia) (ite_eq rfl) (up13 _ (upK _ kc2)) hd2 (up13 _ ksh) ish hshl hv (fun k hk => invR_count hk) B X T F14 N14 fun h15 tk15 F15 N15 => ?_)
  exact hQ _ _ _ _ F15 N15
end
end Mine
end
local macro_rules | `(tactic| k_qdec) => `(tactic| decide +kernel)
open PySem PySem.W PyProof.Rows PySem.Calls PySem.Spec
set_option maxRecDepth 100000
set_option maxHeartbeats 8000000 in
theorem PySem.Challenge.cw_wy0014_01_holds : PySem.Challenge.rw_wy0014_01.Holds :=
  Mine.hd (by
  k_go0
  all_goals try k_fold
  rename (PyProof.Rows.IntsAre _ _) => hI9
  rename (PySem.Heap.IsList _ _ _) => hL9
  rename (Below _ _ _ _) => B9
  rename (PyProof.Rows.Top _ _ _ _ _ _) => T9
  refine Mine.law_body (?hs) hL9 hI9 (?hsl) (?h1) (?h2) B9 (by assumption) T9 (by assumption) T9 (by assumption) (by assumption) (fun m' nx h' tk' F' N' => ?_)
  case hs => rfl
  case hsl => omega
  case h1 => assumption
  case h2 => assumption
  w_strict (k_steps))
