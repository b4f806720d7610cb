import PyProof.Rows.All
import Wide.All
import OpenK.AllK
import Wide.FinOn
import PySem.Challenge.RW_nb0005_01
open PySem PySem.W PyProof.Rows
set_option Elab.async false
set_option compiler.extract_closed false
section
namespace Mine
set_option maxRecDepth 100000
set_option maxHeartbeats 8000000
open_top hd for PySem.Challenge.rw_nb0005_01
end Mine
end
open PySem.Calls
local macro_rules | `(tactic| k_ne) => `(tactic| (refine neN ?_; (try dsimp only); first | (with_reducible assumption) | (refine Ne.symm ?_; with_reducible assumption) | (simp only [ne_eq, *, not_false_eq_true]; done) | (refine Ne.symm ?_; simp only [ne_eq, *, not_false_eq_true]; done) | (refine Nat.ne_of_gt ?_; simp only [*]; done) | (refine Nat.ne_of_lt ?_; simp only [*]; done)))
-- NbBase
section
open PySem PySem.W PySem.Calls PyProof.Rows
namespace Mine
set_option maxRecDepth 100000
set_option maxHeartbeats 8000000

noncomputable abbrev KP (w : World) : Frag := hd.heap_39 w.params

/-- what lies in h lies in h' too, but for the addresses that are named -/
noncomputable def Kept (h h' : Heap) (tch : List Addr) : Prop := ∀ b o, h.get? b = some o → b ∉ tch → h'.get? b = some o

theorem Kept.refl (h : Heap) (tch : List Addr) : Kept h h tch := fun _ _ e _ => e
theorem Kept.trans {h h' h'' : Heap} {tch : List Addr} (a : Kept h h' tch) (b : Kept h' h'' tch) : Kept h h'' tch := fun x o e n => b x o (a x o e n) n
theorem Kept.mono {h h' : Heap} {t t' : List Addr} (a : Kept h h' t) (s : ∀ x ∈ t, x ∈ t') : Kept h h' t' := fun x o e n => a x o e fun q => n (s x q)

/-- a frame goes on where all but ledger objects is kept -/
theorem Kept.fr {h₀ h h' : Heap} {L : Addr} {m : Str → Option Value} {tch : List Addr} (k : Kept h h' tch) (F : Fr h₀ L h m) (hL : L ∉ tch) (h0 : ∀ b ∈ tch, h₀.get? b = none) : Fr h₀ L h' m := by
  obtain ⟨oL, es, ep, hg, r⟩ := F.ns
  refine ⟨⟨oL, es, ep, k L oL hg hL, r⟩, fun b o e => k b o (F.keep b o e) fun q => ?_, F.above⟩
  rw [h0 b q] at e; cases e
theorem Kept.news {h₀ h h' : Heap} {L : Addr} {news : List (Addr × Obj)} {tch : List Addr} (k : Kept h h' tch) (N : News h₀ L h news) (hn : ∀ p ∈ news, p.1 ∉ tch) : News h₀ L h' news :=
  fun p hp => ⟨k p.1 p.2 (N p hp).1 (hn p hp), (N p hp).2⟩

theorem Kept.fr1 {g h h' : Heap} {L l : Addr} {o : Obj} {m : Str → Option Value} {rest : List (Addr × Obj)} (k : Kept h h' [l]) (F : Fr g L h m) (N : News g L h ((l, o) :: rest)) : Fr g L h' m :=
  k.fr F (fun q => (N _ (.head _)).2.1 (List.mem_singleton.mp q).symm) (fun b q => by rw [List.mem_singleton.mp q]; exact (N _ (.head _)).2.2)
theorem Kept.news1 {g h h' : Heap} {L l : Addr} {o o' : Obj} {rest : List (Addr × Obj)} (k : Kept h h' [l]) (N : News g L h ((l, o) :: rest)) (hr : ∀ p ∈ rest, p.1 ≠ l) (e : h'.get? l = some o') : News g L h' ((l, o') :: rest) := by
  intro p hp
  rcases List.mem_cons.mp hp with rfl | hp
  · exact ⟨e, (N _ (.head _)).2⟩
  · exact ⟨k p.1 p.2 (N p (.tail _ hp)).1 (fun q => hr p hp (List.mem_singleton.mp q)), (N p (.tail _ hp)).2⟩
theorem News.one {g h : Heap} {L : Addr} {q : Addr × Obj} {news : List (Addr × Obj)} (N : News g L h news) (hq : q ∈ news) : News g L h [q] := fun p hp => by
  rw [List.mem_singleton.mp hp]; exact N q hq

theorem Kept.frOf {g h h' : Heap} {L l : Addr} {o : Obj} {m : Str → Option Value} {news : List (Addr × Obj)} (k : Kept h h' [l]) (F : Fr g L h m) (N : News g L h news) (hm : (l, o) ∈ news) : Fr g L h' m :=
  k.fr F (fun q => (N _ hm).2.1 (List.mem_singleton.mp q).symm) (fun b q => by rw [List.mem_singleton.mp q]; exact (N _ hm).2.2)
theorem Kept.upd {g h h' : Heap} {L l : Addr} {o o' : Obj} {news news' : List (Addr × Obj)} (k : Kept h h' [l]) (N : News g L h news) (U : Upd l o o' news news') (e : h'.get? l = some o') : News g L h' news' := by
  obtain ⟨pre, post, rfl, rfl, a, b⟩ := U.split
  have hl := N (l, o) (List.mem_append_right _ (.head _))
  intro p hp
  rcases List.mem_append.mp hp with hp | hp
  · exact ⟨k p.1 p.2 (N p (List.mem_append_left _ hp)).1 (fun q => a p hp (List.mem_singleton.mp q)), (N p (List.mem_append_left _ hp)).2⟩
  · rcases List.mem_cons.mp hp with rfl | hp
    · exact ⟨e, hl.2⟩
    · exact ⟨k p.1 p.2 (N p (List.mem_append_right _ (.tail _ hp))).1 (fun q => b p hp (List.mem_singleton.mp q)), (N p (List.mem_append_right _ (.tail _ hp))).2⟩

theorem mem_fst {l : List (Addr × Obj)} {as : List Addr} {p : Addr × Obj} (e : l.map (·.1) = as) (hp : p ∈ l) : p.1 ∈ as := e ▸ List.mem_map_of_mem (f := (·.1)) hp
theorem News.less {g h : Heap} {L : Addr} {l l' : List (Addr × Obj)} (N : News g L h l) (s : ∀ p ∈ l', p ∈ l) : News g L h l' := fun p hp => N p (s p hp)

theorem room1 {d b c k : Nat} (h : d + b < c) (e : 1 + k ≤ b) : d + 1 + k < c := by omega
theorem room3 {u b c k : Nat} (h : u + 20 * b < c) (e : 3 + 20 * k ≤ 20 * b) : u + 3 + 20 * k < c := by omega
theorem room64 {u b c : Nat} (h : u + 20 * b < c) (e : 3 + 64 ≤ 20 * b) : u + 3 + 64 < c := by omega
theorem room0 {d b c : Nat} (h : d + b < c) : d < c := by omega
theorem turn0 (i : Nat) : 0 + (i : Int) * 1 = i := by omega
theorem turn1 (i : Nat) : (0 + (i : Int) * 1).toNat = i := by omega

theorem and3E {a b c G : Prop} (h : a ∧ b ∧ c) (k : a → b → c → G) : G := k h.1 h.2.1 h.2.2
theorem and4E {a b c d G : Prop} (h : a ∧ b ∧ c ∧ d) (k : a → b → c → d → G) : G := k h.1 h.2.1 h.2.2.1 h.2.2.2

/-- a long postcondition is hidden behind a name while the walk goes on -/
theorem gen_post {M : Model} {A : Around} {t : Sem Flow} {Q : Flow → Shared → Prop} {E : Value → Shared → Prop} {s : Shared} (h : ∀ FP : Flow → Shared → Prop, (∀ f s', Q f s' → FP f s') → wpAny M A t FP E s) : wpAny M A t Q E s := h Q fun _ _ x => x

/-- the walk stands still here -/
noncomputable def Stop (p : Prop) : Prop := p
theorem stop {p : Prop} (h : Stop p) : p := h
theorem Stop.go {p : Prop} (h : p) : Stop p := h

section
variable {prog : Program} {w : World} {p : Program} {loose : List Str} {mean : ExcName → Option Value} {mg mb : Str → Option Value} {dp un : Nat} {gd : Option (List Code)} {cn : Str} {cs : Scope} {a : Addr} {ccd : Value} {cl : List (Str × Addr)} {outer : List Env}
  {A₀ : Around} {base h₀ : Heap} {L : Addr} {m : Str → Option Value} {tch : List (Addr × Obj)} {s : Shared} {Q E : Value → Shared → Prop}
  {name qual : Str} {params : Arguments} {body : List Stmt} {scope : Scope} {dV kV doc pm cdv ct oc : Value} {an od : Option Addr} {osl : Array (Option Value)} {f : Addr} {vals : List Value} {binds : List (Str × Value)} {K : Frag}

/-- a def of the text is entered: the objects of tch may change, all else of the heap is the callee's ground -/
theorem enter (B : Below A₀ base outer h₀) (F : Fr h₀ L s.heap m) (X : K.In h₀) (N : News h₀ L s.heap tch) (T : Top p loose mean mg mb h₀) (hk : cs.kind = .function)
    (ho : K.lookup f = some ⟨oc, od, .func (fnOf name qual params body scope dV kV doc pm an cdv ct), osl⟩) (hcd : codeIn K cdv qual = true) (hroom : dp < recursionLimit)
    (hbind : BindsTo s (fnOf name qual params body scope dV kV doc pm an cdv ct) ⟨vals, []⟩ binds) (hloc : ∀ y ∈ binds, scope.names.lookup y.1 = some .local)
    (hco : scope.isCoroutine = false) (hgen : scope.isGenerator = false) (hks : scope.kind = .function) (hcell : ∀ x ∈ scope.names, x.2 ≠ .cell)
    (h : ∀ g L' h₁ tk, Kept s.heap g (tch.map (·.1)) → Fr g L' h₁ (fun y => binds.reverse.lookup y) → News g L' h₁ tch → Below (ktrTop dp un gd cn cs L a ccd cl outer) base (envX cn cs L a ccd cl :: outer) g → K.In g → Top p loose mean mg mb g →
      wpAny (model prog w) (ktrTop (dp + 1) (un + 3) gd qual scope L' f cdv [] (envX cn cs L a ccd cl :: outer)) (execs body (envOf qual scope L' f cdv))
        (fun fl s' => Q (match fl with | .ret v => v | _ => .none) s') (fun _ _ => False) { s with heap := h₁, toks := tk }) :
    wpAny (model prog w) (ktrTop dp un gd cn cs L a ccd cl outer) (call (.ref f) vals) Q E s := by
  refine wpAny_noRaise (wpAny_call ?_)
  obtain ⟨FG, BG, st, _⟩ := groundX (env := envX cn cs L a ccd cl) (A := ktrTop dp un gd cn cs L a ccd cl outer) (R := fun _ _ => True) B F N rfl rfl hk
  refine codeAny_call_def (fd := fnOf name qual params body scope dV kV doc pm an cdv ct) (body := body) (binds := binds) hroom ((X.keeps F.keep) _ _ ho) rfl (T.nolimit.keeps F.keep) (codeRec_of (X.keeps F.keep) hcd) rfl hbind hcell hloc (fun h₁ hns hk₁ => ?_) hco hgen hks
  have st' : ∀ b o, h₀.get? b = some o → (hideAll s.heap (tch.map (·.1))).get? b = some o := st
  refine wpAny_mono (h (hideAll s.heap (tch.map (·.1))) s.heap.objs.size h₁ _ (fun b o e n => hideAll_get _ e n) ⟨hns, fun b o e => hk₁ b o (of_hideAll _ e), Nat.le_of_eq (hideAll_size _ _)⟩
    (fun q hq => ⟨hk₁ _ _ (N q hq).1, Nat.ne_of_lt (Heap.lt_size (N q hq).1), hideAll_none _ (List.mem_map_of_mem hq)⟩) BG (X.keeps st') (T.keeps st')) (fun fl s' x => x) fun _ _ x => x.elim
end

/-- where a call stands: the caller's frame, what lies beneath it, the text's top -/
structure Cx (w : World) (p : Program) (loose : List Str) (mean : ExcName → Option Value) (mg mb : Str → Option Value) (dp un : Nat) (cs : Scope) (outer : List Env) (A₀ : Around) (base h₀ : Heap) (L : Addr) (m : Str → Option Value) (h : Heap) (k : Nat) : Prop where
  B : Below A₀ base outer h₀
  F : Fr h₀ L h m
  X : (hd.heap_39 w.params).In h₀
  T : Top p loose mean mg mb h₀
  hk : cs.kind = .function
  hdp : dp + k < recursionLimit
  hun : un + 20 * k < cLine
end Mine
end
section
open PySem PySem.W PySem.Calls PyProof.Rows
open Mine
local macro_rules | `(tactic| ksw_same) => `(tactic| (intro z h2 h3; (simp only [List.forall_mem_cons, List.not_mem_nil, false_implies, implies_true, and_true, ne_eq] at h2); (simp only [List.contains_cons, List.contains_nil, Bool.or_false, Bool.or_eq_false_iff, beq_eq_false_iff_ne, ne_eq] at h3); simp [kstB, h2, h3]))
local macro_rules | `(tactic| walk_at "binaryOp RShift int int") => `(tactic| refine wpAny_rshift1_int (by omega) ?_)
local macro_rules | `(tactic| walk_at $s:str) => if ["exec While Compare cons nil", "KswEnd", "call ref"].contains s.getString then `(tactic| refine stop ?_) else Lean.Macro.throwUnsupported
-- NbSift
section
open PySem PySem.W PySem.Calls PyProof.Rows
namespace Mine
theorem reset_NbSift : True := by
  w_top off
  trivial
set_option maxRecDepth 100000
set_option maxHeartbeats 8000000
/-- _siftdown's loop and last store, from the place p, the item x in hand -/
noncomputable def sdF (x : Int) (ns : List Int) (p : Nat) : List Int :=
  if h : 0 < p then
    if x < ns.getD ((p - 1) / 2) 0 then sdF x (ns.set p (ns.getD ((p - 1) / 2) 0)) ((p - 1) / 2) else ns.set p x
  else ns.set p x
termination_by p
decreasing_by omega

theorem sdF_len (x : Int) (p : Nat) : ∀ ns : List Int, (sdF x ns p).length = ns.length := by
  induction p using Nat.strongRecOn with
  | ind p ih =>
    intro ns
    rw [sdF]
    split
    · split
      · rw [ih _ (by omega)]; simp
      · simp
    · simp


variable {w : World} {p : Program} {loose : List Str} {mean : ExcName → Option Value} {mg mb : Str → Option Value} {dp un : Nat} {gd : Option (List Code)} {cn : Str} {cs : Scope} {a : Addr} {ccd : Value} {cl : List (Str × Addr)} {outer : List Env} {A₀ : Around} {base h₀ : Heap} {L : Addr} {m : Str → Option Value} {s : Shared} {Q E : Value → Shared → Prop}

theorem par0 {p : Int} (h : 0 < p) : 0 ≤ (p - 1) / 2 := by omega
theorem par1 {p : Int} (h : 0 < p) : ((p - 1) / 2).toNat = (p.toNat - 1) / 2 := by omega
theorem par2 {p n : Int} (h : 0 < p) (hn : p < n) : (p - 1) / 2 < n := by omega
theorem par3 {p : Int} (h : 0 < p) : ((p - 1) / 2).toNat < p.toNat := by omega
theorem par4 {p : Int} (h : 0 < p) : 0 < p.toNat := by omega
theorem down_go {x : Int} {ns : List Int} {p : Int} (h : 0 < p) (hlt : x < ns.getD ((p - 1) / 2).toNat 0) : sdF x (ns.set p.toNat (ns.getD ((p - 1) / 2).toNat 0)) ((p - 1) / 2).toNat = sdF x ns p.toNat := by
  conv => rhs; rw [sdF]
  rw [par1 h] at hlt ⊢
  rw [dif_pos (par4 h), if_pos hlt]
theorem down_stop {x : Int} {ns : List Int} {p : Int} (h : 0 < p) (hlt : ¬ x < ns.getD ((p - 1) / 2).toNat 0) : sdF x ns p.toNat = ns.set p.toNat x := by
  rw [par1 h] at hlt
  rw [sdF, dif_pos (par4 h), if_neg hlt]
theorem down_top {x : Int} {ns : List Int} {p : Int} (h : ¬ 0 < p) : sdF x ns p.toNat = ns.set p.toNat x := by
  rw [sdF, dif_neg (by omega)]

theorem siftdown_int {l : Addr} {vs : List Value} {ns : List Int} {n : Nat} {t1 t2 : Tok} {pos : Int} (C : Cx w p loose mean mg mb dp un cs outer A₀ base h₀ L m s.heap 2) (N : News h₀ L s.heap [(l, listOf vs.toArray n)])
    (hi : IntsAre vs ns) (hp0 : 0 ≤ pos) (hp1 : pos < ns.length) (hlen : ns.length < 100)
    (ret : ∀ vs' h' tk', IntsAre vs' (sdF (ns.getD pos.toNat 0) ns pos.toNat) → Kept s.heap h' [l] → h'.get? l = some (listOf vs'.toArray n) → Q .none {s with heap := h', toks := tk'}) :
    wpAny (model Challenge.rw_nb0005_01.row.prog w) (ktrTop dp un gd cn cs L a ccd cl outer) (call (.ref 63) [.ref l, .int 0 t1, .int pos t2]) Q E s := by
  obtain ⟨B, F, X, T, hk, hdp, hun⟩ := C
  refine enter (binds := [(Str.ofString "heap", .ref l), (Str.ofString "startpos", .int 0 t1), (Str.ofString "pos", .int pos t2)]) B F X N T hk (by k_dflt k_is) (by k_dflt k_is) (room0 hdp) (BindsTo.of_eq (by rfl)) (locs rfl) rfl rfl rfl (by decide) ?_
  clear N F B X T
  intro g L' h₁ tk hg F N B X T
  simp only [List.reverse_cons, List.reverse_nil, List.nil_append, List.cons_append] at F
  k_fold
  k_steps
  refine Stop.go ?_
  (rename Fr _ _ _ _ => lF'); (rename News _ _ _ _ => lN')
  refine ksw_while (σ := List Value × List Int × Int × Tok) (fun c => [(l, listOf c.1.toArray n)]) (fun c => [(Str.ofString "pos", .int c.2.2.1 c.2.2.2)]) (fun c => IntsAre c.1 c.2.1) [Str.ofString "parentpos", Str.ofString "parent"]
      (fun c => 0 ≤ c.2.2.1 ∧ c.2.2.1 < c.2.1.length ∧ c.2.1.length < 100 ∧ sdF (ns.getD pos.toNat 0) c.2.1 c.2.2.1.toNat = sdF (ns.getD pos.toNat 0) ns pos.toNat) (fun c => c.2.2.1.toNat) (vs, ns, pos, t2)
      lF' lN' ?_ ?_ ?_ ?_ PassesOwn.never
  · assumption
  · exact List.forall_mem_cons.mpr ⟨by rfl, List.forall_mem_nil _⟩
  · exact ⟨hp0, hp1, hlen, rfl⟩
  clear lF' lN' hi
  rintro ⟨vs', ns', pos', t'⟩ u h tk hI ⟨hp0', hp1', hl', he'⟩ F' N'
  dsimp only at hI hp0' hp1' hl' he' F' N' ⊢
  k_fold
  k_steps
  · refine Stop.go ?_
    (rename Fr _ _ _ _ => eF); (rename News _ _ _ _ => eN); (rename IntsAre _ _ => eI)
    refine ksw_end (_, _, _, _) eF eN (fun _ h => h) eI (List.forall_mem_cons.mpr ⟨by rfl, List.forall_mem_nil _⟩) (by ksw_same) ⟨?_, ?_, ?_, ?_⟩ ?_
    · exact par0 (by assumption)
    · dsimp only; rw [List.length_set]; exact par2 (by assumption) hp1'
    · dsimp only; rw [List.length_set]; exact hl'
    · exact (down_go (by assumption) (by assumption)).trans he'
    · exact par3 (by assumption)
  · (rename Fr _ _ _ _ => eF); (rename News _ _ _ _ => eN); (rename IntsAre _ _ => eI)
    refine ret _ _ _ (he' ▸ ?_) (fun b o e n => eF.keep b o (hg b o e (by simpa using n))) (eN.get (.head _))
    rw [down_stop (by assumption) (by assumption)]
    exact eI
  · (rename Fr _ _ _ _ => eF); (rename News _ _ _ _ => eN); (rename IntsAre _ _ => eI)
    refine ret _ _ _ (he' ▸ ?_) (fun b o e n => eF.keep b o (hg b o e (by simpa using n))) (eN.get (.head _))
    rw [down_top (by assumption)]
    exact eI
end Mine
end
-- NbUp
section
open PySem PySem.W PySem.Calls PyProof.Rows
namespace Mine
theorem reset_NbUp : True := by
  w_top off
  trivial
set_option maxRecDepth 100000
set_option maxHeartbeats 8000000

/-- _siftup's loop: the list and the place where it ends -/
noncomputable def suL (ns : List Int) (p : Nat) : List Int × Nat :=
  if h : 2 * p + 1 < ns.length then
    if 2 * p + 2 < ns.length ∧ ¬ ns.getD (2 * p + 1) 0 < ns.getD (2 * p + 2) 0 then suL (ns.set p (ns.getD (2 * p + 2) 0)) (2 * p + 2) else suL (ns.set p (ns.getD (2 * p + 1) 0)) (2 * p + 1)
  else (ns, p)
termination_by ns.length - p
decreasing_by all_goals (simp only [List.length_set]; omega)

/-- _siftup from the place 0 -/
noncomputable def suF (ns : List Int) : List Int := sdF (ns.getD 0 0) ((suL ns 0).1.set (suL ns 0).2 (ns.getD 0 0)) (suL ns 0).2

theorem suL_len : ∀ (k : Nat) (ns : List Int) (p : Nat), ns.length - p ≤ k → (suL ns p).1.length = ns.length := by
  intro k
  induction k with
  | zero => intro ns p h; rw [suL, dif_neg (by omega)]
  | succ k ih =>
    intro ns p h
    rw [suL]
    split
    · split
      · rw [ih _ _ (by simp only [List.length_set]; omega)]; simp
      · rw [ih _ _ (by simp only [List.length_set]; omega)]; simp
    · rfl
variable {w : World} {p : Program} {loose : List Str} {mean : ExcName → Option Value} {mg mb : Str → Option Value} {dp un : Nat} {gd : Option (List Code)} {cn : Str} {cs : Scope} {a : Addr} {ccd : Value} {cl : List (Str × Addr)} {outer : List Env} {A₀ : Around} {base h₀ : Heap} {L : Addr} {m : Str → Option Value} {s : Shared} {Q E : Value → Shared → Prop}

theorem kidnat1 {p : Int} (h : 0 ≤ p) : (2 * p + 1).toNat = 2 * p.toNat + 1 := by omega
theorem kidnat2 {p : Int} (h : 0 ≤ p) : (2 * p + 1 + 1).toNat = 2 * p.toNat + 2 := by omega
theorem fall1 {n : Nat} {p : Int} (h : 0 ≤ p) (h1 : 2 * p + 1 < n) : n - (2 * p + 1).toNat < n - p.toNat := by omega
theorem fall2 {n : Nat} {p : Int} (h : 0 ≤ p) (h1 : 2 * p + 1 + 1 < n) : n - (2 * p + 1 + 1).toNat < n - p.toNat := by omega
theorem kid1 {n : Nat} {p : Int} (h : 0 ≤ p) (h1 : 2 * p + 1 < n) : 2 * p.toNat + 1 < n := by omega
theorem kid2 {n : Nat} {p : Int} (h : 0 ≤ p) (h1 : 2 * p + 1 + 1 < n) : 2 * p.toNat + 2 < n := by omega
theorem nokid2 {n : Nat} {p : Int} (h : 0 ≤ p) (h1 : ¬ 2 * p + 1 + 1 < n) : ¬ 2 * p.toNat + 2 < n := by omega
theorem kid_lt {n : Nat} {p : Int} (h1 : 2 * p + 1 + 1 < n) : 2 * p + 1 < n := by omega
theorem kidpos1 {p : Int} (h : 0 ≤ p) : 0 ≤ 2 * p + 1 := by omega
theorem kidpos2 {p : Int} (h : 0 ≤ p) : 0 ≤ 2 * p + 1 + 1 := by omega
theorem up_left {ns : List Int} {n : Nat} {p : Int} (h : 0 ≤ p) (hl : ns.length = n) (h2 : 2 * p + 1 + 1 < n) (hlt : ns.getD (2 * p + 1).toNat 0 < ns.getD (2 * p + 1 + 1).toNat 0) :
    suL (ns.set p.toNat (ns.getD (2 * p + 1).toNat 0)) (2 * p + 1).toNat = suL ns p.toNat := by
  subst hl
  rw [kidnat1 h, kidnat2 h] at hlt
  conv => rhs; rw [suL]
  rw [dif_pos (kid1 h (kid_lt h2)), if_neg (fun q => q.2 hlt), kidnat1 h]
theorem up_right {ns : List Int} {n : Nat} {p : Int} (h : 0 ≤ p) (hl : ns.length = n) (h2 : 2 * p + 1 + 1 < n) (hlt : ¬ ns.getD (2 * p + 1).toNat 0 < ns.getD (2 * p + 1 + 1).toNat 0) :
    suL (ns.set p.toNat (ns.getD (2 * p + 1 + 1).toNat 0)) (2 * p + 1 + 1).toNat = suL ns p.toNat := by
  subst hl
  rw [kidnat1 h, kidnat2 h] at hlt
  conv => rhs; rw [suL]
  rw [dif_pos (kid1 h (kid_lt h2)), if_pos ⟨kid2 h h2, hlt⟩, kidnat2 h]
theorem up_only {ns : List Int} {n : Nat} {p : Int} (h : 0 ≤ p) (hl : ns.length = n) (h1 : 2 * p + 1 < n) (h2 : ¬ 2 * p + 1 + 1 < n) :
    suL (ns.set p.toNat (ns.getD (2 * p + 1).toNat 0)) (2 * p + 1).toNat = suL ns p.toNat := by
  subst hl
  conv => rhs; rw [suL]
  rw [dif_pos (kid1 h h1), if_neg (fun q => nokid2 h h2 q.1), kidnat1 h]
theorem siftup_int {l : Addr} {vs : List Value} {ns : List Int} {n : Nat} {t1 : Tok} (C : Cx w p loose mean mg mb dp un cs outer A₀ base h₀ L m s.heap 4) (N : News h₀ L s.heap [(l, listOf vs.toArray n)])
    (hi : IntsAre vs ns) (hp1 : 0 < ns.length) (hlen : ns.length < 100)
    (ret : ∀ vs' h' tk', IntsAre vs' (suF ns) → Kept s.heap h' [l] → h'.get? l = some (listOf vs'.toArray n) → Q .none {s with heap := h', toks := tk'}) :
    wpAny (model Challenge.rw_nb0005_01.row.prog w) (ktrTop dp un gd cn cs L a ccd cl outer) (call (.ref 70) [.ref l, .int 0 t1]) Q E s := by
  obtain ⟨B, F, X, T, hk, hdp, hun⟩ := C
  refine enter (binds := [(Str.ofString "heap", .ref l), (Str.ofString "pos", .int 0 t1)]) B F X N T hk (by k_dflt k_is) (by k_dflt k_is) (room0 hdp) (BindsTo.of_eq (by rfl)) (locs rfl) rfl rfl rfl (by decide) ?_
  clear N F B X T
  intro g L' h₁ tk hg F N B X T
  simp only [List.reverse_cons, List.reverse_nil, List.nil_append, List.cons_append] at F
  k_fold
  k_steps
  refine Stop.go ?_
  (rename Fr _ _ _ _ => lF'); (rename News _ _ _ _ => lN')
  refine' ksw_while (σ := List Value × List Int × Int × Tok × Int × Tok) (fun c => [(l, listOf c.1.toArray n)]) (fun c => [(Str.ofString "pos", .int c.2.2.1 c.2.2.2.1), (Str.ofString "childpos", .int c.2.2.2.2.1 c.2.2.2.2.2)]) (fun c => IntsAre c.1 c.2.1) [Str.ofString "rightpos"]
      (fun c => 0 ≤ c.2.2.1 ∧ c.2.2.1 < c.2.1.length ∧ c.2.1.length = ns.length ∧ c.2.2.2.2.1 = 2 * c.2.2.1 + 1 ∧ suL c.2.1 c.2.2.1.toNat = suL ns 0) (fun c => ns.length - c.2.2.1.toNat) (vs, ns, 0, _, _, _)
      lF' lN' ?ka ?kb ?kc ?kd PassesOwn.never
  case kb => exact List.forall_mem_cons.mpr ⟨by rfl, List.forall_mem_cons.mpr ⟨by rfl, List.forall_mem_nil _⟩⟩
  case ka => assumption
  case kc => exact ⟨Int.le_refl 0, by show (0 : Int) < ns.length; omega, rfl, rfl, rfl⟩
  clear lF' lN' hi
  rintro ⟨vs', ns', pos', t', ch', u'⟩ u h tk hI ⟨hp0', hp1', hl', hc', he'⟩ F' N'
  dsimp only at hI hp0' hp1' hl' hc' he' F' N' ⊢
  subst hc'
  k_fold
  k_steps
  · refine Stop.go ?_
    (rename Fr _ _ _ _ => eF); (rename News _ _ _ _ => eN); (rename IntsAre _ _ => eI)
    refine ksw_end (_, _, _, _, _, _) eF eN (fun _ h => h) eI (List.forall_mem_cons.mpr ⟨by rfl, List.forall_mem_cons.mpr ⟨by rfl, List.forall_mem_nil _⟩⟩) (by ksw_same) ⟨?_, ?_, ?_, ?_, ?_⟩ ?_
    · exact kidpos1 hp0'
    · dsimp only; rw [List.length_set, hl']; exact kid_lt (by assumption)
    · dsimp only; rw [List.length_set]; exact hl'
    · rfl
    · exact (up_left hp0' hl' (by assumption) (by assumption)).trans he'
    · exact fall1 hp0' (kid_lt (by assumption))
  · refine Stop.go ?_
    (rename Fr _ _ _ _ => eF); (rename News _ _ _ _ => eN); (rename IntsAre _ _ => eI)
    refine ksw_end (_, _, _, _, _, _) eF eN (fun _ h => h) eI (List.forall_mem_cons.mpr ⟨by rfl, List.forall_mem_cons.mpr ⟨by rfl, List.forall_mem_nil _⟩⟩) (by ksw_same) ⟨?_, ?_, ?_, ?_, ?_⟩ ?_
    · exact kidpos2 hp0'
    · dsimp only; rw [List.length_set, hl']; assumption
    · dsimp only; rw [List.length_set]; exact hl'
    · rfl
    · exact (up_right hp0' hl' (by assumption) (by assumption)).trans he'
    · exact fall2 hp0' (by assumption)
  · refine Stop.go ?_
    (rename Fr _ _ _ _ => eF); (rename News _ _ _ _ => eN); (rename IntsAre _ _ => eI)
    refine ksw_end (_, _, _, _, _, _) eF eN (fun _ h => h) eI (List.forall_mem_cons.mpr ⟨by rfl, List.forall_mem_cons.mpr ⟨by rfl, List.forall_mem_nil _⟩⟩) (by ksw_same) ⟨?_, ?_, ?_, ?_, ?_⟩ ?_
    · exact kidpos1 hp0'
    · dsimp only; rw [List.length_set, hl']; assumption
    · dsimp only; rw [List.length_set]; exact hl'
    · rfl
    · exact (up_only hp0' hl' (by assumption) (by assumption)).trans he'
    · exact fall1 hp0' (by assumption)
  · refine Stop.go ?_
    (rename Fr _ _ _ _ => eF); (rename News _ _ _ _ => eN); (rename IntsAre _ _ => eI)
    have hx : suL ns 0 = (ns', pos'.toNat) := by rw [← he', suL, dif_neg (by omega)]
    refine siftdown_int ⟨B, eF, X, T, rfl, room1 hdp (by decide), room3 hun (by decide)⟩ eN eI hp0' (by simp only [List.length_set]; omega) (by simp only [List.length_set]; omega) ?_
    intro vs2 h2 tk2 hI2 hK2 hG2
    have eF2 := hK2.fr1 eF eN
    have eN2 := hK2.news1 eN (fun _ h => nomatch h) hG2
    clear eF eN
    dsimp only
    k_steps
    refine ret vs2 _ _ ?_ (fun b o e n => eF2.keep b o (hg b o e (by simpa using n))) hG2
    unfold suF
    rw [hx]
    have e3 : (ns'.set pos'.toNat (ns.getD (Int.toNat 0) 0)).getD pos'.toNat 0 = ns.getD 0 0 := by
      rw [List.getD_eq_getElem?_getD, List.getElem?_set_self (by omega)]; rfl
    rw [e3] at hI2
    exact hI2
end Mine
end
-- NbPush
section
open PySem PySem.W PySem.Calls PyProof.Rows
namespace Mine
theorem reset_NbPush : True := by
  w_top off
  trivial
set_option maxRecDepth 100000
set_option maxHeartbeats 8000000
variable {w : World} {p : Program} {loose : List Str} {mean : ExcName → Option Value} {mg mb : Str → Option Value} {dp un : Nat} {gd : Option (List Code)} {cn : Str} {cs : Scope} {a : Addr} {ccd : Value} {cl : List (Str × Addr)} {outer : List Env} {A₀ : Around} {base h₀ : Heap} {L : Addr} {m : Str → Option Value} {s : Shared} {Q E : Value → Shared → Prop}

theorem heappush_int {l : Addr} {vs : List Value} {ns : List Int} {n : Nat} {x : Int} {t1 : Tok} (C : Cx w p loose mean mg mb dp un cs outer A₀ base h₀ L m s.heap 4) (N : News h₀ L s.heap [(l, listOf vs.toArray n)])
    (hi : IntsAre vs ns) (hlen : ns.length < 90)
    (ret : ∀ vs' n' h' tk', IntsAre vs' (sdF x (ns ++ [x]) ns.length) → Kept s.heap h' [l] → h'.get? l = some (listOf vs'.toArray n') → Q .none {s with heap := h', toks := tk'}) :
    wpAny (model Challenge.rw_nb0005_01.row.prog w) (ktrTop dp un gd cn cs L a ccd cl outer) (call (.ref 21) [.ref l, .int x t1]) Q E s := by
  obtain ⟨B, F, X, T, hk, hdp, hun⟩ := C
  refine enter (binds := [(Str.ofString "heap", .ref l), (Str.ofString "item", .int x t1)]) B F X N T hk (by k_dflt k_is) (by k_dflt k_is) (room0 hdp) (BindsTo.of_eq (by rfl)) (locs rfl) rfl rfl rfl (by decide) ?_
  clear N F B X T
  intro g L' h₁ tk hg F N B X T
  simp only [List.reverse_cons, List.reverse_nil, List.nil_append, List.cons_append] at F
  k_fold
  k_steps
  refine Stop.go ?_
  (rename Fr _ _ _ _ => eF); (rename News _ _ _ _ => eN)
  have hI : IntsAre (vs ++ [Value.int x t1]) (ns ++ [x]) := hi.append (.cons x t1 .nil)
  have hx : ((↑(ns.length + 1) : Int) - 1).toNat = ns.length := by omega
  refine siftdown_int ⟨B, eF, X, T, rfl, room1 hdp (by decide), room3 hun (by decide)⟩ eN hI (by omega) (by simp only [List.length_append, List.length_cons, List.length_nil]; omega) (by simp only [List.length_append, List.length_cons, List.length_nil]; omega) ?_
  intro vs2 h2 tk2 hI2 hK2 hG2
  have eF2 := hK2.fr1 eF eN
  have eN2 := hK2.news1 eN (fun _ h => nomatch h) hG2
  clear eF eN
  dsimp only
  k_steps
  refine ret vs2 _ _ _ ?_ (fun b o e n => eF2.keep b o (hg b o e (by simpa using n))) hG2
  rw [hx] at hI2
  have e3 : (ns ++ [x]).getD ns.length 0 = x := by simp
  rw [e3] at hI2
  exact hI2

theorem heappop_int {l : Addr} {vs : List Value} {ns : List Int} {n : Nat} (C : Cx w p loose mean mg mb dp un cs outer A₀ base h₀ L m s.heap 6) (N : News h₀ L s.heap [(l, listOf vs.toArray n)])
    (hi : IntsAre vs ns) (hpos : 0 < ns.length) (hlen : ns.length < 90)
    (ret : ∀ vs' n' h' tk' t', IntsAre vs' (if ns.length = 1 then [] else suF (ns.dropLast.set 0 (ns.getLastD 0))) → Kept s.heap h' [l] → h'.get? l = some (listOf vs'.toArray n') → Q (.int (ns.getD 0 0) t') {s with heap := h', toks := tk'}) :
    wpAny (model Challenge.rw_nb0005_01.row.prog w) (ktrTop dp un gd cn cs L a ccd cl outer) (call (.ref 28) [.ref l]) Q E s := by
  obtain ⟨B, F, X, T, hk, hdp, hun⟩ := C
  have hvl := hi.length
  refine enter (binds := [(Str.ofString "heap", .ref l)]) B F X N T hk (by k_dflt k_is) (by k_dflt k_is) (room0 hdp) (BindsTo.of_eq (by rfl)) (locs rfl) rfl rfl rfl (by decide) ?_
  clear N F B X T
  intro g L' h₁ tk hg F N B X T
  simp only [List.reverse_cons, List.reverse_nil, List.nil_append, List.cons_append] at F
  k_fold
  k_steps
  (rename IntsAre vs.dropLast _ => eI); (rename News _ _ _ _ => eN)
  have hdl : ns.dropLast.length = ns.length - 1 := List.length_dropLast
  have hvdl := eI.length
  refine truthy_ints_fit (PySem.IsL.isList (eN.get (.head _))) eI (by omega) ?_
  clear hi
  dsimp only
  k_steps
  · refine Stop.go ?_
    (rename Fr _ _ _ _ => eF); (rename News _ _ _ _ => eN); (rename IntsAre (List.set _ _ _) _ => eI2)
    refine siftup_int ⟨B, eF, X, T, rfl, room1 hdp (by decide), room3 hun (by decide)⟩ eN eI2 (by simp only [List.length_set]; omega) (by simp only [List.length_set]; omega) ?_
    intro vs2 h2 tk2 hI2 hK2 hG2
    have eF2 := hK2.fr1 eF eN
    have eN2 := hK2.news1 eN (fun _ h => nomatch h) hG2
    clear eF eN
    dsimp only
    k_steps
    have e1 : ¬ ns.length = 1 := by omega
    have e2 : ns.dropLast.getD (Int.toNat 0) 0 = ns.getD 0 0 := by
      match ns, e1, hpos with
      | x :: y :: r, _, _ => rfl
      | [x], h, _ => exact absurd rfl h
    rw [e2]
    refine ret vs2 _ _ _ _ ?_ (fun b o e n => eF2.keep b o (hg b o e (by simpa using n))) hG2
    rw [if_neg e1]
    exact hI2
  · (rename Fr _ _ _ _ => eF); (rename News _ _ _ _ => eN)
    have e1 : ns.length = 1 := by omega
    have e2 : ns.getLastD 0 = ns.getD 0 0 := by
      match ns, e1 with
      | [x], _ => rfl
    have e3 : ns.dropLast = [] := by
      match ns, e1 with
      | [x], _ => rfl
    rw [e2]
    refine ret vs.dropLast _ _ _ _ ?_ (fun b o e n => eF.keep b o (hg b o e (by simpa using n))) (eN.get (.head _))
    rw [if_pos e1, ← e3]
    exact eI
end Mine
end
end
-- NbCmp
section
open PySem PySem.W PySem.Calls PyProof.Rows
namespace Mine
set_option maxRecDepth 100000
set_option maxHeartbeats 8000000
open PySem.AutoSeq1 (wpAny_loadPart')
open PySem.MeetsSeq PySem.MeetsSeq2 PySem.MeetsSeq3

noncomputable def lexLt : List Int → List Int → Bool
  | [], [] => false
  | [], _ :: _ => true
  | _ :: _, [] => false
  | a :: r, b :: t => if a = b then lexLt r t else decide (a < b)

theorem rc_lt_int {prog : Program} {w : World} {A : Around} {E : Value → Shared → Prop} {s : Shared} {a b : Int} {t u : Tok} {Q : Value → Shared → Prop} (h : Q (.bool (decide (a < b))) s) : wpAny (model prog w) A (richCompare .Lt (.int a t) (.int b u)) Q E s :=
  PyProof.Rows.lt_int (t := t) (u := u) h

theorem tup_ltM (l b : Addr) (x y i j : Int) (t1 t2 t3 t4 : Tok) (n n2 : Nat) (hxy : x ≠ y) :
    Meets (Builtin.«tuple.__lt__» ⟨[.ref l, .ref b], []⟩)
      (fun _ R s => s.heap.get? l = some { cls := .type "tuple", data := .seq [Value.int x t1, .int i t2].toArray n } ∧ s.heap.get? b = some { cls := .type "tuple", data := .seq [Value.int y t3, .int j t4].toArray n2 } ∧
        R (.ok (.ret (.bool (decide (x < y))))) s) :=
  .of_wp fun prog w A R s h => by
    obtain ⟨hp, g, d, tk, os⟩ := s; obtain ⟨hl, hb, h⟩ := h
    have f2 := AutoSeq1.sub_tuple_tuple
    have hb0 : (x == y) = false := by simpa using hxy
    wp_walk using wpAny_loadPart' hl, wpAny_loadPart' hb, wpAny_eqBool_int, rc_lt_int
    exact ⟨_, rfl, h⟩

/-- (x, i) < (y, j) where x and y differ -/
theorem tup_lt {prog : Program} {w : World} {A : Around} {E : Value → Shared → Prop} {s : Shared} {l b : Addr} {x y i j : Int} {t1 t2 t3 t4 : Tok} {n n2 : Nat} {Q : Value → Shared → Prop}
    (hl : s.heap.get? l = some { cls := .type "tuple", data := .seq [Value.int x t1, .int i t2].toArray n }) (hb : s.heap.get? b = some { cls := .type "tuple", data := .seq [Value.int y t3, .int j t4].toArray n2 }) (hxy : x ≠ y) (hu : A.units < cLine)
    (h : Q (.bool (decide (x < y))) s) : wpAny (model prog w) A (compareOp .Lt (.ref l) (.ref b)) Q E s :=
  cmp_ofLt (richCompare_meets_room (op := .Lt) ⟨_, hl, rfl⟩ ⟨_, hb, rfl⟩ F.slot_tuple_lt F.entry_tuple_lt (F.args_tuple_lt_2 _ _) (tup_ltM l b x y i j t1 t2 t3 t4 n n2 hxy)
    ⟨hl, hb, show Value.bool (decide (x < y)) ≠ Value.notImplemented ∧ Q (.bool (decide (x < y))) s from ⟨(fun x => nomatch x), h⟩⟩ hu)

theorem ints_at {vs : List Value} {ns : List Int} (h : IntsAre vs ns) (i : Nat) (hi : i < ns.length) : ∃ t, vs[i]? = some (.int ns[i] t) := h.get i ns[i] (by simp [hi])

theorem lt_loopM (l b : Addr) (vs ws : List Value) (ns ms : List Int) (hv : IntsAre vs ns) (hw : IntsAre ws ms) (n n2 : Nat) (k : Nat) :
    ∀ i : Nat, ns.length - i = k → Meets (Builtin.«list.__eq__.loop» ⟨[.ref l, .ref b, rawInt i, rawInt 0], []⟩)
      (fun _ R s => s.heap.get? l = some { cls := .type "list", data := .seq vs.toArray n } ∧ s.heap.get? b = some { cls := .type "list", data := .seq ws.toArray n2 } ∧ ns.length = ms.length ∧
        R (.ok (.ret (.bool (lexLt (ns.drop i) (ms.drop i))))) s) := by
  have lv := hv.length
  have lw := hw.length
  induction k with
  | zero =>
    intro i hk prog w A R s h
    obtain ⟨hp, g, d, tk, os⟩ := s; obtain ⟨hl, hb, he, h⟩ := h
    wp_walk using wpAny_loadPart' hl, wpAny_loadPart' hb
    have hi1 : vs.toArray[((i : Nat) : Int).toNat]? = none := by simp; omega
    have hi2 : ws.toArray[((i : Nat) : Int).toNat]? = none := by simp; omega
    have hd : ns.drop i = [] := by simp; omega
    have hd2 : ms.drop i = [] := by simp; omega
    rw [hd, hd2] at h
    rw [hi1, hi2]
    wp_walk using wpAny_loadPart' hl, wpAny_loadPart' hb
    show R (.ok (.ret (.bool (decide (vs.toArray.size < ws.toArray.size))))) _
    have e : decide (vs.toArray.size < ws.toArray.size) = false := by simp; omega
    rw [e]
    exact h
  | succ k ih =>
    intro i hk prog w A R s h
    obtain ⟨hp, g, d, tk, os⟩ := s; obtain ⟨hl, hb, he, h⟩ := h
    have hlt : i < ns.length := by omega
    have hlt2 : i < ms.length := by omega
    obtain ⟨t, ht⟩ := ints_at hv i hlt
    obtain ⟨u, hu⟩ := ints_at hw i hlt2
    wp_walk using wpAny_loadPart' hl, wpAny_loadPart' hb
    have hi1 : vs.toArray[((i : Nat) : Int).toNat]? = some (.int ns[i] t) := by simpa using ht
    have hi2 : ws.toArray[((i : Nat) : Int).toNat]? = some (.int ms[i] u) := by simpa using hu
    have hc : ((i : Int) + 1) = ((i + 1 : Nat) : Int) := by push_cast; rfl
    rw [List.drop_eq_getElem_cons hlt, List.drop_eq_getElem_cons hlt2] at h
    rw [hi1, hi2]
    refine wpAny_bind (wpAny_eqBool_int ?_)
    by_cases hb' : ns[i] = ms[i]
    · have e1 : (ns[i] == ms[i]) = true := by simpa using hb'
      rw [e1]
      rw [lexLt, if_pos hb'] at h
      wp_walk
      rw [hc]
      exact ⟨plainId_quiet plain_eq_loop _, codeAny_builtin entry_eq_loop (by
        rw [Around.under_plainId plain_eq_loop _]
        exact ih (i + 1) (by omega) prog w A R _ ⟨hl, hb, he, h⟩)⟩
    · have e1 : (ns[i] == ms[i]) = false := by simpa using hb'
      rw [e1]
      rw [lexLt, if_neg hb'] at h
      wp_walk using wpAny_loadPart' hl, wpAny_loadPart' hb
      rw [hi1, hi2]
      wp_walk using rc_lt_int
      exact h

theorem list_ltM (l b : Addr) (vs ws : List Value) (ns ms : List Int) (hv : IntsAre vs ns) (hw : IntsAre ws ms) (n n2 : Nat) :
    Meets (Builtin.«list.__lt__» ⟨[.ref l, .ref b], []⟩)
      (fun _ R s => s.heap.get? l = some { cls := .type "list", data := .seq vs.toArray n } ∧ s.heap.get? b = some { cls := .type "list", data := .seq ws.toArray n2 } ∧ ns.length = ms.length ∧
        R (.ok (.ret (.bool (lexLt ns ms)))) s) := by
  intro prog w A R s h
  obtain ⟨hp, g, d, tk, os⟩ := s; obtain ⟨hl, hb, he, h⟩ := h
  have f3 := AutoSeq1.sub_list_list
  wp_walk using wpAny_loadPart' hl, wpAny_loadPart' hb
  exact ⟨plainId_quiet plain_eq_loop _, codeAny_builtin entry_eq_loop (by
    rw [Around.under_plainId plain_eq_loop _]
    exact lt_loopM l b vs ws ns ms hv hw n n2 _ 0 rfl prog w A R _ ⟨hl, hb, he, by simpa using h⟩)⟩

/-- two lists of ints of one length, by < -/
theorem list_lt {prog : Program} {w : World} {A : Around} {E : Value → Shared → Prop} {s : Shared} {l b : Addr} {vs ws : List Value} {ns ms : List Int} {n n2 : Nat} {Q : Value → Shared → Prop}
    (hl : s.heap.get? l = some (listOf vs.toArray n)) (hb : s.heap.get? b = some (listOf ws.toArray n2)) (hv : IntsAre vs ns) (hw : IntsAre ws ms) (he : ns.length = ms.length) (hu : A.units < cLine)
    (h : Q (.bool (lexLt ns ms)) s) : wpAny (model prog w) A (compareOp .Lt (.ref l) (.ref b)) Q E s :=
  cmp_ofLt (richCompare_meets_room (op := .Lt) ⟨_, hl, rfl⟩ ⟨_, hb, rfl⟩ F.slot_list_lt F.entry_list_lt (F.args_list_lt_2 _ _) (list_ltM l b vs ws ns ms hv hw n n2)
    ⟨hl, hb, he, show Value.bool (lexLt ns ms) ≠ Value.notImplemented ∧ Q (.bool (lexLt ns ms)) s from ⟨(fun x => nomatch x), h⟩⟩ hu)
end Mine
end
-- NbRev
section
open PySem PySem.W PySem.Calls PyProof.Rows
namespace Mine
set_option maxRecDepth 100000
set_option maxHeartbeats 8000000
open PySem.AutoSeq1 (wpAny_loadPart')
section
variable {prog : Program} {w : World} {A : Around} {E : Value → Shared → Prop} {s : Shared}
/-- the iterator that reversed(range(0, 1)) is -/
noncomputable abbrev revOne : Obj := { cls := .type "range_iterator", data := .fields #[rawInt 0, rawInt 1, rawInt (-1)] }

theorem range_revM (r : Addr) (t u v : Tok) :
    Meets (Builtin.«range.__reversed__» ⟨[.ref r], []⟩)
      (fun _ R s => s.heap.get? r = some { cls := .type "range", dict := none, data := .fields #[.int 0 t, .int 1 u, .int 1 v], slots := #[] } ∧
        R (.ok (.ret (.ref s.heap.objs.size))) { s with heap := s.heap.push revOne }) :=
  .of_wp fun prog w A R s h => by
    obtain ⟨hp, g, d, tk, os⟩ := s; obtain ⟨hl, h⟩ := h
    wp_walk using wpAny_loadPart' hl, wpAny_load' hl
    exact ⟨_, rfl, h⟩

theorem call_range_reversed {r : Addr} {t u v : Tok} {Q : Value → Shared → Prop} (hr : IsRange s.heap r 0 1 1 t u v)
    (h : Q (.ref s.heap.objs.size) { s with heap := s.heap.push revOne }) : wpAny (model prog w) A (call (.builtin "range.__reversed__") [.ref r]) Q E s :=
  call_meets F.slot_range_reversed ⟨_, hr, rfl⟩ F.entry_range_reversed (F.args_range_reversed_1 _) (range_revM r t u v) ⟨hr, h⟩

theorem code_revRange {r : Addr} {t u v : Tok} {Q₁ : Value → Shared → Prop} (hr : IsRange s.heap r 0 1 1 t u v)
    (h : Q₁ (.ref s.heap.objs.size) { s with heap := s.heap.push revOne }) :
    codeAny (model prog w) A (.call (.builtin "reversed.__new__") ⟨[.type "reversed", .ref r], []⟩) (wants Q₁ E) s := by
  have hT : s.TypeIs (.ref r) "range" := ⟨_, hr, rfl⟩
  refine codeAny_of_tree ?_
  show wpAny _ A.in1 (do checkBuiltinCall "reversed.__new__" ⟨[.type "reversed", .ref r], []⟩; again (.builtin "reversed.__new__" ⟨[.type "reversed", .ref r], []⟩)) _ _ s
  refine wpAny_bind (wpAny_of_eq (F.newCall_reversed_1 _) (wpAny_pure ⟨plainId_quiet F.plain_reversed_new _, codeAny_builtin F.entry_reversed_new ?_⟩))
  rw [Around.under_plainId F.plain_reversed_new _]
  unfold Builtin.«reversed.__new__»
  refine wpAny_bind (wpAny_of_eq (newClass_reversed _) ?_)
  try dsimp only
  refine wpAny_bind (wpAny_of_eq (a := ()) (by first | rfl | kernel_rfl) ?_)
  refine wpAny_bind (wpAny_of_eq (a := ()) (by first | rfl | kernel_rfl) ?_)
  try dsimp only
  refine wpAny_bind (wpAny_specialOf hT F.slot_range_reversed.lookup ?_)
  try dsimp only
  refine wpAny_bind (wpAny_of_eq (F.slot_range_reversed.bind _) ?_)
  try dsimp only
  rw [if_neg (show ¬ ((Value.builtin "range.__reversed__" == Value.none) = true) from Bool.false_ne_true)]
  refine wpAny_bind (wpAny_rule ?_)
  refine wpAny_bind (m := runValue (.call (.builtin "range.__reversed__") ⟨[.ref r], []⟩)) (show wpAny _ _ (call (.builtin "range.__reversed__") [.ref r]) _ _ _ from call_range_reversed hr ?_)
  exact wpAny_pure h

theorem sub_ri_reversed : isSubtype (.type "range_iterator") (.type "reversed") = pure false := by rw [isSubtype_type]; kernel_rfl
/-- reversed(range(0, 1)) -/
theorem revRange {r : Addr} {t u v : Tok} {Q : Value → Shared → Prop} (hr : IsRange s.heap r 0 1 1 t u v)
    (h : Q (.ref s.heap.objs.size) { s with heap := s.heap.push revOne }) : wpAny (model prog w) A (call (.type "reversed") [.ref r]) Q E s := by
  refine callType_other (U := "range_iterator") (Q₁ := fun obj s₁ => obj = .ref s.heap.objs.size ∧ s₁ = { s with heap := s.heap.push revOne }) (by decide +kernel) F.create_reversed ⟨_, _, F.mro_reversed⟩ F.made_reversed sub_ri_reversed (F.typeCall_reversed_1 _) (code_revRange hr ⟨rfl, rfl⟩) ?_
  rintro obj s₁ ⟨rfl, rfl⟩
  exact ⟨⟨_, Heap.get?_push_size _ rfl, rfl⟩, h⟩

end
end Mine
end
-- NbFor
section
open PySem PySem.W PySem.Calls PyProof.Rows
namespace Mine
set_option maxRecDepth 100000
set_option maxHeartbeats 8000000
section
variable {prog : Program} {w : World} {A : Around} {E : Value → Shared → Prop} {s : Shared} {h₀ : Heap} {env : Env} {x : Str} {body : List Stmt} {Q : Flow → Shared → Prop}

/-- what a turn of a for leaves: the state c', the iterator (I, o) as it was at the turn's start -/
noncomputable def ForEnd {σ : Type} (h₀ : Heap) (L : Addr) (x : Str) (s : Shared) (I : Addr) (o : Obj) (Led : σ → List (Addr × Obj)) (ps : σ → List (Str × Value)) (stored : List Str) (m₀ : Str → Option Value) (P : σ → Prop) (s₂ : Shared) : Prop :=
  ∃ (c' : σ) (h' : Heap) (tk : Nat) (m' : Str → Option Value), s₂ = { s with heap := h', toks := tk } ∧ Fr h₀ L h' m' ∧ News h₀ L h' ((I, o) :: Led c') ∧ (∀ p ∈ ps c', m' p.1 = some p.2) ∧ (∀ z, z ≠ x → (∀ p ∈ ps c', z ≠ p.1) → stored.contains z = false → m' z = m₀ z) ∧ P c'
noncomputable def ForPost {σ : Type} (h₀ : Heap) (L : Addr) (x : Str) (s : Shared) (I : Addr) (o : Obj) (Led : σ → List (Addr × Obj)) (ps : σ → List (Str × Value)) (stored : List Str) (m₀ : Str → Option Value) (P : σ → Prop) (Q : Flow → Shared → Prop) (f : Flow) (s₂ : Shared) : Prop :=
  match f with
  | .ret v => Q (.ret v) s₂
  | .brk => Q .next s₂
  | _ => ForEnd h₀ L x s I o Led ps stored m₀ P s₂
theorem for_end {σ : Type} {L : Addr} {I : Addr} {o : Obj} {Led : σ → List (Addr × Obj)} {ps : σ → List (Str × Value)} {stored : List Str} {m₀ m' : Str → Option Value} {P : σ → Prop} {h' : Heap} {tk : Nat} (c' : σ) {news' : List (Addr × Obj)}
    (F : Fr h₀ L h' m') (N : News h₀ L h' news') (hn : ∀ p ∈ (I, o) :: Led c', p ∈ news') (hk : ∀ p ∈ ps c', m' p.1 = some p.2) (hr : ∀ z, z ≠ x → (∀ p ∈ ps c', z ≠ p.1) → stored.contains z = false → m' z = m₀ z) (hp : P c') :
    ForEnd h₀ L x s I o Led ps stored m₀ P { s with heap := h', toks := tk } := ⟨c', h', tk, m', rfl, F, fun p hp => N p (hn p hp), hk, hr, hp⟩

theorem for_gen {σ : Type} {I : Addr} {fp : List Addr} {n : Nat} {Pv : Nat → Value → Prop} {St : Nat → Heap → Prop} {m₀ : Str → Option Value} (W : Walks prog w A I fp [I] n Pv St)
    (Led : σ → List (Addr × Obj)) (ps : σ → List (Str × Value)) (stored : List Str) (P : Nat → σ → Prop) (c₀ : σ)
    (hIfp : I ∈ fp) (hIL : env.locals ∉ fp) (hI0 : h₀.get? I = none)
    (hfp : ∀ b ∈ fp, b = I ∨ (∃ o, h₀.get? b = some o) ∨ ∃ o, ∀ i c, P i c → (b, o) ∈ Led c)
    (hnI : ∀ i c, P i c → ∀ p ∈ Led c, p.1 ≠ I) (hst : St 0 s.heap) (hsI : ∀ i h, St i h → ∃ o, h.get? I = some o)
    (F : Fr h₀ env.locals s.heap m₀) (N : News h₀ env.locals s.heap (Led c₀)) (hk : ∀ p ∈ ps c₀, m₀ p.1 = some p.2) (hp : P 0 c₀)
    (turn : ∀ i v (c : σ) (u : Str → Option Value) h tk o, i < n → Pv i v → P i c → St (i + 1) h → Fr h₀ env.locals h (fun y => if y = x then some v else kstB (fun z => if stored.contains z then u z else m₀ z) (ps c) y) → News h₀ env.locals h ((I, o) :: Led c) →
      wpAny (model prog w) A (execs body env) (ForPost h₀ env.locals x s I o Led ps stored m₀ (P (i + 1)) Q) E { s with heap := h, toks := tk })
    (done : ∀ (c : σ) (u : Str → Option Value) h tk, P n c → Fr h₀ env.locals h (fun y => if y = x then u y else kstB (fun z => if stored.contains z then u z else m₀ z) (ps c) y) → News h₀ env.locals h (Led c) → Q .next { s with heap := h, toks := tk }) :
    LoopAtV prog w A h₀ env x body Q E (.ref I) s := by
  let J : Nat → (Str → Option Value) → List (Addr × Obj) → Prop := fun i m nx => ∃ c : σ, nx = Led c ∧ (∀ p ∈ ps c, m p.1 = some p.2) ∧ (∀ z, z ≠ x → (∀ p ∈ ps c, z ≠ p.1) → stored.contains z = false → m z = m₀ z) ∧ P i c
  refine ⟨I, fp, [I], n, Pv, St, m₀, Led c₀, J, rfl, W, hIL, ?_, ?_, hst, F, N, ⟨c₀, rfl, hk, fun _ _ _ _ => rfl, hp⟩, ?_, ?_⟩
  · intro b hb; rw [List.mem_singleton.mp hb]; exact hI0
  · intro p hq hI; exact hnI 0 c₀ hp p hq (List.mem_singleton.mp hI)
  · rintro i v m₁ nx s₁ own ⟨hh', tk', rfl⟩ hin hP ⟨c, rfl, h1, h2, hp'⟩ hoff hown hgets hall hst' F₁ N₁
    obtain ⟨o, ho⟩ := hsI _ _ hst'
    have hm : (I, o) ∈ own := hall I hIfp hI0 o ho
    have N₂ : News h₀ env.locals hh' ((I, o) :: Led c) := fun p hp => by
      rcases List.mem_cons.mp hp with rfl | hp
      · exact N₁ _ (List.mem_append_left _ hm)
      · exact N₁ p (List.mem_append_right _ hp)
    refine wpAny_mono (turn i v c m₁ hh' tk' o hin hP hp' hst' (kst_fr h1 h2 F₁) N₂) (fun f s₂ q => ?_) fun _ _ e => e
    have fin : ForEnd h₀ env.locals x s I o Led ps stored m₀ (P (i + 1)) s₂ → LoopStepU h₀ env.locals [I] own (J (i + 1)) { s with heap := hh', toks := tk' } .next s₂ := by
      rintro ⟨c', h', tk, m', rfl, F', N', hk', hr', hp9⟩
      refine ⟨rfl, h', tk, m', Led c', rfl, F', fun p hp => ?_, fun p hp hI => hnI _ c' hp9 p hp (List.mem_singleton.mp hI), c', rfl, hk', hr', hp9⟩
      rcases List.mem_append.mp hp with hpo | hpl
      · have hget := hgets p hpo
        rcases hfp p.1 (hown p hpo) with e | ⟨o2, e⟩ | ⟨o2, e⟩
        · have : p = (I, o) := by
            have e2 : p.2 = o := by
              have := hget
              rw [e] at this
              exact Option.some.inj (this.symm.trans ho)
            exact Prod.ext e e2
          rw [this]; exact N' _ (.head _)
        · have := (N₁ p (List.mem_append_left _ hpo)).2.2
          rw [e] at this; cases this
        · have hc2 := (N₁ _ (List.mem_append_right _ (e i c hp'))).1
          have e2 : p.2 = o2 := Option.some.inj (hget.symm.trans hc2)
          have e3 : p = (p.1, o2) := Prod.ext rfl e2
          rw [e3]
          exact N' _ (.tail _ (e _ c' hp9))
      · exact N' p (.tail _ hpl)
    cases f with
    | ret v => exact .ret q
    | brk => exact .brk q
    | next => exact .next (fin q)
    | cont => exact .cont (fin q)
  · rintro h' tk m' nx F' N' _ ⟨c, rfl, h1, h2, hp'⟩
    exact done c m' h' tk hp' (kst_frOut h1 h2 F') N'

theorem walks_shift {I : Addr} {fp wr : List Addr} {n : Nat} {Pv : Nat → Value → Prop} {St : Nat → Heap → Prop} (W : Walks prog w A I fp wr n Pv St) (k : Nat) (hk : k ≤ n) : Walks prog w A I fp wr (n - k) (fun i v => Pv (i + k) v) (fun i h => St (i + k) h) where
  sub := W.sub
  frame := fun i h h' st hk => W.frame (i + k) h h' st hk
  item := fun i s Q E hi st hQ => W.item (i + k) s Q E (by omega) st fun v h' tk hp st' hkk => hQ v h' tk hp (by rw [show i + 1 + k = i + k + 1 by omega]; exact st') hkk
  done := fun s Q E st hQ => W.done s Q E (by rw [show n - k + k = n by omega] at st; exact st) hQ
  self := fun i s Q E st hq => W.self (i + k) s Q E st hq
end
end Mine
end
-- NbTup
section
open PySem PySem.W PySem.Calls PyProof.Rows
namespace Mine
theorem reset_NbTup : True := by
  w_top off
  trivial
set_option maxRecDepth 100000
set_option maxHeartbeats 8000000
local macro_rules | `(tactic| walk_at "call ref") => `(tactic| refine stop ?_)
local macro_rules | `(tactic| walk_at "binaryOp RShift int int") => `(tactic| refine wpAny_rshift1_int (by omega) ?_)
local macro_rules | `(tactic| walk_at "compareOp Lt ref ref") => `(tactic| refine tup_lt (Fr.keep (by assumption) _ _ (by assumption)) (Fr.keep (by assumption) _ _ (by assumption)) (by assumption) (by dsimp only [ktrTop]; first | exact room64 (by assumption) (by decide) | omega) ?_)
variable {w : World} {p : Program} {loose : List Str} {mean : ExcName → Option Value} {mg mb : Str → Option Value} {dp un : Nat} {gd : Option (List Code)} {cn : Str} {cs : Scope} {a : Addr} {ccd : Value} {cl : List (Str × Addr)} {outer : List Env} {A₀ : Around} {base h₀ : Heap} {L : Addr} {m : Str → Option Value} {s : Shared} {Q E : Value → Shared → Prop}

noncomputable abbrev tupOf (x i : Int) (tx ti : Tok) (n : Nat) : Obj := { cls := .type "tuple", data := .seq [Value.int x tx, .int i ti].toArray n }
theorem tup_not_list {vs : Array Value} {n k : Nat} {x i : Int} {tx ti : Tok} (h : some (listOf vs n) = some (tupOf x i tx ti k)) : False := by
  have := congrArg Obj.cls (Option.some.inj h)
  simp at this

theorem siftdown_tup {l u v : Addr} {x y i j : Int} {t1 t2 tx ty ti tj : Tok} {n nu nv : Nat} (C : Cx w p loose mean mg mb dp un cs outer A₀ base h₀ L m s.heap 2) (N : News h₀ L s.heap [(l, listOf [Value.ref v, Value.ref u].toArray n)])
    (hu : s.heap.get? u = some (tupOf x i tx ti nu)) (hv : s.heap.get? v = some (tupOf y j ty tj nv)) (hxy : x ≠ y)
    (ret : ∀ h' tk', Kept s.heap h' [l] → h'.get? l = some (listOf (if x < y then [Value.ref u, Value.ref v] else [Value.ref v, Value.ref u]).toArray n) → Q .none {s with heap := h', toks := tk'}) :
    wpAny (model Challenge.rw_nb0005_01.row.prog w) (ktrTop dp un gd cn cs L a ccd cl outer) (call (.ref 63) [.ref l, .int 0 t1, .int 1 t2]) Q E s := by
  obtain ⟨B, F, X, T, hk, hdp, hun⟩ := C
  refine enter (binds := [(Str.ofString "heap", .ref l), (Str.ofString "startpos", .int 0 t1), (Str.ofString "pos", .int 1 t2)]) B F X N T hk (by k_dflt k_is) (by k_dflt k_is) (room0 hdp) (BindsTo.of_eq (by rfl)) (locs rfl) rfl rfl rfl (by decide) ?_
  have hul : u ≠ l := fun e => by rw [e, (N.get (.head _))] at hu; exact tup_not_list hu
  have hvl : v ≠ l := fun e => by rw [e, (N.get (.head _))] at hv; exact tup_not_list hv
  clear N F B X T
  intro g L' h₁ tk hg F N B X T
  simp only [List.reverse_cons, List.reverse_nil, List.nil_append, List.cons_append] at F
  k_fold
  have hgu := hg u _ hu (by simpa using hul)
  have hgv := hg v _ hv (by simpa using hvl)
  have hyx := hxy.symm
  k_steps
  · (rename Fr _ _ _ _ => eF); (rename News _ _ _ _ => eN)
    refine ret _ _ (fun b o e n => eF.keep b o (hg b o e (by simpa using n))) ?_
    rw [if_pos (by assumption)]; exact eN.get (.head _)
  · (rename Fr _ _ _ _ => eF); (rename News _ _ _ _ => eN)
    refine ret _ _ (fun b o e n => eF.keep b o (hg b o e (by simpa using n))) ?_
    rw [if_neg (by assumption)]; exact eN.get (.head _)

theorem siftup_tup {l u v : Addr} {x y i j : Int} {t1 tx ty ti tj : Tok} {n nu nv : Nat} (C : Cx w p loose mean mg mb dp un cs outer A₀ base h₀ L m s.heap 4) (N : News h₀ L s.heap [(l, listOf [Value.ref u, Value.ref v].toArray n)])
    (hu : s.heap.get? u = some (tupOf x i tx ti nu)) (hv : s.heap.get? v = some (tupOf y j ty tj nv)) (hxy : x ≠ y)
    (ret : ∀ h' tk', Kept s.heap h' [l] → h'.get? l = some (listOf (if x < y then [Value.ref u, Value.ref v] else [Value.ref v, Value.ref u]).toArray n) → Q .none {s with heap := h', toks := tk'}) :
    wpAny (model Challenge.rw_nb0005_01.row.prog w) (ktrTop dp un gd cn cs L a ccd cl outer) (call (.ref 70) [.ref l, .int 0 t1]) Q E s := by
  obtain ⟨B, F, X, T, hk, hdp, hun⟩ := C
  refine enter (binds := [(Str.ofString "heap", .ref l), (Str.ofString "pos", .int 0 t1)]) B F X N T hk (by k_dflt k_is) (by k_dflt k_is) (room0 hdp) (BindsTo.of_eq (by rfl)) (locs rfl) rfl rfl rfl (by decide) ?_
  have hul : u ≠ l := fun e => by rw [e, (N.get (.head _))] at hu; exact tup_not_list hu
  have hvl : v ≠ l := fun e => by rw [e, (N.get (.head _))] at hv; exact tup_not_list hv
  clear N F B X T
  intro g L' h₁ tk hg F N B X T
  simp only [List.reverse_cons, List.reverse_nil, List.nil_append, List.cons_append] at F
  k_fold
  have hgu := hg u _ hu (by simpa using hul)
  have hgv := hg v _ hv (by simpa using hvl)
  k_steps
  refine Stop.go ?_
  (rename Fr _ _ _ _ => eF); (rename News _ _ _ _ => eN)
  refine siftdown_tup ⟨B, eF, X, T, rfl, room1 hdp (by decide), room3 hun (by decide)⟩ eN (eF.keep _ _ hgu) (eF.keep _ _ hgv) hxy ?_
  intro h2 tk2 hK2 hG2
  have eF2 := hK2.fr1 eF eN
  have eN2 := hK2.news1 eN (fun _ h => nomatch h) hG2
  clear eF eN
  dsimp only
  k_steps
  exact ret _ _ (fun b o e n => eF2.keep b o (hg b o e (by simpa using n))) hG2

theorem heapreplace_tup {l u v z : Addr} {x y i j : Int} {tx ty ti tj : Tok} {n nu nv : Nat} (C : Cx w p loose mean mg mb dp un cs outer A₀ base h₀ L m s.heap 6) (N : News h₀ L s.heap [(l, listOf [Value.ref z, Value.ref v].toArray n)])
    (hu : s.heap.get? u = some (tupOf x i tx ti nu)) (hv : s.heap.get? v = some (tupOf y j ty tj nv)) (hxy : x ≠ y)
    (ret : ∀ h' tk', Kept s.heap h' [l] → h'.get? l = some (listOf (if x < y then [Value.ref u, Value.ref v] else [Value.ref v, Value.ref u]).toArray n) → Q (.ref z) {s with heap := h', toks := tk'}) :
    wpAny (model Challenge.rw_nb0005_01.row.prog w) (ktrTop dp un gd cn cs L a ccd cl outer) (call (.ref 35) [.ref l, .ref u]) Q E s := by
  obtain ⟨B, F, X, T, hk, hdp, hun⟩ := C
  refine enter (binds := [(Str.ofString "heap", .ref l), (Str.ofString "item", .ref u)]) B F X N T hk (by k_dflt k_is) (by k_dflt k_is) (room0 hdp) (BindsTo.of_eq (by rfl)) (locs rfl) rfl rfl rfl (by decide) ?_
  have hul : u ≠ l := fun e => by rw [e, (N.get (.head _))] at hu; exact tup_not_list hu
  have hvl : v ≠ l := fun e => by rw [e, (N.get (.head _))] at hv; exact tup_not_list hv
  clear N F B X T
  intro g L' h₁ tk hg F N B X T
  simp only [List.reverse_cons, List.reverse_nil, List.nil_append, List.cons_append] at F
  k_fold
  have hgu := hg u _ hu (by simpa using hul)
  have hgv := hg v _ hv (by simpa using hvl)
  k_steps
  refine Stop.go ?_
  (rename Fr _ _ _ _ => eF); (rename News _ _ _ _ => eN)
  refine siftup_tup ⟨B, eF, X, T, rfl, room1 hdp (by decide), room3 hun (by decide)⟩ eN (eF.keep _ _ hgu) (eF.keep _ _ hgv) hxy ?_
  intro h2 tk2 hK2 hG2
  have eF2 := hK2.fr1 eF eN
  have eN2 := hK2.news1 eN (fun _ h => nomatch h) hG2
  clear eF eN
  dsimp only
  k_steps
  exact ret _ _ (fun b o e n => eF2.keep b o (hg b o e (by simpa using n))) hG2

theorem heapify_tup {l u v : Addr} {x y i j : Int} {tx ty ti tj : Tok} {n nu nv : Nat} (C : Cx w p loose mean mg mb dp un cs outer A₀ base h₀ L m s.heap 6) (N : News h₀ L s.heap [(l, listOf [Value.ref u, Value.ref v].toArray n)])
    (hu : s.heap.get? u = some (tupOf x i tx ti nu)) (hv : s.heap.get? v = some (tupOf y j ty tj nv)) (hxy : x ≠ y)
    (ret : ∀ h' tk', Kept s.heap h' [l] → h'.get? l = some (listOf (if x < y then [Value.ref u, Value.ref v] else [Value.ref v, Value.ref u]).toArray n) → Q .none {s with heap := h', toks := tk'}) :
    wpAny (model Challenge.rw_nb0005_01.row.prog w) (ktrTop dp un gd cn cs L a ccd cl outer) (call (.ref 42) [.ref l]) Q E s := by
  obtain ⟨B, F, X, T, hk, hdp, hun⟩ := C
  refine enter (binds := [(Str.ofString "x", .ref l)]) B F X N T hk (by k_dflt k_is) (by k_dflt k_is) (room0 hdp) (BindsTo.of_eq (by rfl)) (locs rfl) rfl rfl rfl (by decide) ?_
  have hul : u ≠ l := fun e => by rw [e, (N.get (.head _))] at hu; exact tup_not_list hu
  have hvl : v ≠ l := fun e => by rw [e, (N.get (.head _))] at hv; exact tup_not_list hv
  clear N F B X T
  intro g L' h₁ tk hg F N B X T
  simp only [List.reverse_cons, List.reverse_nil, List.nil_append, List.cons_append] at F
  k_fold
  have hgu := hg u _ hu (by simpa using hul)
  have hgv := hg v _ hv (by simpa using hvl)
  k_steps
  (rename IsRange _ _ _ _ _ _ _ _ => hR); (rename Fr _ _ _ _ => eF); (rename News _ _ _ _ => eN)
  refine revRange hR ?_
  dsimp only
  refine wpAny_pyIter_rangeiter (Heap.get?_push_size _ rfl) ?_
  have eF2 := eF.push revOne
  have eN2 := eN.push eF revOne
  refine for_gen (σ := List Value) (Walks.range rfl _ 0 (-1) 1) (fun c => [(l, listOf c.toArray n)]) (fun _ => []) [] (fun k c => c = if k = 0 then [Value.ref u, Value.ref v] else if x < y then [Value.ref u, Value.ref v] else [Value.ref v, Value.ref u]) [Value.ref u, Value.ref v]
    (.head _) (fun q => (eN2 _ (.head _)).2.1 (List.mem_singleton.mp q).symm) (eN2 _ (.head _)).2.2 (fun b hb => .inl (List.mem_singleton.mp hb)) ?_ (Heap.get?_push_size _ rfl) (fun i h st => ⟨_, st⟩) eF2 (fun p hp => eN2 p (.tail _ hp)) (fun _ h => nomatch h) rfl ?_ ?_
  · intro i c _ q hq e
    rw [List.mem_singleton.mp hq] at e
    exact absurd (Heap.lt_size (eN.get (.head _))) (by rw [show l = _ from e]; exact Nat.lt_irrefl _)
  · rintro k vv c u1 h3 tk3 o3 hk3 ⟨t3, rfl⟩ hc _ F3 N3
    have hk0 : k = 0 := by omega
    subst hk0
    rw [if_pos rfl] at hc
    subst hc
    have hIl : _ ≠ l := fun e => absurd (Heap.lt_size (eN.get (.head _))) (by rw [show l = _ from e.symm]; exact Nat.lt_irrefl _)
    clear eF eN eF2 eN2
    try k_fold
    k_steps
    refine Stop.go ?_
    (rename Fr _ _ _ _ => eF); (rename News _ _ _ _ => eN)
    refine siftup_tup (n := n) ⟨B, eF, X, T, rfl, room1 hdp (by decide), room3 hun (by decide)⟩ (News.one eN (.tail _ (.head _))) (eF.keep _ _ hgu) (eF.keep _ _ hgv) hxy ?_
    intro h2 tk2 hK2 hG2
    have eF2 := hK2.frOf eF eN (.tail _ (.head _))
    have eN2 := hK2.upd eN (.tail hIl (.head fun _ h => nomatch h)) hG2
    clear eF eN
    dsimp only
    k_steps
    dsimp only [ForPost]
    exact for_end _ eF2 eN2 (fun _ h => h) (fun _ h => nomatch h) (by intro z h1 _ _; simp [kstB, h1]) rfl
  · rintro c u1 h3 tk3 hc F3 N3
    rw [if_neg (by decide)] at hc
    subst hc
    dsimp only
    k_steps
    exact ret _ _ (fun b o e n => F3.keep b o (hg b o e (by simpa using n))) (N3.get (.head _))

theorem siftdown_max_tup {l u v : Addr} {x y i j : Int} {t1 t2 tx ty ti tj : Tok} {n nu nv : Nat} (C : Cx w p loose mean mg mb dp un cs outer A₀ base h₀ L m s.heap 2) (N : News h₀ L s.heap [(l, listOf [Value.ref v, Value.ref u].toArray n)])
    (hu : s.heap.get? u = some (tupOf x i tx ti nu)) (hv : s.heap.get? v = some (tupOf y j ty tj nv)) (hxy : x ≠ y)
    (ret : ∀ h' tk', Kept s.heap h' [l] → h'.get? l = some (listOf (if y < x then [Value.ref u, Value.ref v] else [Value.ref v, Value.ref u]).toArray n) → Q .none {s with heap := h', toks := tk'}) :
    wpAny (model Challenge.rw_nb0005_01.row.prog w) (ktrTop dp un gd cn cs L a ccd cl outer) (call (.ref 77) [.ref l, .int 0 t1, .int 1 t2]) Q E s := by
  obtain ⟨B, F, X, T, hk, hdp, hun⟩ := C
  refine enter (binds := [(Str.ofString "heap", .ref l), (Str.ofString "startpos", .int 0 t1), (Str.ofString "pos", .int 1 t2)]) B F X N T hk (by k_dflt k_is) (by k_dflt k_is) (room0 hdp) (BindsTo.of_eq (by rfl)) (locs rfl) rfl rfl rfl (by decide) ?_
  have hul : u ≠ l := fun e => by rw [e, (N.get (.head _))] at hu; exact tup_not_list hu
  have hvl : v ≠ l := fun e => by rw [e, (N.get (.head _))] at hv; exact tup_not_list hv
  clear N F B X T
  intro g L' h₁ tk hg F N B X T
  simp only [List.reverse_cons, List.reverse_nil, List.nil_append, List.cons_append] at F
  k_fold
  have hgu := hg u _ hu (by simpa using hul)
  have hgv := hg v _ hv (by simpa using hvl)
  have hyx := hxy.symm
  k_steps
  · (rename Fr _ _ _ _ => eF); (rename News _ _ _ _ => eN)
    refine ret _ _ (fun b o e n => eF.keep b o (hg b o e (by simpa using n))) ?_
    rw [if_pos (by assumption)]; exact eN.get (.head _)
  · (rename Fr _ _ _ _ => eF); (rename News _ _ _ _ => eN)
    refine ret _ _ (fun b o e n => eF.keep b o (hg b o e (by simpa using n))) ?_
    rw [if_neg (by assumption)]; exact eN.get (.head _)

theorem siftup_max_tup {l u v : Addr} {x y i j : Int} {t1 tx ty ti tj : Tok} {n nu nv : Nat} (C : Cx w p loose mean mg mb dp un cs outer A₀ base h₀ L m s.heap 4) (N : News h₀ L s.heap [(l, listOf [Value.ref u, Value.ref v].toArray n)])
    (hu : s.heap.get? u = some (tupOf x i tx ti nu)) (hv : s.heap.get? v = some (tupOf y j ty tj nv)) (hxy : x ≠ y)
    (ret : ∀ h' tk', Kept s.heap h' [l] → h'.get? l = some (listOf (if y < x then [Value.ref u, Value.ref v] else [Value.ref v, Value.ref u]).toArray n) → Q .none {s with heap := h', toks := tk'}) :
    wpAny (model Challenge.rw_nb0005_01.row.prog w) (ktrTop dp un gd cn cs L a ccd cl outer) (call (.ref 84) [.ref l, .int 0 t1]) Q E s := by
  obtain ⟨B, F, X, T, hk, hdp, hun⟩ := C
  refine enter (binds := [(Str.ofString "heap", .ref l), (Str.ofString "pos", .int 0 t1)]) B F X N T hk (by k_dflt k_is) (by k_dflt k_is) (room0 hdp) (BindsTo.of_eq (by rfl)) (locs rfl) rfl rfl rfl (by decide) ?_
  have hul : u ≠ l := fun e => by rw [e, (N.get (.head _))] at hu; exact tup_not_list hu
  have hvl : v ≠ l := fun e => by rw [e, (N.get (.head _))] at hv; exact tup_not_list hv
  clear N F B X T
  intro g L' h₁ tk hg F N B X T
  simp only [List.reverse_cons, List.reverse_nil, List.nil_append, List.cons_append] at F
  k_fold
  have hgu := hg u _ hu (by simpa using hul)
  have hgv := hg v _ hv (by simpa using hvl)
  k_steps
  refine Stop.go ?_
  (rename Fr _ _ _ _ => eF); (rename News _ _ _ _ => eN)
  refine siftdown_max_tup ⟨B, eF, X, T, rfl, room1 hdp (by decide), room3 hun (by decide)⟩ eN (eF.keep _ _ hgu) (eF.keep _ _ hgv) hxy ?_
  intro h2 tk2 hK2 hG2
  have eF2 := hK2.fr1 eF eN
  have eN2 := hK2.news1 eN (fun _ h => nomatch h) hG2
  clear eF eN
  dsimp only
  k_steps
  exact ret _ _ (fun b o e n => eF2.keep b o (hg b o e (by simpa using n))) hG2

theorem heapreplace_max_tup {l u v z : Addr} {x y i j : Int} {tx ty ti tj : Tok} {n nu nv : Nat} (C : Cx w p loose mean mg mb dp un cs outer A₀ base h₀ L m s.heap 6) (N : News h₀ L s.heap [(l, listOf [Value.ref z, Value.ref v].toArray n)])
    (hu : s.heap.get? u = some (tupOf x i tx ti nu)) (hv : s.heap.get? v = some (tupOf y j ty tj nv)) (hxy : x ≠ y)
    (ret : ∀ h' tk', Kept s.heap h' [l] → h'.get? l = some (listOf (if y < x then [Value.ref u, Value.ref v] else [Value.ref v, Value.ref u]).toArray n) → Q (.ref z) {s with heap := h', toks := tk'}) :
    wpAny (model Challenge.rw_nb0005_01.row.prog w) (ktrTop dp un gd cn cs L a ccd cl outer) (call (.ref 49) [.ref l, .ref u]) Q E s := by
  obtain ⟨B, F, X, T, hk, hdp, hun⟩ := C
  refine enter (binds := [(Str.ofString "heap", .ref l), (Str.ofString "item", .ref u)]) B F X N T hk (by k_dflt k_is) (by k_dflt k_is) (room0 hdp) (BindsTo.of_eq (by rfl)) (locs rfl) rfl rfl rfl (by decide) ?_
  have hul : u ≠ l := fun e => by rw [e, (N.get (.head _))] at hu; exact tup_not_list hu
  have hvl : v ≠ l := fun e => by rw [e, (N.get (.head _))] at hv; exact tup_not_list hv
  clear N F B X T
  intro g L' h₁ tk hg F N B X T
  simp only [List.reverse_cons, List.reverse_nil, List.nil_append, List.cons_append] at F
  k_fold
  have hgu := hg u _ hu (by simpa using hul)
  have hgv := hg v _ hv (by simpa using hvl)
  k_steps
  refine Stop.go ?_
  (rename Fr _ _ _ _ => eF); (rename News _ _ _ _ => eN)
  refine siftup_max_tup ⟨B, eF, X, T, rfl, room1 hdp (by decide), room3 hun (by decide)⟩ eN (eF.keep _ _ hgu) (eF.keep _ _ hgv) hxy ?_
  intro h2 tk2 hK2 hG2
  have eF2 := hK2.fr1 eF eN
  have eN2 := hK2.news1 eN (fun _ h => nomatch h) hG2
  clear eF eN
  dsimp only
  k_steps
  exact ret _ _ (fun b o e n => eF2.keep b o (hg b o e (by simpa using n))) hG2

theorem heapify_max_tup {l u v : Addr} {x y i j : Int} {tx ty ti tj : Tok} {n nu nv : Nat} (C : Cx w p loose mean mg mb dp un cs outer A₀ base h₀ L m s.heap 6) (N : News h₀ L s.heap [(l, listOf [Value.ref u, Value.ref v].toArray n)])
    (hu : s.heap.get? u = some (tupOf x i tx ti nu)) (hv : s.heap.get? v = some (tupOf y j ty tj nv)) (hxy : x ≠ y)
    (ret : ∀ h' tk', Kept s.heap h' [l] → h'.get? l = some (listOf (if y < x then [Value.ref u, Value.ref v] else [Value.ref v, Value.ref u]).toArray n) → Q .none {s with heap := h', toks := tk'}) :
    wpAny (model Challenge.rw_nb0005_01.row.prog w) (ktrTop dp un gd cn cs L a ccd cl outer) (call (.ref 56) [.ref l]) Q E s := by
  obtain ⟨B, F, X, T, hk, hdp, hun⟩ := C
  refine enter (binds := [(Str.ofString "x", .ref l)]) B F X N T hk (by k_dflt k_is) (by k_dflt k_is) (room0 hdp) (BindsTo.of_eq (by rfl)) (locs rfl) rfl rfl rfl (by decide) ?_
  have hul : u ≠ l := fun e => by rw [e, (N.get (.head _))] at hu; exact tup_not_list hu
  have hvl : v ≠ l := fun e => by rw [e, (N.get (.head _))] at hv; exact tup_not_list hv
  clear N F B X T
  intro g L' h₁ tk hg F N B X T
  simp only [List.reverse_cons, List.reverse_nil, List.nil_append, List.cons_append] at F
  k_fold
  have hgu := hg u _ hu (by simpa using hul)
  have hgv := hg v _ hv (by simpa using hvl)
  k_steps
  (rename IsRange _ _ _ _ _ _ _ _ => hR); (rename Fr _ _ _ _ => eF); (rename News _ _ _ _ => eN)
  refine revRange hR ?_
  dsimp only
  refine wpAny_pyIter_rangeiter (Heap.get?_push_size _ rfl) ?_
  have eF2 := eF.push revOne
  have eN2 := eN.push eF revOne
  refine for_gen (σ := List Value) (Walks.range rfl _ 0 (-1) 1) (fun c => [(l, listOf c.toArray n)]) (fun _ => []) [] (fun k c => c = if k = 0 then [Value.ref u, Value.ref v] else if y < x then [Value.ref u, Value.ref v] else [Value.ref v, Value.ref u]) [Value.ref u, Value.ref v]
    (.head _) (fun q => (eN2 _ (.head _)).2.1 (List.mem_singleton.mp q).symm) (eN2 _ (.head _)).2.2 (fun b hb => .inl (List.mem_singleton.mp hb)) ?_ (Heap.get?_push_size _ rfl) (fun i h st => ⟨_, st⟩) eF2 (fun p hp => eN2 p (.tail _ hp)) (fun _ h => nomatch h) rfl ?_ ?_
  · intro i c _ q hq e
    rw [List.mem_singleton.mp hq] at e
    exact absurd (Heap.lt_size (eN.get (.head _))) (by rw [show l = _ from e]; exact Nat.lt_irrefl _)
  · rintro k vv c u1 h3 tk3 o3 hk3 ⟨t3, rfl⟩ hc _ F3 N3
    have hk0 : k = 0 := by omega
    subst hk0
    rw [if_pos rfl] at hc
    subst hc
    have hIl : _ ≠ l := fun e => absurd (Heap.lt_size (eN.get (.head _))) (by rw [show l = _ from e.symm]; exact Nat.lt_irrefl _)
    clear eF eN eF2 eN2
    try k_fold
    k_steps
    refine Stop.go ?_
    (rename Fr _ _ _ _ => eF); (rename News _ _ _ _ => eN)
    refine siftup_max_tup (n := n) ⟨B, eF, X, T, rfl, room1 hdp (by decide), room3 hun (by decide)⟩ (News.one eN (.tail _ (.head _))) (eF.keep _ _ hgu) (eF.keep _ _ hgv) hxy ?_
    intro h2 tk2 hK2 hG2
    have eF2 := hK2.frOf eF eN (.tail _ (.head _))
    have eN2 := hK2.upd eN (.tail hIl (.head fun _ h => nomatch h)) hG2
    clear eF eN
    dsimp only
    k_steps
    dsimp only [ForPost]
    exact for_end _ eF2 eN2 (fun _ h => h) (fun _ h => nomatch h) (by intro z h1 _ _; simp [kstB, h1]) rfl
  · rintro c u1 h3 tk3 hc F3 N3
    rw [if_neg (by decide)] at hc
    subst hc
    dsimp only
    k_steps
    exact ret _ _ (fun b o e n => F3.keep b o (hg b o e (by simpa using n))) (N3.get (.head _))
end Mine
end
-- NbEnterC
section
open PySem PySem.W PySem.Calls PyProof.Rows
namespace Mine
set_option maxRecDepth 100000
set_option maxHeartbeats 8000000
section
variable {prog : Program} {w : World} {p : Program} {loose : List Str} {mean : ExcName → Option Value} {mg mb : Str → Option Value} {dp un : Nat} {gd : Option (List Code)} {cn : Str} {cs : Scope} {a : Addr} {ccd : Value} {cl : List (Str × Addr)} {outer : List Env}
  {A₀ : Around} {base h₀ : Heap} {L : Addr} {m : Str → Option Value} {tch : List (Addr × Obj)} {s : Shared} {Q E : Value → Shared → Prop}
  {name qual : Str} {params : Arguments} {body : List Stmt} {scope : Scope} {dV kV doc pm cdv ct oc : Value} {an od : Option Addr} {osl : Array (Option Value)} {f : Addr} {vals : List Value} {binds : List (Str × Value)} {K : Frag}

/-- a def with captured names is entered, its cells laid -/
theorem enterC (B : Below A₀ base outer h₀) (F : Fr h₀ L s.heap m) (X : K.In h₀) (N : News h₀ L s.heap tch) (T : Top p loose mean mg mb h₀) (hk : cs.kind = .function)
    (ho : K.lookup f = some ⟨oc, od, .func (fnOf name qual params body scope dV kV doc pm an cdv ct), osl⟩) (hcd : codeIn K cdv qual = true) (hroom : dp < recursionLimit)
    (hbind : BindsTo s (fnOf name qual params body scope dV kV doc pm an cdv ct) ⟨vals, []⟩ binds) (hkind : (binds.all fun y => scope.names.lookup y.1 == some .local || scope.names.lookup y.1 == some .cell) = true)
    (hnd : ((cellsFrom 0 scope.names []).map (·.1)).Nodup)
    (hco : scope.isCoroutine = false) (hgen : scope.isGenerator = false) (hks : scope.kind = .function)
    (h : ∀ g L' h₁ tk cells, Kept s.heap g (tch.map (·.1)) → Fr g L' h₁ (bindL (envOfC qual scope L' f cdv).kindOf binds fun _ => none) → News g L' h₁ (cells ++ tch) →
      CellsAre (bindC (envOfC qual scope L' f cdv).kindOf binds fun _ => none) (cellsFrom (L' + 1) scope.names []) cells →
      Below (ktrTop dp un gd cn cs L a ccd cl outer) base (envX cn cs L a ccd cl :: outer) g → K.In g → Top p loose mean mg mb g →
      wpAny (model prog w) (ktrTop (dp + 1) (un + 3) gd qual scope L' f cdv (cellsFrom (L' + 1) scope.names []) (envX cn cs L a ccd cl :: outer)) (execs body (envOfC qual scope L' f cdv))
        (fun fl s' => Q (match fl with | .ret v => v | _ => .none) s') (fun _ _ => False) { s with heap := h₁, toks := tk }) :
    wpAny (model prog w) (ktrTop dp un gd cn cs L a ccd cl outer) (call (.ref f) vals) Q E s := by
  refine wpAny_noRaise (wpAny_call ?_)
  obtain ⟨_, BG, st, _⟩ := groundX (env := envX cn cs L a ccd cl) (A := ktrTop dp un gd cn cs L a ccd cl outer) (R := fun _ _ => True) B F N rfl rfl hk
  have st' : ∀ b o, h₀.get? b = some o → (hideAll s.heap (tch.map (·.1))).get? b = some o := st
  refine codeAny_call_function hroom ((X.keeps F.keep) _ _ ho) rfl hco hgen rfl (codeRec_of (X.keeps F.keep) hcd) (hbind _ _ _ _ ?_)
  refine wpAny_newFunctionEnv_cells hks (kindsX hkind _) fun env' he s' x => ?_
  subst he
  refine ⟨(T.nolimit.keeps F.keep).keeps x.toInCall.keep, codeAny_func ?_⟩
  obtain ⟨h₁, tk, rfl, _⟩ := x.done
  have hk₁ := x.toInCall.keep
  obtain ⟨cells, NC, Y⟩ := Cl.news (h₀ := s.heap) (Nat.le_refl _) fun n c hm => ⟨x.cell n c (lookup_of_mem_nodup (cellsFrom_names scope.names 0 (s.heap.objs.size + 1) [] [] rfl ▸ hnd) hm), x.above n c hm⟩
  refine wpAny_mono (h (hideAll s.heap (tch.map (·.1))) s.heap.objs.size h₁ tk cells (fun b o e n => hideAll_get _ e n) ⟨x.toInCall.ns, fun b o e => hk₁ b o (of_hideAll _ e), Nat.le_of_eq (hideAll_size _ _)⟩ (fun q hq => ?_) Y BG (X.keeps st') (T.keeps st')) (fun fl s' x => x) fun _ _ x => x.elim
  rcases List.mem_append.mp hq with hq | hq
  · refine ⟨(NC q hq).1, (NC q hq).2.1, ?_⟩
    cases e : (hideAll s.heap (tch.map (·.1))).get? q.1 with
    | none => rfl
    | some o => have := of_hideAll _ e; rw [(NC q hq).2.2] at this; cases this
  · exact ⟨hk₁ _ _ (N q hq).1, Nat.ne_of_lt (Heap.lt_size (N q hq).1), hideAll_none _ (List.mem_map_of_mem hq)⟩
end
/-- a try whose body raises nothing -/
theorem try_calm {prog : Program} {w : World} {A : Around} {E : Value → Shared → Prop} {s : Shared} {env : Env} {body orelse : List Stmt} {h₀ : ExceptHandler} {hs : List ExceptHandler} {pos : Pos} {Q : Flow → Shared → Prop}
    (h : wpAny (model prog w) A (execs body env) (fun f s₁ => match f with | .next => wpAny (model prog w) A (execs orelse env) Q E s₁ | f => Q f s₁) (fun _ _ => False) s) :
    wpAny (model prog w) A (exec (.Try body (h₀ :: hs) orelse [] pos) env) Q E s := wpAny_Try_except (wpAny_noRaise h)
end Mine
end
-- NbSorted
section
open PySem PySem.W PySem.Calls PyProof.Rows
namespace Mine
set_option maxRecDepth 100000
set_option maxHeartbeats 8000000
theorem sort_kw2 (x : Addr) (b : Bool) : Builtin.«list.sort» ⟨[.ref x], [(Str.ofString "key", .none), (Str.ofString "reverse", .bool b)]⟩ = Builtin.«list.sort» ⟨[.ref x], [(Str.ofString "reverse", .bool b)]⟩ := by rfl
theorem sort_kw1 (x : Addr) : Builtin.«list.sort» ⟨[.ref x], [(Str.ofString "key", .none)]⟩ = Builtin.«list.sort» ⟨[.ref x], [(Str.ofString "reverse", .bool false)]⟩ := by rfl

theorem args_sorted_k2 (a v : Value) : argsOk "sorted" ⟨[a], [(Str.ofString "key", .none), (Str.ofString "reverse", v)]⟩ := by unfold argsOk; kernel_rfl
theorem args_sorted_k1 (a : Value) : argsOk "sorted" ⟨[a], [(Str.ofString "key", .none)]⟩ := by unfold argsOk; kernel_rfl
theorem args_sort_k2 (a v : Value) : argsOk "list.sort" ⟨[a], [(Str.ofString "key", .none), (Str.ofString "reverse", v)]⟩ := by unfold argsOk; kernel_rfl
theorem args_sort_k1 (a : Value) : argsOk "list.sort" ⟨[a], [(Str.ofString "key", .none)]⟩ := by unfold argsOk; kernel_rfl

/-- sorted of ints by words that come to reverse=b -/
theorem sorted_kw {prog : Program} {w : World} {A : Around} {E : Value → Shared → Prop} {s : Shared} {h₀ : Heap} {L : Addr} {m : Str → Option Value} {news : List (Addr × Obj)} {l : Addr} {vs : List Value} {ns : List Int} {b : Bool} {kw : List (Str × Value)} {Q : Value → Shared → Prop}
    (ha1 : argsOk "sorted" ⟨[.ref l], kw⟩) (ha2 : ∀ x, argsOk "list.sort" ⟨[.ref x], kw⟩) (ht : ∀ x, Builtin.«list.sort» ⟨[.ref x], kw⟩ = Builtin.«list.sort» ⟨[.ref x], [(Str.ofString "reverse", .bool b)]⟩)
    (F : Fr h₀ L s.heap m) (N : News h₀ L s.heap news) (hl : s.heap.IsList l vs.toArray) (hI : IntsAre vs ns) (h64 : vs.length < 64)
    (h : ∀ (D : Addr) (h' : Heap) (vs' : List Value) (ns' : List Int) (e : Nat), Fr h₀ L h' m → News h₀ L h' ((D, listOf vs'.toArray e) :: news) → (∀ q ∈ news, q.1 < D) →
      IntsAre vs' ns' → ns'.Perm ns → Ordered b ns' → Q (.ref D) { s with heap := h' }) :
    wpAny (model prog w) A (call (.builtin "sorted") [.ref l] kw) Q E s := by
  refine call_function_entry_kw kind_sorted plain_sorted entry_sorted ha1 ?_
  unfold Builtin.«sorted»
  refine wpAny_bind (m := checkCount "sorted" 1 1 _) (wpAny_pure ?_)
  refine wpAny_bind (collect_list hl ?_)
  refine wpAny_bind (wpAny_newList ?_)
  have hsz : ((s.heap.push (seqObj "list" #[] 0)).update s.heap.objs.size (Obj.mapSeq (· ++ vs.toArray))).objs.size = s.heap.objs.size + 1 := by
    rw [Heap.size_update, size_push']
  have hoL : (((s.heap.push (seqObj "list" #[] 0)).update s.heap.objs.size (Obj.mapSeq (· ++ vs.toArray))).push (seqObj "list" vs.toArray 0)).get? (s.heap.objs.size + 1) = some (seqObj "list" vs.toArray 0) := by
    rw [← hsz]; exact Heap.get?_push_size _ rfl
  show wpAny _ _ _ _ _ { s with heap := ((s.heap.push (seqObj "list" #[] 0)).update s.heap.objs.size (Obj.mapSeq (· ++ vs.toArray))).push (seqObj "list" vs.toArray 0) }
  rw [hsz]
  refine wpAny_bind (wpAny_holding (wpAny_call_entry_kw slot_list_sort ⟨_, hoL, rfl⟩ entry_list_sort (by
    rw [ht]
    exact list_sort_tree_rev hoL hI h64 fun out ns' a1 a2 a3 => ⟨_, rfl, (by
      refine wpAny_pure ⟨_, rfl, ?_⟩
      obtain ⟨e, he⟩ := sortedAll_at s.heap vs out
      exact h _ _ out.toList ns' e (F.kept fun _ _ => sortedAll_old) (N.kept_cons F (fun _ _ => sortedAll_old) (Nat.le_succ _) he) (fun q hq => Nat.lt_succ_of_lt (Heap.lt_size (N q hq).1)) a1 a2 a3)⟩) (ha2 _)))
end Mine
end
-- NbZip
section
open PySem PySem.W PySem.Calls PyProof.Rows
namespace Mine
set_option maxRecDepth 100000
set_option maxHeartbeats 8000000
section
variable {prog : Program} {w : World} {A : Around} {E : Value → Shared → Prop} {s : Shared}

theorem nextOf_range_item {it : Addr} {x left step : Int} {Q : Value → Shared → Prop} (hit : IsRangeIter s.heap it x left step) (hleft : 0 < left)
    (hQ : ∀ h', IsRangeIter h' it (x + step) (left - 1) step → Heap.SameBut it s.heap h' → Q (.int x s.toks) { s with heap := h', toks := s.toks + 1 }) :
    wpAny (model prog w) A (Builtin.SmallTypes.nextOf (.ref it)) Q E s := by
  have hT : s.TypeIs (.ref it) "range_iterator" := ⟨_, hit, rfl⟩
  have hl : ¬ left ≤ 0 := by omega
  unfold Builtin.SmallTypes.nextOf
  refine wpAny_bind (wpAny_callSpecial?_slot (name := Str.ofString "__next__") hT F.slot_range_iterator_next
    (wpAny_call_entry F.slot_range_iterator_next hT F.entry_range_iterator_next ?_ (F.args_range_iterator_next_1 _)))
  obtain ⟨hp, g, d, tk, os⟩ := s
  wp_walk
  refine ⟨_, rfl, wpAny_pure (hQ _ (Heap.get?_update_self _ (Heap.get?_update_self _ hit rfl) rfl) ((Heap.SameBut.update ..).trans (Heap.SameBut.update ..)))⟩

theorem nextOf_range_end {it : Addr} {x left step : Int} {Q : Value → Shared → Prop} (hh : A.handled = none) (hit : IsRangeIter s.heap it x left step) (hleft : left ≤ 0)
    (hE : ∀ h' e, Heap.ExtBut it s.heap h' → (∃ o, h'.get? e = some o ∧ o.cls = .type "StopIteration") → E (.ref e) { s with heap := h' }) :
    wpAny (model prog w) A (Builtin.SmallTypes.nextOf (.ref it)) Q E s := by
  have hT : s.TypeIs (.ref it) "range_iterator" := ⟨_, hit, rfl⟩
  unfold Builtin.SmallTypes.nextOf
  refine wpAny_bind (wpAny_callSpecial?_slot (name := Str.ofString "__next__") hT F.slot_range_iterator_next
    (wpAny_call_entry F.slot_range_iterator_next hT F.entry_range_iterator_next ?_ (F.args_range_iterator_next_1 _)))
  obtain ⟨hp, g, d, tk, os⟩ := s
  have hi : A.in1.handled = none := hh
  wp_walk
  unfold raiseNew
  wp_walk
  exact hE _ _ (fun b o _ e => Heap.get?_push_of_some _ (Heap.get?_push_of_some _ e)) ⟨_, Heap.get?_push_size _ rfl, rfl⟩

/-- the places of a zip of a range and a list's iterator are apart -/
structure ZA (z TI TO i1 i2 l : Addr) : Prop where
  TIz : TI ≠ z
  TOz : TO ≠ z
  i1z : i1 ≠ z
  i2z : i2 ≠ z
  TITO : TI ≠ TO
  TIi1 : TI ≠ i1
  TIi2 : TI ≠ i2
  TOi1 : TO ≠ i1
  TOi2 : TO ≠ i2
  i12 : i1 ≠ i2
  lz : l ≠ z
  lTO : l ≠ TO
  li1 : l ≠ i1
  li2 : l ≠ i2

theorem zip_item {z TI TO i1 i2 l : Addr} {x left step : Int} {k : Nat} {ys : Array Value} {y a b : Value} {Q : Option Value → Shared → Prop} (D : ZA z TI TO i1 i2 l)
    (hz : IsZip s.heap z TI TO .none) (hTI : IsPair s.heap TI (.ref i1) (.ref i2)) (hTO : IsPair s.heap TO a b)
    (h1 : IsRangeIter s.heap i1 x left step) (hleft : 0 < left) (h2 : s.heap.IsListIter i2 l k) (hl : s.heap.IsList l ys) (hy : ys[k]? = some y)
    (hQ : ∀ h', IsZip h' z TI TO (rawInt s.heap.objs.size) → IsPair h' TO (.int x s.toks) y → IsRangeIter h' i1 (x + step) (left - 1) step → h'.IsListIter i2 l (k + 1) → IsPair h' s.heap.objs.size (.int x s.toks) y → h'.objs.size = s.heap.objs.size + 1 →
      (∀ c o, c ≠ z → c ≠ TO → c ≠ i1 → c ≠ i2 → s.heap.get? c = some o → h'.get? c = some o) → Q (some (.ref s.heap.objs.size)) { s with heap := h', toks := s.toks + 1 }) :
    wpAny (model prog w) A (pyNext (.ref z)) Q E s := by
  have hT : s.TypeIs (.ref z) "zip" := ⟨_, hz, rfl⟩
  unfold pyNext
  refine wpAny_bind (wpAny_attempt (wpAny_callSpecial?_slot (name := Str.ofString "__next__") hT F.slot_zip_next (wpAny_call_entry F.slot_zip_next hT F.entry_zip_next ?_ (F.args_zip_next_1 _))))
  wp_walk using wpAny_setField_rec hz
  · exact Nat.zero_lt_succ _
  intro g1 hz1 s1
  replace hz1 : IsZip g1 z TI TO .ellipsis := hz1
  simp only [List.zipIdx_cons, List.zipIdx_nil, List.forIn_cons, List.forIn_nil]
  have p1 := s1.extBut _ _ D.TOz hTO
  have r1 := s1.extBut _ _ D.i1z h1
  wp_walk using wpAny_onRaise, nextOf_range_item r1 hleft
  intro g2 r2 s2
  have p2 := s2.extBut _ _ D.TOi1 p1
  wp_walk using wpAny_updateSeq_pair p2
  intro g3 p3 s3
  have l3 := ((h2.extBut s1.extBut D.i2z).extBut s2.extBut D.i12.symm).extBut s3.extBut D.TOi2.symm
  have k3 := ((hl.extBut s1.extBut D.lz).extBut s2.extBut D.li1).extBut s3.extBut D.lTO
  replace p3 : IsPair g3 TO (.int x s.toks) b := p3
  wp_walk using wpAny_onRaise, wpAny_nextOf_list_item l3 k3 hy
  intro g4 r4 s4
  have p4 := s4.extBut _ _ D.TOi2 p3
  wp_walk using wpAny_updateSeq_pair p4
  intro g5 p5 s5
  replace p5 : IsPair g5 TO (.int x s.toks) y := p5
  have z5 : IsZip g5 z TI TO .ellipsis := s5.extBut _ _ D.TOz.symm (s4.extBut _ _ D.i2z.symm (s3.extBut _ _ D.TOz.symm (s2.extBut _ _ D.i1z.symm hz1)))
  have r5 : IsRangeIter g5 i1 (x + step) (left - 1) step := s5.extBut _ _ D.TOi1.symm (s4.extBut _ _ D.i12 (s3.extBut _ _ D.TOi1.symm r2))
  have q5 := r4.extBut s5.extBut D.TOi2.symm
  have k5 : ∀ c o, c ≠ z → c ≠ TO → c ≠ i1 → c ≠ i2 → s.heap.get? c = some o → g5.get? c = some o := fun c o c1 c2 c3 c4 e =>
    s5.extBut _ _ c2 (s4.extBut _ _ c4 (s3.extBut _ _ c2 (s2.extBut _ _ c3 (s1.extBut _ _ c1 e))))
  have n5 : g5.objs.size = s.heap.objs.size := by rw [s5.1, s4.1, s3.1, s2.1, s1.1]
  wp_walk
  refine ⟨_, rfl, wpAny_pure ?_⟩
  show Q (some (.ref g5.objs.size)) _
  generalize hH : Heap.update (Heap.update _ z _) z _ = H
  have up : ∀ c o, c ≠ z → g5.get? c = some o → H.get? c = some o := fun c o c1 e => by
    rw [← hH]; exact (Heap.SameBut.update ..).extBut _ _ c1 ((Heap.SameBut.update ..).extBut _ _ c1 (Heap.get?_push_of_some _ e))
  have pT : IsPair H g5.objs.size (.int x s.toks) y := by
    rw [← hH]; exact (Heap.SameBut.update ..).extBut _ _ (Nat.ne_of_gt (Heap.lt_size z5)) ((Heap.SameBut.update ..).extBut _ _ (Nat.ne_of_gt (Heap.lt_size z5)) (Heap.get?_push_size _ rfl))
  have pz : IsZip H z TI TO (rawInt g5.objs.size) := by rw [← hH]; exact Heap.get?_update_self _ (Heap.get?_update_self _ (Heap.get?_push_of_some _ z5) rfl) rfl
  have pS : H.objs.size = g5.objs.size + 1 := by rw [← hH, Heap.size_update, Heap.size_update, Heap.size_push]
  rw [n5] at pT pz pS ⊢
  exact hQ H pz (up _ _ D.TOz p5) (up _ _ D.i1z r5) (q5.at fun o e => up _ o D.i2z e) pT pS fun c o c1 c2 c3 c4 e => up c o c1 (k5 c o c1 c2 c3 c4 e)

theorem zip_over {z TI TO i1 i2 : Addr} {x left step : Int} {a b : Value} {Q : Option Value → Shared → Prop} (hh : A.handled = none) (i1z : i1 ≠ z)
    (hz : IsZip s.heap z TI TO .none) (hTI : IsPair s.heap TI (.ref i1) (.ref i2)) (hTO : IsPair s.heap TO a b)
    (h1 : IsRangeIter s.heap i1 x left step) (hleft : left ≤ 0)
    (hQ : ∀ h', (∀ c o, c ≠ z → c ≠ i1 → s.heap.get? c = some o → h'.get? c = some o) → Q none { s with heap := h' }) :
    wpAny (model prog w) A (pyNext (.ref z)) Q E s := by
  have hT : s.TypeIs (.ref z) "zip" := ⟨_, hz, rfl⟩
  unfold pyNext
  refine wpAny_bind (wpAny_attempt (wpAny_callSpecial?_slot (name := Str.ofString "__next__") hT F.slot_zip_next (wpAny_call_entry F.slot_zip_next hT F.entry_zip_next ?_ (F.args_zip_next_1 _))))
  wp_walk using wpAny_setField_rec hz
  · exact Nat.zero_lt_succ _
  intro g1 hz1 s1
  replace hz1 : IsZip g1 z TI TO .ellipsis := hz1
  simp only [List.zipIdx_cons, List.zipIdx_nil, List.forIn_cons, List.forIn_nil]
  have r1 := s1.extBut _ _ i1z h1
  have hi : A.in1.handled = none := hh
  wp_walk using wpAny_onRaise, nextOf_range_end hi r1 hleft
  intro g2 e s2 he
  obtain ⟨oe, hoe, hce⟩ := he
  have z2 : IsZip g2 z TI TO .ellipsis := s2 _ _ i1z.symm hz1
  have hez : e ≠ z := fun q => by subst q; rw [z2] at hoe; cases hoe; simp at hce
  refine wpAny_setField_rec z2 (Nat.zero_lt_succ _) fun g3 _ s3 => ?_
  refine wpAny_bind (wpAny_isInstance (T := "StopIteration") (b := true) ⟨oe, s3.extBut _ _ hez hoe, hce⟩ isSubtype_stop ?_)
  exact wpAny_pure (hQ _ fun c o c1 c2 q => s3.extBut _ _ c1 (s2 _ _ c2 (s1.extBut _ _ c1 q)))

noncomputable abbrev zH1 (h : Heap) (a b c : Int) : Heap := h.push { cls := .type "range_iterator", data := .fields #[rawInt a, rawInt (Builtin.Range.rangeSize a b c), rawInt c] }
noncomputable abbrev zH2 (h : Heap) (a b c : Int) (i2 : Addr) : Heap := (zH1 h a b c).push { cls := .type "tuple", data := .seq #[.ref h.objs.size, .ref i2] }
noncomputable abbrev zH3 (h : Heap) (a b c : Int) (i2 : Addr) : Heap := (zH2 h a b c i2).push { cls := .type "tuple", data := .seq #[.none, .none] }
noncomputable abbrev zH4 (h : Heap) (a b c : Int) (i2 : Addr) : Heap := (zH3 h a b c i2).push { cls := .type "zip", data := .fields #[.none, .bool false, .bool false, .ref (zH1 h a b c).objs.size, .ref (zH2 h a b c i2).objs.size] }

theorem zip_newM (r i2 l : Addr) (a b c : Int) (t u v : Tok) (k : Nat) (hsmall : Builtin.Range.small a b c = true) :
    Meets (Builtin.«zip.__new__» ⟨[.type "zip", .ref r, .ref i2], []⟩) (fun _ R s => IsRange s.heap r a b c t u v ∧ s.heap.IsListIter i2 l k ∧
      R (.ok (.ret (.ref (zH3 s.heap a b c i2).objs.size))) { s with heap := zH4 s.heap a b c i2 }) :=
  .of_wp fun prog w A R s h => by
    obtain ⟨hp, g, d, tk, os⟩ := s; obtain ⟨hr, hit, h⟩ := h
    have hsub := sub_zip
    have hL2 : Heap.IsListIter (Shared.heap ⟨hp.push { cls := .type "range_iterator", data := .fields #[rawInt a, rawInt (Builtin.Range.rangeSize a b c), rawInt c] }, g, d, tk, os⟩) i2 l k := hit.at fun o e => Heap.get?_push_of_some _ e
    wp_walk using wpAny_pyIter_range hr hsmall, wpAny_pyIter_listiter hL2
    exact ⟨_, rfl, h⟩
end
end Mine
end
-- NbComp
section
open PySem PySem.W PySem.Calls PyProof.Rows PyProof.Rows.LCp PyProof.Rows.LCg
namespace Mine
set_option maxRecDepth 100000
set_option maxHeartbeats 8000000

/-- the pairs made so far: at the places ts the tuples (yv q, a + q * c), all beyond C -/
noncomputable def TS (yv : Nat → Int) (a c : Int) (C : Addr) (h : Heap) : List Addr → Nat → Prop
  | [], _ => True
  | T :: r, q => (∃ t t', h.get? T = some (tupOf (yv q) (a + q * c) t t' 0)) ∧ C < T ∧ TS yv a c C h r (q + 1)
theorem TS.mono {yv : Nat → Int} {a c : Int} {C : Addr} {h h' : Heap} (k : ∀ T o, C < T → h.get? T = some o → h'.get? T = some o) : ∀ {ts : List Addr} {q : Nat}, TS yv a c C h ts q → TS yv a c C h' ts q
  | [], _, _ => trivial
  | _ :: _, _, ⟨⟨t, t', e⟩, l, r⟩ => ⟨⟨t, t', k _ _ l e⟩, l, r.mono k⟩
theorem TS.snoc {yv : Nat → Int} {a c : Int} {C : Addr} {h : Heap} {T : Addr} : ∀ {ts : List Addr} {q : Nat}, TS yv a c C h ts q → (∃ t t', h.get? T = some (tupOf (yv (q + ts.length)) (a + ((q + ts.length : Nat) : Int) * c) t t' 0)) → C < T → TS yv a c C h (ts ++ [T]) q
  | [], q, _, e, l => ⟨by simpa using e, l, trivial⟩
  | _ :: r, q, ⟨e0, l0, r0⟩, e, l => ⟨e0, l0, r0.snoc (by rw [show q + 1 + r.length = q + (r.length + 1) by omega]; exact e) l⟩

theorem leN {a b : Nat} (h : a ≤ b) : a ≤ b := h
local macro_rules | `(tactic| walk_at "nat") => `(tactic| first | (refine neN ?_; first | (with_reducible assumption) | (refine Ne.symm ?_; with_reducible assumption) | (refine Nat.ne_of_lt ?_; with_reducible assumption) | (refine Nat.ne_of_gt ?_; with_reducible assumption) | ((rename (@LT.lt Nat _ _ _) => q9); exact Nat.ne_of_gt (Nat.lt_trans (by with_reducible assumption) q9))) | omega | (refine neN ?_; omega) | (refine ltN ?_; omega) | (refine leN ?_; omega))
section
variable {prog : Program} {w : World} {A : Around} {E : Value → Shared → Prop}

/-- the comprehension's state after j turns -/
structure ZInv (h₂ h' : Heap) (z TI TO i1 i2 l : Addr) (a c : Int) (k j : Nat) (ys : Array Value) (yv : Nat → Int) (D C : Addr) (ts : List Addr) (m' : Str → Option Value) : Prop where
  hj : j ≤ 2
  kz : IsZip h' z TI TO .none
  kTI : IsPair h' TI (.ref i1) (.ref i2)
  kTO : ∃ p q, IsPair h' TO p q
  k1 : IsRangeIter h' i1 (a + (j : Nat) * c) (2 - (j : Nat)) c
  k2 : h'.IsListIter i2 l (k + j)
  kl : h'.IsList l ys
  kK : Kept h₂ h' [z, TO, i1, i2]
  kD : h'.get? D = some (lst (ts.map Value.ref))
  kt : ts.length = j
  kS : TS yv a c C h' ts 0
  kN : h'.Ns C m'

theorem comp_zip {env : Env} {xi xe : Str} {px px2 tp pe pi p0 : Pos} {ke kt : Nat} {iter : Expr} {scope : Scope} {cl : List (Str × Addr)} {pos : Pos} {s₂ : Shared} {z TI TO i1 i2 l : Addr} {a c : Int} {k : Nat} {ys : Array Value} {yv : Nat → Int}
    {RR : Value → Addr → Result → Shared → Prop}
    (hcell : ∀ y ∈ scope.names, y.2 ≠ .cell) (hkind : scope.kind = .function) (hxi : scope.names.lookup xi = some .local) (hxe : scope.names.lookup xe = some .local) (hne : xi ≠ xe) (hdi : (xi == ("__debug__" : Str)) = false) (hde : (xe == ("__debug__" : Str)) = false) (hh : A.handled = none)
    (za : ZA z TI TO i1 i2 l) (hz : IsZip s₂.heap z TI TO .none) (hTI : IsPair s₂.heap TI (.ref i1) (.ref i2)) (hTO : ∃ p q, IsPair s₂.heap TO p q) (h1 : IsRangeIter s₂.heap i1 a 2 c) (h2 : s₂.heap.IsListIter i2 l k) (hl : s₂.heap.IsList l ys)
    (hy : ∀ q < 2, ∃ t, ys[k + q]? = some (.int (yv q) t))
    (hRR : ∀ D C h tk m' ts, s₂.heap.objs.size ≤ D → D < C → Kept s₂.heap h [z, TO, i1, i2] → h.IsListIter i2 l (k + 2) → h.get? D = some (lst (ts.map Value.ref)) → ts.length = 2 → TS yv a c C h ts 0 → h.Ns C m' → RR (.ref D) C (.ok .next) { s₂ with heap := h, toks := tk }) :
    wpAny (model prog w) A (newList []) (fun acc s₃ => wpAny (model prog w) A (newFunctionEnv scope env.globals cl [] env.qual none .none (some env)) (fun cenv s₄ =>
      codeAny (model prog w) A (.compStart (.ListComp (.Tuple [.Name xe pe, .Name xi pi] ke p0) [⟨.Tuple [.Name xi px, .Name xe px2] kt tp, iter, [], 0⟩] scope pos) 0 (.ref z) acc { cenv with scope := relabel scope env }) (RR acc cenv.locals) s₄) E s₃) E s₂ := by
  refine wpAny_newObj_type (wpAny_newFunctionEnv hcell (by intro y hy; simp at hy) (fun g1 hns1 hsb1 => ?_) hkind)
  dsimp only at hns1 hsb1 ⊢
  generalize hH2 : s₂.heap.push { cls := .type "list", dict := none, data := .seq ([] : List Value).toArray } = H2 at hns1 hsb1 ⊢
  have hC : H2.objs.size = s₂.heap.objs.size + 1 := by rw [← hH2, Heap.size_push]
  generalize hD : s₂.heap.objs.size = D at *
  generalize hCC : H2.objs.size = C at *
  have old : ∀ b o, s₂.heap.get? b = some o → g1.get? b = some o := fun b o e => by
    have hb : @LT.lt Nat _ b s₂.heap.objs.size := Heap.lt_size e
    exact hsb1.extBut b o (by walk_at "nat") (Heap.get?_push_of_some _ (hH2 ▸ Heap.get?_push_of_some _ e))
  have hacc : g1.get? D = some (lst []) := hsb1.extBut _ _ (by walk_at "nat") (Heap.get?_push_of_some _ (hH2 ▸ hD ▸ Heap.get?_push_size _ rfl))
  have bz : @LT.lt Nat _ z D := hD ▸ Heap.lt_size hz
  have bTO : @LT.lt Nat _ TO D := by obtain ⟨_, _, e⟩ := hTO; exact hD ▸ Heap.lt_size e
  have bTI : @LT.lt Nat _ TI D := hD ▸ Heap.lt_size hTI
  have b1 : @LT.lt Nat _ i1 D := hD ▸ Heap.lt_size h1
  have b2 : @LT.lt Nat _ i2 D := by obtain ⟨_, e, _⟩ := h2; exact hD ▸ Heap.lt_size e
  have bl : @LT.lt Nat _ l D := by obtain ⟨_, e, _⟩ := hl; exact hD ▸ Heap.lt_size e
  have hDC : @LT.lt Nat _ D C := by omega
  have cz := Nat.lt_trans bz hDC
  have cTO := Nat.lt_trans bTO hDC
  have cTI := Nat.lt_trans bTI hDC
  have c1 := Nat.lt_trans b1 hDC
  have c2 := Nat.lt_trans b2 hDC
  have cl' := Nat.lt_trans bl hDC
  have loop : ∀ s₃ : Shared, s₃ = { s₂ with heap := g1, toks := s₂.toks + ([] : List (Str × Value)).length } →
      codeAny (model prog w) A (.compLoop (.ListComp (.Tuple [.Name xe pe, .Name xi pi] ke p0) [⟨.Tuple [.Name xi px, .Name xe px2] kt tp, iter, [], 0⟩] scope pos) 0 (.ref z) (.ref D) (compEnvC scope cl C env)) (RR (.ref D) C) s₃ := by
    rintro s₃ rfl
    refine codeAny_compLoop_pair (fun n s' => ∃ j h' tk m' ts, s' = { s₂ with heap := h', toks := tk } ∧ n = 3 - j ∧ ZInv s₂.heap h' z TI TO i1 i2 l a c k j ys yv D C ts m') ?_ 3
      ⟨0, g1, _, _, [], rfl, rfl, by walk_at "nat", old _ _ hz, old _ _ hTI, (by obtain ⟨p, q, e⟩ := hTO; exact ⟨p, q, old _ _ e⟩), by simpa using old _ _ h1, h2.at fun o e => old _ o e, hl.at fun o e => old _ o e, fun b o e _ => old b o e, hacc, rfl, trivial, hns1⟩
    rintro n s' ⟨j, h', tk, m', ts, rfl, rfl, hj, kz, kTI, ⟨p, q, kTO⟩, k1, k2, kl, kK, kD, kt', kS, kN⟩
    have hCD : C = D + 1 := by omega
    by_cases hj2 : j < 2
    · obtain ⟨ty, hyj⟩ := hy j hj2
      have hCs : @LT.lt Nat _ C h'.objs.size := kN.lt
      have dz := Nat.lt_trans cz hCs
      have dTO := Nat.lt_trans cTO hCs
      have d1 := Nat.lt_trans c1 hCs
      have d2 := Nat.lt_trans c2 hCs
      have dD := Nat.lt_trans hDC hCs
      refine zip_item za kz kTI kTO k1 (by walk_at "nat") k2 kl hyj fun f1 fz fTO f1' f2 fT fsz fk => ?_
      dsimp only at fz fTO f1' f2 fT fsz fk ⊢
      refine wpAny_letOwnedTupleGo_zip fz fun f3 fz3 s3 => ?_
      dsimp only at s3 ⊢
      have fT3 : IsPair f3 h'.objs.size (.int (a + (j : Nat) * c) tk) (.int (yv j) ty) := s3.extBut _ _ (by walk_at "nat") fT
      refine assign_Tuple_tuple hh (t := h'.objs.size) (items := #[.int (a + (j : Nat) * c) tk, .int (yv j) ty]) ⟨_, fT3, rfl, _, rfl⟩ rfl rfl fun f5 he => ?_
      dsimp only at he ⊢
      have he' : ∀ b o, f3.get? b = some o → f5.get? b = some o := fun b o e => he b o (Nat.ne_of_lt (Heap.lt_size e)) e
      have up5 : ∀ b o, b ≠ z → b ≠ TO → b ≠ i1 → b ≠ i2 → h'.get? b = some o → f5.get? b = some o := fun b o q1 q2 q3 q4 e => he' b o (s3.extBut b o q1 (fk b o q1 q2 q3 q4 e))
      have kN5 : f5.Ns C m' := kN.at' fun o e => up5 C o (by walk_at "nat") (by walk_at "nat") (by walk_at "nat") (by walk_at "nat") e
      refine assignInOrder_cons (wpAny_assign_Name (wpAny_storeName_local (lookup_relabel_local hxi) kN5 (fun f6 hn6 hs6 => ?_) (by simp [compEnvC, relabel, hkind])))
      refine assignInOrder_cons (wpAny_assign_Name (wpAny_storeName_local (lookup_relabel_local hxe) hn6 (fun f7 hn7 hs7 => ?_) (by simp [compEnvC, relabel, hkind])))
      refine assignInOrder_nil ?_
      have up7 : ∀ b o, b ≠ C → f5.get? b = some o → f7.get? b = some o := fun b o q1 e => hs7.extBut b o q1 (hs6.extBut b o q1 e)
      refine Tuple_ ?_
      refine spliced_more ?_
      refine wpAny_Name (wpAny_loadName_local hkind (lookup_relabel_local hxe) hn7 (v := .int (yv j) ty) (by simp) ?_) hde
      refine spliced_more ?_
      refine wpAny_Name (wpAny_loadName_local hkind (lookup_relabel_local hxi) hn7 (v := .int (a + (j : Nat) * c) tk) (by simp [hne]) ?_) hdi
      refine spliced_none ?_
      refine wpAny_newTuple ?_
      dsimp only
      have kD7 : f7.get? D = some (lst (ts.map Value.ref)) := up7 D _ (by walk_at "nat") (up5 D _ (by walk_at "nat") (by walk_at "nat") (by walk_at "nat") (by walk_at "nat") kD)
      refine append_at (Heap.get?_push_of_some _ kD7) (fun f8 hs8 hD8 => ?_) (by show (ts.map Value.ref).toArray.size ≤ sizeLine; rw [List.size_toArray, List.length_map, sizeLine_eq]; omega)
      have sz7 : @LE.le Nat _ h'.objs.size f7.objs.size := Nat.le_of_lt (Heap.lt_size (up7 _ _ (by walk_at "nat") (he' _ _ fT3)))
      have up8 : ∀ b o, b ≠ D → f7.get? b = some o → f8.get? b = some o := fun b o q1 e => hs8.extBut b o q1 (Heap.get?_push_of_some _ e)
      have up : ∀ b o, b ≠ z → b ≠ TO → b ≠ i1 → b ≠ i2 → b ≠ C → b ≠ D → h'.get? b = some o → f8.get? b = some o := fun b o q1 q2 q3 q4 q5 q6 e => up8 b o q6 (up7 b o q5 (up5 b o q1 q2 q3 q4 e))
      refine ⟨3 - (j + 1), by walk_at "nat", j + 1, f8, _, _, ts ++ [f7.objs.size], rfl, rfl, by walk_at "nat", up8 _ _ (by walk_at "nat") (up7 _ _ (by walk_at "nat") (he' _ _ fz3)), up _ _ za.TIz za.TITO za.TIi1 za.TIi2 (by walk_at "nat") (by walk_at "nat") kTI, ⟨_, _, up8 _ _ (by walk_at "nat") (up7 _ _ (by walk_at "nat") (he' _ _ (s3.extBut _ _ za.TOz fTO)))⟩, ?_, ?_, ?_, ?_, ?_, ?_, ?_, Heap.Ns.at' (a := C) hn7 fun o e => up8 C o (by walk_at "nat") e⟩
      · have e := up8 _ _ (by walk_at "nat") (up7 _ _ (by walk_at "nat") (he' _ _ (s3.extBut _ _ za.i1z f1')))
        have e1 : a + ((j + 1 : Nat) : Int) * c = a + (j : Int) * c + c := by push_cast; rw [Int.add_mul, Int.one_mul, Int.add_assoc]
        have e2 : (2 : Int) - ((j + 1 : Nat) : Int) = 2 - (j : Int) - 1 := by push_cast; omega
        rw [e1, e2]; exact e
      · exact f2.at fun o e => up8 _ _ (by walk_at "nat") (up7 _ _ (by walk_at "nat") (he' _ _ (s3.extBut _ _ za.i2z e)))
      · exact kl.at fun o e => up _ o za.lz za.lTO za.li1 za.li2 (by walk_at "nat") (by walk_at "nat") e
      · intro b o e nb
        simp only [List.mem_cons, List.not_mem_nil, or_false, not_or] at nb
        have hb : @LT.lt Nat _ b D := hD ▸ Heap.lt_size e
        exact up b o nb.1 nb.2.1 nb.2.2.1 nb.2.2.2 (by walk_at "nat") (by walk_at "nat") (kK b o e (by simp [nb]))
      · rw [hD8]; exact congrArg some ((lst_snoc _ _).trans (by rw [List.map_append]; rfl))
      · simp [kt']
      · refine TS.snoc (kS.mono fun T o hT e => let hT' : @LT.lt Nat _ C T := hT; up T o (by walk_at "nat") (by walk_at "nat") (by walk_at "nat") (by walk_at "nat") (by walk_at "nat") (by walk_at "nat") e) ⟨ty, tk, ?_⟩ (by walk_at "nat")
        rw [kt', Nat.zero_add]
        exact hs8.extBut _ _ (by walk_at "nat") (Heap.get?_push_size _ rfl)
    · have hj3 : j = 2 := by omega
      subst hj3
      refine zip_over hh za.i1z kz kTI kTO k1 (by walk_at "nat") fun f1 fk => ?_
      refine hRR D C f1 _ m' ts (by walk_at "nat") (by walk_at "nat") (fun b o e nb => ?_) (k2.at fun o e => fk _ _ za.i2z za.i12.symm e) (fk _ _ (by walk_at "nat") (by walk_at "nat") kD) kt' (kS.mono fun T o hT e => let hT' : @LT.lt Nat _ C T := hT; fk T o (by walk_at "nat") (by walk_at "nat") e) (kN.at' fun o e => fk _ _ (by walk_at "nat") (by walk_at "nat") e)
      simp only [List.mem_cons, List.not_mem_nil, or_false, not_or] at nb
      exact fk b o nb.1 nb.2.2.1 (kK b o e (by simp [nb]))
  exact codeAny_compStart_list (loop _ rfl) (wpAny_pyIter_zip (old _ _ hz) (loop _ rfl))

/-- what assign_comp_zip asks of the iterable's value: a zip of a range and a list's iterator, and what follows -/
noncomputable def ZipSrc (h₀ : Heap) (L : Addr) (m : Str → Option Value) (y : Str) (Q : Flow → Shared → Prop) (xv : Value) (s₁ : Shared) : Prop :=
  ∃ z TI TO i1 i2 l a c k ys yv, xv = .ref z ∧ ZA z TI TO i1 i2 l ∧ IsZip s₁.heap z TI TO .none ∧ IsPair s₁.heap TI (.ref i1) (.ref i2) ∧ (∃ p q, IsPair s₁.heap TO p q) ∧ IsRangeIter s₁.heap i1 a 2 c ∧ s₁.heap.IsListIter i2 l k ∧ s₁.heap.IsList l ys ∧
        (∀ q < 2, ∃ t, ys[k + q]? = some (.int (yv q) t)) ∧ Fr h₀ L s₁.heap m ∧ (∀ b ∈ [z, TO, i1, i2], h₀.get? b = none ∧ b ≠ L) ∧
        ∀ D C ts h tk, s₁.heap.objs.size ≤ D → D < C → Fr h₀ L h (fun q => if q = y then some (.ref D) else m q) → Kept s₁.heap h [L, z, TO, i1, i2] → h.IsListIter i2 l (k + 2) → h.get? D = some (lst (ts.map Value.ref)) → ts.length = 2 → TS yv a c C h ts 0 → Q .next { s₁ with heap := h, toks := tk }
theorem zipSrcE {G : Prop} {h₀ : Heap} {L : Addr} {m : Str → Option Value} {y : Str} {Q : Flow → Shared → Prop} {xv : Value} {s₁ : Shared} (h : ZipSrc h₀ L m y Q xv s₁)
    (K : ∀ z TI TO i1 i2 l a c k ys yv, xv = .ref z → ZA z TI TO i1 i2 l → IsZip s₁.heap z TI TO .none → IsPair s₁.heap TI (.ref i1) (.ref i2) → (∃ p q, IsPair s₁.heap TO p q) → IsRangeIter s₁.heap i1 a 2 c → s₁.heap.IsListIter i2 l k → s₁.heap.IsList l ys →
      (∀ q < 2, ∃ t, ys[k + q]? = some (.int (yv q) t)) → Fr h₀ L s₁.heap m → (∀ b ∈ [z, TO, i1, i2], h₀.get? b = none ∧ b ≠ L) →
      (∀ D C ts h tk, s₁.heap.objs.size ≤ D → D < C → Fr h₀ L h (fun q => if q = y then some (.ref D) else m q) → Kept s₁.heap h [L, z, TO, i1, i2] → h.IsListIter i2 l (k + 2) → h.get? D = some (lst (ts.map Value.ref)) → ts.length = 2 → TS yv a c C h ts 0 → Q .next { s₁ with heap := h, toks := tk }) → G) : G := by
  obtain ⟨z, TI, TO, i1, i2, l, a, c, k, ys, yv, e, za, hz, hTI, hTO, h1, h2, hl, hyv, F, hnew, fin⟩ := h
  exact K z TI TO i1 i2 l a c k ys yv e za hz hTI hTO h1 h2 hl hyv F hnew fin
theorem zipSrc {h₀ : Heap} {L : Addr} {m : Str → Option Value} {y : Str} {Q : Flow → Shared → Prop} {s₁ : Shared} {z TI TO i1 i2 : Addr} (l : Addr) {a : Int} (c : Int) (k : Nat) (ys : Array Value) (yv : Nat → Int) {p q : Value}
    (za : ZA z TI TO i1 i2 l) (hz : IsZip s₁.heap z TI TO .none) (hTI : IsPair s₁.heap TI (.ref i1) (.ref i2)) (hTO : IsPair s₁.heap TO p q) (h1 : IsRangeIter s₁.heap i1 a 2 c) (h2 : s₁.heap.IsListIter i2 l k) (hl : s₁.heap.IsList l ys)
    (hy : ∀ q < 2, ∃ t, ys[k + q]? = some (.int (yv q) t)) (F : Fr h₀ L s₁.heap m) (hn : ∀ b ∈ [z, TO, i1, i2], h₀.get? b = none ∧ b ≠ L)
    (fin : ∀ D C ts h tk, s₁.heap.objs.size ≤ D → D < C → Fr h₀ L h (fun q => if q = y then some (.ref D) else m q) → Kept s₁.heap h [L, z, TO, i1, i2] → h.IsListIter i2 l (k + 2) → h.get? D = some (lst (ts.map Value.ref)) → ts.length = 2 → TS yv a c C h ts 0 → Q .next { s₁ with heap := h, toks := tk }) :
    ZipSrc h₀ L m y Q (.ref z) s₁ := ⟨z, TI, TO, i1, i2, l, a, c, k, ys, yv, rfl, za, hz, hTI, ⟨p, q, hTO⟩, h1, h2, hl, hy, F, hn, fin⟩
theorem assign_comp_zip {s : Shared} {h₀ : Heap} {L : Addr} {m : Str → Option Value} {env : Env} {y xi xe : Str} {py px px2 tp pe pi p0 : Pos} {ke kt : Nat} {iter : Expr} {scope : Scope} {cl : List (Str × Addr)} {pos spos : Pos} {Q : Flow → Shared → Prop} (_F₀ : Fr h₀ L s.heap m) (hLe : env.locals = L)
    (hsw : swapsWith (.ListComp (.Tuple [.Name xe pe, .Name xi pi] ke p0) [⟨.Tuple [.Name xi px, .Name xe px2] kt tp, iter, [], 0⟩] scope pos) (some (.Name y py)) spos.line env = pure true)
    (hclos : closureFor scope env = pure cl) (hcell : ∀ z ∈ scope.names, z.2 ≠ .cell) (hkind : scope.kind = .function)
    (hnames : ∀ z ∈ scope.names, z.2 = .local → scope.names.lookup z.1 = some .local) (hxi : scope.names.lookup xi = some .local) (hxe : scope.names.lookup xe = some .local) (hne : xi ≠ xe) (hdi : (xi == ("__debug__" : Str)) = false) (hde : (xe == ("__debug__" : Str)) = false)
    (hy : env.kindOf y = some .local) (hp : (env.scope.kind == .class || (env.scope.kind == .module && env.locals != env.globals)) = false) (hh : A.handled = none)
    (h : wpAny (model prog w) A (eval iter env) (fun xv s₁ => ZipSrc h₀ L m y Q xv s₁) E s)
    (hs : ∀ x, foldedSetIterable iter env x = pure x := by intro _; rfl) :
    wpAny (model prog w) A (exec (.Assign [.Name y py] (.ListComp (.Tuple [.Name xe pe, .Name xi pi] ke p0) [⟨.Tuple [.Name xi px, .Name xe px2] kt tp, iter, [], 0⟩] scope pos) spos) env) Q E s := by
  subst hLe
  rw [exec_Assign_Name_used _ _ _ _ hsw]
  refine wpAny_bind (wpAny_standAt (wpAny_bind ?_))
  show wpAny _ A (do let _ ← comprehension (.ListComp (.Tuple [.Name xe pe, .Name xi pi] ke p0) [⟨.Tuple [.Name xi px, .Name xe px2] kt tp, iter, [], 0⟩] scope pos) scope env _ (newList []) false (eval iter env) (some (assign (.Name y py) env))) _ _ s
  refine wpAny_bind (wpAny_mono (wpAny_comprehension_free (use := some (assign (.Name y py) env)) (Q := fun _ s' => Q .next s') rfl hs hclos hkind hnames
    (wpAny_mono h (fun xv s₁ h₁ => ?_) fun _ _ e => e)) (fun _ s' hq => wpAny_pure (wpAny_pure hq)) fun _ _ e => e)
  refine zipSrcE h₁ fun z TI TO i1 i2 l a c k ys yv exv za hz hTI hTO h1 h2 hl hyv F hnew fin => ?_
  subst exv
  clear h₁
  refine wpAny_pyIter_zip hz ?_
  refine comp_zip hcell hkind hxi hxe hne hdi hde hh za hz hTI hTO h1 h2 hl hyv ?_
  intro D C g tk m' ts hD hDC kK k2 kD kt kS kN
  have hD' := leN hD
  have hDC' := ltN hDC
  have bL : @LT.lt Nat _ env.locals s₁.heap.objs.size := F.ns.lt
  have F' : Fr h₀ env.locals g m := kK.fr F (fun q => (hnew _ q).2 rfl) (fun b q => (hnew b q).1)
  show wpAny _ A (assign (.Name y py) env (.ref D)) _ _ _
  refine wpAny_assign_Name (wpAny_storeName_local hy F'.ns (fun g2 hn2 hs2 => ?_) hp)
  have hL0 : h₀.get? env.locals = none := Heap.get?_none_of_le F'.above
  have F2 : Fr h₀ env.locals g2 (fun q => if q = y then some (.ref D) else m q) := ⟨hn2, fun b o e => hs2.extBut b o (fun q => by rw [q, hL0] at e; cases e) (F'.keep b o e), F'.above⟩
  have hC0 : h₀.get? C = none := by
    cases e : h₀.get? C with
    | none => rfl
    | some o => exact absurd (ltN (Heap.lt_size (F.keep _ _ e))) (by omega)
  refine ⟨m', kN.sameBut hs2 (by walk_at "nat"), fun g3 hs3 => ?_⟩
  have up : ∀ b o, b ≠ env.locals → b ≠ C → g.get? b = some o → g3.get? b = some o := fun b o q1 q2 e => hs3.extBut b o q2 (hs2.extBut b o q1 e)
  refine fin D C ts g3 _ hD hDC (F2.change hs3 (by walk_at "nat") hC0) (fun b o e nb => ?_) (k2.at fun o e => up _ _ ?_ ?_ e) (up _ _ (by walk_at "nat") (by walk_at "nat") kD) kt (kS.mono fun T o hT e => let hT' : @LT.lt Nat _ C T := hT; up T o (by walk_at "nat") (by walk_at "nat") e)
  · simp only [List.mem_cons, List.not_mem_nil, or_false, not_or] at nb
    have hb : @LT.lt Nat _ b s₁.heap.objs.size := Heap.lt_size e
    exact up b o nb.1 (by walk_at "nat") (kK b o e (by simp [nb]))
  · exact (hnew i2 (by simp)).2
  · have b2 : @LT.lt Nat _ i2 s₁.heap.objs.size := by obtain ⟨_, e, _⟩ := h2; exact Heap.lt_size e
    exact neN (by omega)

noncomputable abbrev itObj (l : Addr) (k : Nat) : Obj := { cls := .type "list_iterator", data := .fields #[.ref l, .int k 0] }
theorem iter_list {s : Shared} {l : Addr} {items : Array Value} {Q : Value → Shared → Prop} (hl : s.heap.IsList l items) (h : Q (.ref s.heap.objs.size) { s with heap := s.heap.push (itObj l 0) }) :
    wpAny (model prog w) A (call (.builtin "iter") [.ref l]) Q E s := by
  refine call_function_entry (by decide +kernel) (by decide +kernel) kdk_entry_iter (kdk_args_iter _) ?_
  unfold Builtin.«iter»
  refine wpAny_bind (m := someArgs "iter" 1 2 _) (wpAny_of_eq (a := [Value.ref l]) (by first | rfl | kernel_rfl!) ?_)
  show wpAny _ _ (pyIter (.ref l) >>= _) _ _ _
  refine wpAny_bind (wpAny_pyIter_list hl ?_)
  exact wpAny_pure ⟨_, rfl, h⟩

/-- zip(range, the list's iterator) -/
theorem call_zip_rl {s : Shared} {r i2 l : Addr} {a b c : Int} {t u v : Tok} {k : Nat} {Q : Value → Shared → Prop} (hr : IsRange s.heap r a b c t u v) (hsmall : Builtin.Range.small a b c = true) (h2 : s.heap.IsListIter i2 l k)
    (h : ∀ h', IsZip h' (s.heap.objs.size + 3) (s.heap.objs.size + 1) (s.heap.objs.size + 2) .none → IsPair h' (s.heap.objs.size + 1) (.ref s.heap.objs.size) (.ref i2) →
      IsPair h' (s.heap.objs.size + 2) .none .none → IsRangeIter h' s.heap.objs.size a (Builtin.Range.rangeSize a b c) c → h'.objs.size = s.heap.objs.size + 4 →
      (∀ x o, s.heap.get? x = some o → h'.get? x = some o) → Q (.ref (s.heap.objs.size + 3)) { s with heap := h' }) :
    wpAny (model prog w) A (call (.type "zip") [.ref r, .ref i2]) Q E s := by
  refine callType_new F.called_zip (by decide) (F.typeCall_zip_2 _ _) (F.newCall_zip_2 _ _) (fun obj => F.args_object_init_3 obj _ _) F.entry_zip_new
    (zip_newM r i2 l a b c t u v k hsmall) ⟨hr, h2, ?_⟩
  have z1 : (zH1 s.heap a b c).objs.size = s.heap.objs.size + 1 := Heap.size_push ..
  have z2 : (zH2 s.heap a b c i2).objs.size = s.heap.objs.size + 2 := by rw [Heap.size_push, z1]
  have z3 : (zH3 s.heap a b c i2).objs.size = s.heap.objs.size + 3 := by rw [Heap.size_push, z2]
  have z4 : (zH4 s.heap a b c i2).objs.size = s.heap.objs.size + 4 := by rw [Heap.size_push, z3]
  have g4 : (zH4 s.heap a b c i2).get? (zH3 s.heap a b c i2).objs.size = some _ := Heap.get?_push_size _ rfl
  have g3 : (zH4 s.heap a b c i2).get? (zH2 s.heap a b c i2).objs.size = some _ := Heap.get?_push_of_some _ (Heap.get?_push_size _ rfl)
  have g2 : (zH4 s.heap a b c i2).get? (zH1 s.heap a b c).objs.size = some _ := Heap.get?_push_of_some _ (Heap.get?_push_of_some _ (Heap.get?_push_size _ rfl))
  have g1 : (zH4 s.heap a b c i2).get? s.heap.objs.size = some _ := Heap.get?_push_of_some _ (Heap.get?_push_of_some _ (Heap.get?_push_of_some _ (Heap.get?_push_size _ rfl)))
  show _ ∧ _
  rw [z1, z2, z3] at g4
  rw [z2] at g3
  rw [z1] at g2
  rw [z3]
  exact ⟨⟨_, g4, rfl⟩, h _ g4 g2 g3 g1 z4 fun x o e => Heap.get?_push_of_some _ (Heap.get?_push_of_some _ (Heap.get?_push_of_some _ (Heap.get?_push_of_some _ e)))⟩

theorem iter_listN {s : Shared} {h₀ : Heap} {L : Addr} {m : Str → Option Value} {news : List (Addr × Obj)} {l : Addr} {items : Array Value} {Q : Value → Shared → Prop} (F : Fr h₀ L s.heap m) (N : News h₀ L s.heap news) (hl : s.heap.IsList l items)
    (h : ∀ (I : Nat) h', Fr h₀ L h' m → News h₀ L h' ((I, itObj l 0) :: news) → Kept s.heap h' [] → l ≠ I → (∀ p ∈ news, p.1 ≠ I) → Q (.ref I) { s with heap := h' }) :
    wpAny (model prog w) A (call (.builtin "iter") [.ref l]) Q E s :=
  iter_list hl (h _ _ (F.push _) (N.push F _) (fun b o e _ => Heap.get?_push_of_some _ e) (by obtain ⟨_, e, _⟩ := hl; exact Nat.ne_of_lt (Heap.lt_size e)) (fun p hp => Nat.ne_of_lt (Heap.lt_size (N p hp).1)))
end
end Mine
end
-- NbSort2
section
open PySem PySem.W PySem.Calls PyProof.Rows
namespace Mine
set_option maxRecDepth 100000
set_option maxHeartbeats 2000000
section
variable {prog : Program} {w : World} {A : Around} {E : Value → Shared → Prop} {s : Shared}
theorem kind2 {x y : Addr} {u v i j : Int} {tu ti tv tj : Tok} {n k : Nat} {Q : SortKind → Shared → Prop} {M : Model} (hx : s.heap.get? x = some (tupOf u i tu ti n)) (hy : s.heap.get? y = some (tupOf v j tv tj k))
    (h : Q (tuples' true) s) : wpAny M A (keyKind' [Value.ref x, Value.ref y].toArray) Q E s := by
  refine kat_kind (fs := [.int u tu, .int v tv]) (T := .type "int") ⟨⟨x, _, _, _, rfl, hx, rfl, rfl, rfl⟩, ⟨y, _, _, _, rfl, hy, rfl, rfl, rfl⟩, trivial⟩ (Nat.zero_lt_succ _) ?_ rfl ?_
  · intro q hq
    simp only [List.mem_cons, List.not_mem_nil, or_false] at hq
    rcases hq with rfl | rfl
    · exact Looks.of_pure rfl
    · exact Looks.of_pure rfl
  · exact h
theorem lt2 {x y : Addr} {u v i j : Int} {tu ti tv tj : Tok} {n k : Nat} {Q : Bool → Shared → Prop} (hx : s.heap.get? x = some (tupOf u i tu ti n)) (hy : s.heap.get? y = some (tupOf v j tv tj k)) (hne : u ≠ v)
    (h : Q (decide (u < v)) s) : wpAny (model prog w) A (keyLt' (tuples' true) (.ref x) (.ref y)) Q E s := by
  refine kat_lt hx rfl hy rfl ?_
  refine kat_cons (wpAny_eqBool_int ?_)
  have e : (u == v) = false := by simpa using hne
  rw [e]
  refine kat_no ?_
  show wpAny _ _ (oneLt' true (Value.int u tu) (Value.int v tv)) _ _ _
  exact oneLt_int h

theorem run2 {x y : Addr} {u v i j : Int} {tu ti tv tj : Tok} {n k : Nat} {Q : SortSt → Shared → Prop} (hx : s.heap.get? x = some (tupOf u i tu ti n)) (hy : s.heap.get? y = some (tupOf v j tv tj k)) (hne : u ≠ v)
    (h : ∀ st, failedOf st = none → (arrOf st).map (·.2) = (if v < u then [Value.ref y, Value.ref x] else [Value.ref x, Value.ref y]).toArray → Q st s) :
    wpAny (model prog w) A ((sortRuns').run (SortSt.mk' (tuples' true) ([Value.ref x, Value.ref y].toArray.zip [Value.ref x, Value.ref y].toArray) #[] 7 none)) (fun r s' => Q r.2 s') E s := by
  refine kat_run (G := fun p s' => s' = s ∧ p.toList = if v < u then [1, 0] else [0, 1]) rfl (Nat.le_refl 2) (by show 2 < 64; decide) ?_ ?_
  · rintro p st' s' hp har hf ⟨rfl, hpl⟩
    refine h st' hf ?_
    rw [kat_snds rfl har, hpl]
    split <;> rfl
  · show kas_ask prog w A (tuples' true) [Value.ref x, Value.ref y] 1 0 _ s
    refine lt2 hy hx hne.symm ?_
    by_cases hc : v < u
    · rw [decide_eq_true hc, if_pos hc]
      show s = s ∧ (kas_rev (List.range 2).toArray 0 2).toList = [1, 0]
      exact ⟨rfl, by decide +kernel⟩
    · rw [decide_eq_false hc, if_neg hc]
      exact ⟨rfl, rfl⟩

theorem tsort_tree {a x y : Addr} {u v i j : Int} {tu ti tv tj : Tok} {n k m : Nat} {b : Bool} {Q : Value → Shared → Prop} (ho : s.heap.get? a = some (listOf [Value.ref x, Value.ref y].toArray m)) (hx : s.heap.get? x = some (tupOf u i tu ti n)) (hy : s.heap.get? y = some (tupOf v j tv tj k)) (hne : u ≠ v)
    (h : ∀ h' c, Kept s.heap h' [a] → h'.get? a = some (listOf (if (if b = true then u < v else v < u) then [Value.ref y, Value.ref x] else [Value.ref x, Value.ref y]).toArray c) → Q .none { s with heap := h' }) :
    wpAny (model prog w) A.in1 (Builtin.«list.sort» ⟨[.ref a], [(Str.ofString "reverse", .bool b)]⟩) (fun fin s' => ∃ v, fin = .done (.ret v) ∧ Q v s') E s := by
  have hxa : x ≠ a := fun e => by rw [e, ho] at hx; exact tup_not_list hx
  have hya : y ≠ a := fun e => by rw [e, ho] at hy; exact tup_not_list hy
  have ha : a < s.heap.objs.size := Heap.lt_size ho
  rw [list_sort_rev]
  have s1 := Heap.SameBut.update s.heap a (Obj.mapSeq fun _ => (#[] : Array Value))
  obtain ⟨e1, ho1⟩ : ∃ e1, (s.heap.update a (Obj.mapSeq fun _ => (#[] : Array Value))).get? a = some (seqObj "list" #[] e1) := ⟨_, get?_update_seq ho fun _ => #[]⟩
  refine wpAny_bind (listItems_at ho rfl ?_)
  refine wpAny_bind (listUpdate_at ho rfl ?_ (by show 2 ≤ _; rw [sizeLine_eq]; omega) (Nat.zero_le _))
  refine wpAny_bind (seqEpoch_at ho1 rfl ?_)
  refine wpAny_bind (wpAny_newTuple ?_ (by show 2 ≤ _; rw [sizeLine_eq]; omega))
  refine wpAny_bind (wpAny_newList ?_ (Nat.zero_le _))
  refine wpAny_holding ?_
  dsimp only
  generalize hH : (((s.heap.update a (Obj.mapSeq fun _ => (#[] : Array Value))).push _).push _) = H
  have up : ∀ c o, c ≠ a → s.heap.get? c = some o → H.get? c = some o := fun c o q e => by rw [← hH]; exact Heap.get?_push_of_some _ (Heap.get?_push_of_some _ (s1.extBut c o q e))
  have hoH : H.get? a = some (seqObj "list" #[] e1) := by rw [← hH]; exact Heap.get?_push_of_some _ (Heap.get?_push_of_some _ ho1)
  have step : ∀ t : Sem PySem.Fin, wpAny (model prog w) A.in1 t (fun fin s' => ∃ v, fin = .done (.ret v) ∧ Q v s') E { s with heap := H } →
      wpAny (model prog w) A.in1 (if b = true then (do let _ ← rule "list.sort.reverse"; t) else t) (fun fin s' => ∃ v, fin = .done (.ret v) ∧ Q v s') E { s with heap := H } := by
    intro t ht
    split
    · exact wpAny_bind (wpAny_rule ht)
    · exact ht
  refine step _ ?_
  have hn2 : ¬ ([Value.ref x, Value.ref y].toArray.size < 2) := by simp
  rw [if_neg hn2, if_neg hn2]
  refine wpAny_bind (kind2 (s := { s with heap := H }) (up x _ hxa hx) (up y _ hya hy) ?_)
  have hrun : wpAny (model prog w) A.in1 ((sortRuns').run (SortSt.mk' (tuples' true) (if b = true then ([Value.ref x, Value.ref y].toArray.zip [Value.ref x, Value.ref y].toArray).reverse else [Value.ref x, Value.ref y].toArray.zip [Value.ref x, Value.ref y].toArray) #[] 7 none))
      (fun r s' => s' = { s with heap := H } ∧ failedOf r.2 = none ∧ (if b = true then ((arrOf r.2).map (·.2)).reverse else (arrOf r.2).map (·.2)) = (if (if b = true then u < v else v < u) then [Value.ref y, Value.ref x] else [Value.ref x, Value.ref y]).toArray) E { s with heap := H } := by
    cases b with
    | true =>
      have e2 : ([Value.ref x, Value.ref y].toArray.zip [Value.ref x, Value.ref y].toArray).reverse = [Value.ref y, Value.ref x].toArray.zip [Value.ref y, Value.ref x].toArray := by
        apply Array.toList_inj.mp
        simp
      rw [if_pos rfl, e2]
      refine run2 (s := { s with heap := H }) (Q := fun st s' => s' = { s with heap := H } ∧ failedOf st = none ∧ (if true = true then ((arrOf st).map (·.2)).reverse else (arrOf st).map (·.2)) = (if (if true = true then u < v else v < u) then [Value.ref y, Value.ref x] else [Value.ref x, Value.ref y]).toArray) (up y _ hya hy) (up x _ hxa hx) hne.symm fun st hf he => ⟨rfl, hf, ?_⟩
      simp only [if_true]
      rw [he]
      by_cases hc : u < v
      · simp [hc]
      · simp [hc]
    | false =>
      rw [if_neg Bool.false_ne_true]
      refine run2 (s := { s with heap := H }) (Q := fun st s' => s' = { s with heap := H } ∧ failedOf st = none ∧ (if false = true then ((arrOf st).map (·.2)).reverse else (arrOf st).map (·.2)) = (if (if false = true then u < v else v < u) then [Value.ref y, Value.ref x] else [Value.ref x, Value.ref y]).toArray) (up x _ hxa hx) (up y _ hya hy) hne fun st hf he => ⟨rfl, hf, ?_⟩
      simp only [Bool.false_eq_true, if_false]
      exact he
  refine wpAny_bind (wpAny_mono hrun ?_ fun _ _ e => e)
  rintro ⟨⟨⟩, st⟩ s' ⟨rfl, hf, he⟩
  dsimp only at hf he ⊢
  generalize hout : (if (if b = true then u < v else v < u) then [Value.ref y, Value.ref x] else [Value.ref x, Value.ref y]).toArray = out at h he
  have hsz : out.size = 2 := by rw [← hout]; (repeat' split) <;> rfl
  have s2 := Heap.SameBut.update H a (Obj.mapSeq fun _ => out)
  obtain ⟨c2, hc2⟩ : ∃ c2, (H.update a (Obj.mapSeq fun _ => out)).get? a = some (seqObj "list" out c2) := ⟨_, get?_update_seq hoH fun _ => _⟩
  refine wpAny_bind (seqEpoch_at hoH rfl ?_)
  rw [he]
  refine wpAny_bind (listUpdate_at hoH rfl ?_ (Nat.zero_le _) (Nat.le_trans (Nat.le_of_eq hsz) (by rw [sizeLine_eq]; omega)))
  rw [hf]
  simp only [bne_self_eq_false, Bool.false_eq_true, if_false]
  exact wpAny_pure ⟨_, rfl, h _ c2 (fun c o nc e => s2.extBut c o (by simpa using e) (up c o (by simpa using e) nc)) hc2⟩

theorem tsort {a x y : Addr} {u v i j : Int} {tu ti tv tj : Tok} {n k m : Nat} {b : Bool} {Q : Value → Shared → Prop} (ho : s.heap.get? a = some (listOf [Value.ref x, Value.ref y].toArray m)) (hx : s.heap.get? x = some (tupOf u i tu ti n)) (hy : s.heap.get? y = some (tupOf v j tv tj k)) (hne : u ≠ v)
    (h : ∀ h' c, Kept s.heap h' [a] → h'.get? a = some (listOf (if (if b = true then u < v else v < u) then [Value.ref y, Value.ref x] else [Value.ref x, Value.ref y]).toArray c) → Q .none { s with heap := h' }) :
    wpAny (model prog w) A (call (.builtin "list.sort") [.ref a] [(Str.ofString "reverse", .bool b)]) Q E s :=
  wpAny_call_entry_kw slot_list_sort ⟨_, ho, rfl⟩ entry_list_sort (tsort_tree ho hx hy hne h) (args_list_sort_rev _ _)

theorem sort_kw0 (x : Addr) : Builtin.«list.sort» ⟨[.ref x], []⟩ = Builtin.«list.sort» ⟨[.ref x], [(Str.ofString "reverse", .bool false)]⟩ := by rfl
theorem tsort0 {a x y : Addr} {u v i j : Int} {tu ti tv tj : Tok} {n k m : Nat} {Q : Value → Shared → Prop} (ho : s.heap.get? a = some (listOf [Value.ref x, Value.ref y].toArray m)) (hx : s.heap.get? x = some (tupOf u i tu ti n)) (hy : s.heap.get? y = some (tupOf v j tv tj k)) (hne : u ≠ v)
    (h : ∀ h' c, Kept s.heap h' [a] → h'.get? a = some (listOf (if v < u then [Value.ref y, Value.ref x] else [Value.ref x, Value.ref y]).toArray c) → Q .none { s with heap := h' }) :
    wpAny (model prog w) A (call (.builtin "list.sort") [.ref a]) Q E s := by
  refine wpAny_call_entry slot_list_sort ⟨_, ho, rfl⟩ entry_list_sort ?_ (args_list_sort _)
  rw [sort_kw0]
  exact tsort_tree (b := false) ho hx hy hne (by simpa using h)

theorem callWith_kw0 {M : Model} {env : Env} {pos : Pos} {id : String} {first : List Value} {kws : List Keyword} {Q : Value → Shared → Prop}
    (h : wpAny M A (evalAll ((backToKw pos (keywordEach kws env)).map (·.2))) (fun ks s₂ => wpAny M A (call (.builtin id) first (((backToKw pos (keywordEach kws env)).filterMap (·.1)).zip ks)) Q E s₂) E s)
    (hall : (backToKw pos (keywordEach kws env)).all (·.1.isSome) = true := by rfl) (hkw : (backToKw pos (keywordEach kws env)).any (·.1.isNone) = false := by rfl) :
    wpAny M A (callWith pos (.builtin id) first (backTo pos (starEach [] env)) (backToKw pos (keywordEach kws env))) Q E s :=
  callWith_builtin_kwB rfl hkw (evalArgs_kw2_nil hall (wpAny_mono h (fun ks s₂ q => by rw [List.append_nil]; exact q) fun _ _ e => e))
end
end Mine
end
section
open PySem PySem.W PySem.Calls PyProof.Rows
open Mine
local macro_rules | `(tactic| walk_at "callWith builtin:list.sort") => `(tactic| (refine callWith_kw0 ?_))
local macro_rules | `(tactic| walk_at "callWith") => `(tactic| (with_reducible refine callWith_kw0 ?_))
local macro_rules | `(tactic| walk_at "exec Try") => `(tactic| (refine try_calm ?_; (try dsimp only); (try k_fold)))
local macro_rules | `(tactic| walk_at "compareOp Lt ref ref") => `(tactic| refine tup_lt (Fr.keep (by assumption) _ _ (by assumption)) (Fr.keep (by assumption) _ _ (by assumption)) (by assumption) (by dsimp only [ktrTop]; first | exact room64 (by assumption) (by decide) | omega) ?_)
local macro_rules | `(tactic| walk_at $s:str) => if ["call builtin:list.sort", "exec For Name Name cons nil", "call builtin:sorted", "call builtin:iter", "exec Assign cons ListComp", "call type:zip", "call ref"].contains s.getString then `(tactic| refine stop ?_) else Lean.Macro.throwUnsupported
-- NbNl
section
open PySem PySem.W PySem.Calls PyProof.Rows
namespace Mine
theorem reset_NbNl : True := by
  w_top off
  trivial
set_option maxRecDepth 100000
set_option maxHeartbeats 8000000
variable {w : World} {p : Program} {loose : List Str} {mean : ExcName → Option Value} {mg mb : Str → Option Value} {dp un : Nat} {gd : Option (List Code)} {cn : Str} {cs : Scope} {a : Addr} {ccd : Value} {cl : List (Str × Addr)} {outer : List Env} {A₀ : Around} {base h₀ : Heap} {L : Addr} {m : Str → Option Value} {s : Shared} {Q E : Value → Shared → Prop}

theorem nd_ne {ns : List Int} (h : ns.Nodup) {i j : Nat} (hi : i < ns.length) (hj : j < ns.length) (hij : i ≠ j) : ns.getD i 0 ≠ ns.getD j 0 := by
  have e1 : ns.getD i 0 = ns[i] := by simp [hi]
  have e2 : ns.getD j 0 = ns[j] := by simp [hj]
  rw [e1, e2]
  rcases Nat.lt_or_gt_of_ne hij with q | q
  · exact List.pairwise_iff_getElem.mp h i j hi hj q
  · exact (List.pairwise_iff_getElem.mp h j i hj hi q).symm
theorem tups_off {g h : Heap} {L D T0 T1 I C : Addr} {vs : Array Value} {n : Nat} {x0 i0 x1 i1 : Int} {a0 b0 a1 b1 : Tok} {k0 k1 : Nat} {oI oC : Obj} (N : News g L h [(D, listOf vs n), (T0, tupOf x0 i0 a0 b0 k0), (T1, tupOf x1 i1 a1 b1 k1), (I, oI), (C, oC)])
    (hI : oI.cls = .type "list_iterator") (hC : C ≠ D) : ∀ p ∈ [(T0, tupOf x0 i0 a0 b0 k0), (T1, tupOf x1 i1 a1 b1 k1), (I, oI), (C, oC)], p.1 ≠ D := by
  have hD := N.get (.head _)
  intro p hp e
  simp only [List.mem_cons, List.not_mem_nil, or_false] at hp
  rcases hp with rfl | rfl | rfl | rfl
  · have q := N.get (.tail _ (.head _)); rw [show T0 = D from e, hD] at q; exact tup_not_list q
  · have q := N.get (.tail _ (.tail _ (.head _))); rw [show T1 = D from e, hD] at q; exact tup_not_list q
  · have q := N.get (.tail _ (.tail _ (.tail _ (.head _)))); rw [show I = D from e, hD] at q; cases q; simp at hI
  · exact hC e

theorem take_two {ns : List Int} (h : 2 < ns.length) : ns.take (2 + 0) = [ns.getD 0 0, ns.getD (0 + 1) 0] := by
  match ns, h with
  | a :: b :: r, _ => rfl
theorem pair_of {g h : Heap} {L D T0 T1 : Addr} {n : Nat} {x0 i0 x1 i1 : Int} {a0 b0 a1 b1 : Tok} {rest : List (Addr × Obj)} {c : Prop} [Decidable c]
    (N : News g L h ((D, listOf (if c then [Value.ref T0, Value.ref T1] else [Value.ref T1, Value.ref T0]).toArray n) :: (T0, tupOf x0 i0 a0 b0 0) :: (T1, tupOf x1 i1 a1 b1 0) :: rest)) :
    ∃ U V u v iu iv tu tiu tv tiv, News g L h ((D, listOf [Value.ref U, Value.ref V].toArray n) :: (U, tupOf u iu tu tiu 0) :: (V, tupOf v iv tv tiv 0) :: rest) ∧ ((c ∧ U = T0 ∧ V = T1 ∧ u = x0 ∧ v = x1) ∨ (¬ c ∧ U = T1 ∧ V = T0 ∧ u = x1 ∧ v = x0)) := by
  by_cases hc : c
  · rw [if_pos hc] at N
    exact ⟨T0, T1, x0, x1, i0, i1, a0, b0, a1, b1, N, .inl ⟨hc, rfl, rfl, rfl, rfl⟩⟩
  · rw [if_neg hc] at N
    refine ⟨T1, T0, x1, x0, i1, i0, a1, b1, a0, b0, fun p hp => N p ?_, .inr ⟨hc, rfl, rfl, rfl, rfl⟩⟩
    rcases List.mem_cons.mp hp with h | hp
    · rw [h]; exact .head _
    · rcases List.mem_cons.mp hp with h | hp
      · rw [h]; exact .tail _ (.tail _ (.head _))
      · rcases List.mem_cons.mp hp with h | hp
        · rw [h]; exact .tail _ (.head _)
        · exact .tail _ (.tail _ (.tail _ hp))
theorem nd_take {ns : List Int} (hnd : ns.Nodup) {k : Nat} (hk : k + 2 < ns.length) {x : Int} (hx : x ∈ ns.take (2 + k)) : ns[k + 2] ≠ x := by
  obtain ⟨i, hi, e⟩ := List.getElem_of_mem hx
  rw [List.length_take] at hi
  have e2 : ns[i] = x := by rw [← e, List.getElem_take]
  rw [← e2]
  exact (List.pairwise_iff_getElem.mp hnd i (k + 2) (by omega) hk (by omega)).symm
theorem take_more {ns : List Int} {k : Nat} (hk : k + 2 < ns.length) : ns.take (2 + (k + 1)) = ns.take (2 + k) ++ [ns[k + 2]] := by
  rw [show 2 + (k + 1) = (k + 2) + 1 by omega, show 2 + k = k + 2 by omega, List.take_add_one, List.getElem?_eq_getElem hk]; rfl
theorem perm_more {u v e : Int} {rest t : List Int} (h : (u :: v :: rest).Perm t) : (u :: v :: e :: rest).Perm (t ++ [e]) := by
  refine List.Perm.trans ?_ (h.append_right [e])
  refine List.Perm.cons _ (List.Perm.cons _ ?_)
  exact (List.perm_append_singleton e rest).symm
theorem perm_rep {u v e : Int} {rest t : List Int} (h : (u :: v :: rest).Perm t) : (e :: v :: u :: rest).Perm (t ++ [e]) := by
  refine List.Perm.trans ?_ (h.append_right [e])
  refine List.Perm.trans (List.perm_append_singleton e (v :: u :: rest)).symm ?_
  exact (List.Perm.swap _ _ _).append_right [e]
theorem tup_ne_iter {h : Heap} {W I : Addr} {x i : Int} {a b : Tok} {k : Nat} {o : Obj} (hW : h.get? W = some (tupOf x i a b k)) (hI : h.get? I = some o) (hc : o.cls = .type "list_iterator") : W ≠ I := fun e => by
  rw [e, hI] at hW; cases hW; simp at hc
theorem rep_news {g h h8 : Heap} {L D W U V I C : Addr} {o9 oU oC : Obj} {vsU : Array Value} {e ord v iv : Int} {te tord tv tiv : Tok} {c : Prop} [Decidable c]
    (eN : News g L h [(W, tupOf e ord te tord 0), (I, o9), (D, listOf vsU 2), (U, oU), (V, tupOf v iv tv tiv 0), (C, oC)]) (hK8 : Kept h h8 [D])
    (hG8 : h8.get? D = some (listOf (if c then [Value.ref W, Value.ref V] else [Value.ref V, Value.ref W]).toArray 2)) (hDI : D ≠ I) (hC : C ≠ D) :
    News g L h8 ((D, listOf (if c then [Value.ref W, Value.ref V] else [Value.ref V, Value.ref W]).toArray 2) :: (W, tupOf e ord te tord 0) :: (V, tupOf v iv tv tiv 0) :: [(I, o9), (C, oC)]) := by
  have gD := eN.get (.tail _ (.tail _ (.head _)))
  have hWD : W ≠ D := fun e => by have q := eN.get (.head _); rw [e, gD] at q; exact tup_not_list q
  have hVD : V ≠ D := fun e => by have q := eN.get (.tail _ (.tail _ (.tail _ (.tail _ (.head _))))); rw [e, gD] at q; exact tup_not_list q
  intro p hp
  simp only [List.mem_cons, List.not_mem_nil, or_false] at hp
  rcases hp with rfl | rfl | rfl | rfl | rfl
  · exact ⟨hG8, (eN _ (.tail _ (.tail _ (.head _)))).2⟩
  · exact ⟨hK8 _ _ (eN.get (.head _)) (by simpa using hWD), (eN _ (.head _)).2⟩
  · exact ⟨hK8 _ _ (eN.get (.tail _ (.tail _ (.tail _ (.tail _ (.head _)))))) (by simpa using hVD), (eN _ (.tail _ (.tail _ (.tail _ (.tail _ (.head _)))))).2⟩
  · exact ⟨hK8 _ _ (eN.get (.tail _ (.head _))) (by simpa using hDI.symm), (eN _ (.tail _ (.head _))).2⟩
  · exact ⟨hK8 _ _ (eN.get (.tail _ (.tail _ (.tail _ (.tail _ (.tail _ (.head _))))))) (by simpa using hC), (eN _ (.tail _ (.tail _ (.tail _ (.tail _ (.tail _ (.head _))))))).2⟩
theorem lt_of_not {a b : Int} (h : a ≠ b) (q : ¬ a < b) : b < a := by omega
/-- out: the two foremost of ns (all, if there are no more), in order; b: the greatest first -/
noncomputable def Top2 (b : Bool) (ns out : List Int) : Prop := out.length = min 2 ns.length ∧ ∃ rest, (out ++ rest).Perm ns ∧ Ordered b out ∧ ∀ x ∈ out, ∀ y ∈ rest, if b = true then y ≤ x else x ≤ y
theorem top2_all {b : Bool} {ns ns9 : List Int} (hp : ns9.Perm ns) (ho : Ordered b ns9) (hl : ns.length ≤ 2) : Top2 b ns (ns9.take 2) := by
  have e := hp.length_eq
  have e2 : ns9.take 2 = ns9 := List.take_of_length_le (by omega)
  rw [e2]
  exact ⟨by omega, [], by simpa using hp, ho, fun _ _ _ h => nomatch h⟩
theorem top2_desc {u v : Int} {ns rest t : List Int} (hlt : u < v) (hp : (u :: v :: rest).Perm t) (ht : t = ns) (hr : ∀ y ∈ rest, y ≤ u) : Top2 true ns [v, u] := by
  subst ht
  have e := hp.length_eq
  simp only [List.length_cons] at e
  refine ⟨by simp only [List.length_cons, List.length_nil]; omega, rest, (List.Perm.swap u v rest).trans hp, ?_, ?_⟩
  · show [v, u].Pairwise (· ≥ ·)
    simp only [List.pairwise_cons, List.mem_singleton, forall_eq, List.not_mem_nil, false_implies, implies_true, List.Pairwise.nil, and_true]
    omega
  · intro x hx y hy
    have := hr y hy
    simp only [List.mem_cons, List.not_mem_nil, or_false] at hx
    simp only [if_true]
    rcases hx with rfl | rfl <;> omega
theorem fresh_of {h g : Heap} {r : Addr} (k : Kept h g []) (e : g.get? r = none) : h.get? r = none := by
  cases q : h.get? r with
  | none => rfl
  | some o => have := k r o q (by simp); rw [e] at this; cases this
structure NS where
  (U V : Addr) (u v iu iv : Int) (tu tiu tv tiv : Tok) (ord : Int) (tord : Tok)

theorem za_mk {S i2 l : Addr} (hl : @LT.lt Nat _ l S) (hi : @LT.lt Nat _ i2 S) (hne : @Ne Nat l i2) : ZA (S + 3) (S + 1) (S + 2) S i2 l :=
  ⟨neN (by omega), neN (by omega), neN (by omega), neN (by omega), neN (by omega), neN (by omega), neN (by omega), neN (by omega), neN (by omega), neN (by omega), neN (by omega), neN (by omega), neN (by omega), neN (by omega)⟩
theorem pair_elim {G : Prop} {g h : Heap} {L D T0 T1 : Addr} {n : Nat} {x0 i0 x1 i1 : Int} {a0 b0 a1 b1 : Tok} {rest : List (Addr × Obj)} {c : Prop} [Decidable c]
    (N : News g L h ((D, listOf (if c then [Value.ref T0, Value.ref T1] else [Value.ref T1, Value.ref T0]).toArray n) :: (T0, tupOf x0 i0 a0 b0 0) :: (T1, tupOf x1 i1 a1 b1 0) :: rest))
    (k : ∀ U V u v iu iv tu tiu tv tiv, News g L h ((D, listOf [Value.ref U, Value.ref V].toArray n) :: (U, tupOf u iu tu tiu 0) :: (V, tupOf v iv tv tiv 0) :: rest) → ((c ∧ U = T0 ∧ V = T1 ∧ u = x0 ∧ v = x1) ∨ (¬ c ∧ U = T1 ∧ V = T0 ∧ u = x1 ∧ v = x0)) → G) : G := by
  obtain ⟨U, V, u, v, iu, iv, tu, tiu, tv, tiv, N8, hor⟩ := pair_of N
  exact k U V u v iu iv tu tiu tv tiv N8 hor
theorem lt_sub {k n : Nat} (h : k < n - 2) : k + 2 < n := by omega
theorem nlargest_int {l : Addr} {vs : List Value} {ns : List Int} {n : Nat} {t1 : Tok} (C : Cx w p loose mean mg mb dp un cs outer A₀ base h₀ L m s.heap 8) (hl : s.heap.get? l = some (listOf vs.toArray n))
    (hi : IntsAre vs ns) (hlen : ns.length < 60) (hnd : ns.Nodup)
    (ret : ∀ r vs' out n' h' tk', IntsAre vs' out → Top2 true ns out → Kept s.heap h' [] → s.heap.get? r = none → h'.get? r = some (listOf vs'.toArray n') → Q (.ref r) {s with heap := h', toks := tk'}) :
    wpAny (model Challenge.rw_nb0005_01.row.prog w) (ktrTop dp un gd cn cs L a ccd cl outer) (call (.ref 96) [.int 2 t1, .ref l]) Q E s := by
  obtain ⟨B, F, X, T, hk, hdp, hun⟩ := C
  have hvl := hi.length
  refine enterC (binds := [(Str.ofString "n", .int 2 t1), (Str.ofString "iterable", .ref l), (Str.ofString "key", .none)]) (tch := []) B F X (fun _ h => nomatch h) T hk (by k_dflt k_is) (by k_dflt k_is) (room0 hdp) (binds_K (X.keeps F.keep) rfl (by k_dflt k_is) rfl rfl rfl) rfl (by decide +kernel) rfl rfl rfl ?_
  clear F B X T
  intro g L' h₁ tk cells hg F N Y B X T
  k_cells Y
  rename Obj => oCl
  simp only [List.cons_append, List.nil_append] at N
  (try dsimp only); (try k_fold)
  have hgl : g.IsList l vs.toArray := ⟨_, hg l _ hl (by simp), rfl, n, rfl⟩
  k_steps
  · refine Stop.go ?_
    (rename Fr _ _ _ _ => eF); (rename News _ _ _ _ => eN)
    refine sorted_kw (args_sorted_k2 _ _) (fun _ => args_sort_k2 _ _) (fun x => sort_kw2 x _) eF eN (hgl.at fun o e => eF.keep l o e) hi (by omega) ?_
    intro D h9 vs9 ns9 e9 F9 N9 hlt9 hI9 hp9 ho9
    clear eF eN hi
    have hl9 := hp9.length_eq
    dsimp only
    k_steps
    (rename Fr _ _ _ _ => eF); (rename News _ _ _ _ => eN); (rename IntsAre _ (List.take 2 ns9) => eI)
    exact ret _ _ _ _ _ _ eI (top2_all hp9 ho9 (by omega)) (fun b o e n => eF.keep b o (hg b o e (by simp))) (fresh_of hg (eN _ (.head _)).2.2) (eN.get (.head _))
  · refine Stop.go ?_
    (rename Fr _ _ _ _ => eF); (rename News _ _ _ _ => eN)
    have hn3 : 2 < ns.length := by omega
    refine iter_listN eF eN (hgl.at fun o e => eF.keep l o e) ?_
    intro I h3 eF2 eN2 _ hlI hcI0
    have hcne := neN (hcI0 _ (.head _))
    clear hcI0
    dsimp only at hcne
    clear eF eN
    dsimp only
    k_steps
    refine Stop.go ?_
    (rename Fr _ _ _ _ => eF); (rename News _ _ _ _ => eN)
    refine assign_comp_zip eF rfl (by with_unfolding_all rfl) (by with_unfolding_all rfl) (by decide) rfl (by decide) (by rfl) (by rfl) (by decide) (by decide) (by decide) (by rfl) (by rfl) rfl ?_
    try clear eF2 eN2
    k_fold
    k_steps
    refine Stop.go ?_
    (rename IsRange _ _ _ _ _ _ _ _ => hR); (rename Fr _ _ _ _ => eF); (rename News _ _ _ _ => eN)
    refine call_zip_rl (l := l) (k := 0) hR (by decide) ⟨_, eN.get (.head _), rfl, rfl⟩ ?_
    intro f1 fz fTI fTO f1r fsz fk
    dsimp only at fz fTI fTO f1r fsz fk ⊢
    have hit := eN.get (.head _)
    have hill := ltN (Heap.lt_size hit)
    have hll := ltN (Heap.lt_size (eF.keep l _ (hg l _ hl (by simp))))
    have hLl := ltN eF.ns.lt
    have hgs : ∀ b : Nat, g.objs.size ≤ b → g.get? b = none := fun b hb => Heap.get?_none_of_le hb
    have hgL := leN eF.above
    have hIL := (eN _ (.head _)).2.1
    have hIg := (eN _ (.head _)).2.2
    have hcell := eN _ (.tail _ (.head _))
    dsimp only at hcell
    have hcl := ltN (Heap.lt_size hcell.1)
    have hlI' := neN hlI
    have hIL' := neN hIL
    refine zipSrc l (-1) 0 vs.toArray (fun q => ns.getD q 0) ?za fz fTI fTO f1r ⟨_, fk _ _ hit, rfl, rfl⟩ ((hgl.at fun o e => eF.keep l o e).at fun o e => fk _ _ e) ?hy (eF.keeps fk) ?hnew ?fin
    case za => exact za_mk hll hill hlI'
    case hy =>
      intro q hq
      obtain ⟨t, ht⟩ := ints_at hi q (by omega)
      refine ⟨t, ?_⟩
      have e2 : ns.getD q 0 = ns[q] := by simp [show q < ns.length by omega]
      show vs.toArray[0 + q]? = some (Value.int (ns.getD q 0) t)
      rw [e2, Nat.zero_add]
      simpa using ht
    case hnew =>
      intro b hb
      simp only [List.mem_cons, List.not_mem_nil, or_false] at hb
      rcases hb with rfl | rfl | rfl | rfl
      · exact ⟨hgs _ (by omega), neN (by omega)⟩
      · exact ⟨hgs _ (by omega), neN (by omega)⟩
      · exact ⟨hgs _ (by omega), neN (by omega)⟩
      · exact ⟨hIg, hIL⟩
    case fin =>
      intro D C ts h7 tk7 hD hDC F7 kK k2 kD kt kS
      obtain ⟨T0, T1, rfl⟩ : ∃ T0 T1, ts = [T0, T1] := by
        match ts, kt with
        | [a, b], _ => exact ⟨a, b, rfl⟩
      obtain ⟨⟨ty0, ti0, kT0⟩, hT0, ⟨ty1, ti1, kT1⟩, hT1, _⟩ := kS
      have kC := kK _ _ (fk _ _ hcell.1) (by
        have hc1 := neN hcell.2.1
        simp only [List.mem_cons, List.not_mem_nil, or_false, not_or]
        exact ⟨hcell.2.1, neN (by omega), neN (by omega), neN (by omega), hcne⟩)
      have hD' : @LE.le Nat _ f1.objs.size D := hD
      have hDC' := ltN hDC
      have hT0' := ltN hT0
      have hT1' := ltN hT1
      obtain ⟨oI, hoI, hcI, hdI⟩ := k2
      have N7 : News g L' h7 [(D, listOf [Value.ref T0, Value.ref T1].toArray 2), (T0, tupOf (ns.getD 0 0) (0 + (0 : Nat) * -1) ty0 ti0 0), (T1, tupOf (ns.getD (0 + 1) 0) (0 + (0 + 1 : Nat) * -1) ty1 ti1 0), (I, oI), (L' + 1, oCl)] := by
        have big : ∀ x : Nat, D ≤ x → x ≠ L' ∧ g.objs.size ≤ x := by
          clear hvl hlen hn3 hIL' hill hll hlI' hcne
          intro x hx; omega
        have bD := big D (Nat.le_refl _)
        have b0 := big T0 (Nat.le_of_lt (Nat.lt_trans hDC' hT0'))
        have b1 := big T1 (Nat.le_of_lt (Nat.lt_trans hDC' hT1'))
        exact List.forall_mem_cons.mpr ⟨⟨kD, bD.1, hgs D bD.2⟩, List.forall_mem_cons.mpr ⟨⟨kT0, b0.1, hgs T0 b0.2⟩, List.forall_mem_cons.mpr ⟨⟨kT1, b1.1, hgs T1 b1.2⟩, List.forall_mem_cons.mpr ⟨⟨hoI, hIL, hIg⟩, List.forall_mem_cons.mpr ⟨⟨kC, hcell.2⟩, List.forall_mem_nil _⟩⟩⟩⟩⟩
      clear eF eN hR fz fTI fTO f1r
      dsimp only
      k_steps
      refine Stop.go ?_
      (rename Fr _ _ _ _ => eF); (rename News _ _ _ _ => eN)
      have h01 : ns.getD 0 0 ≠ ns.getD (0 + 1) 0 := nd_ne hnd (by omega) (by omega) (by omega)
      refine heapify_tup ⟨B, eF, X, T, rfl, room1 hdp (by decide), room3 hun (by decide)⟩ (News.one eN (.head _)) (eN.get (.tail _ (.head _))) (eN.get (.tail _ (.tail _ (.head _)))) h01 ?_
      intro h8 tk8 hK8 hG8
      have oD := tups_off eN hcI (show @Ne Nat (L' + 1) D by omega)
      have eF8 := hK8.fr1 eF eN
      have eN8 := hK8.news1 eN oD hG8
      refine pair_elim eN8 fun U V u v iu iv tu tiu tv tiv N8 hor => ?_
      have huv : u < v := by rcases hor with ⟨q, _, _, rfl, rfl⟩ | ⟨q, _, _, rfl, rfl⟩ <;> omega
      have hperm : [u, v].Perm [ns.getD 0 0, ns.getD (0 + 1) 0] := by
        rcases hor with ⟨q, _, _, rfl, rfl⟩ | ⟨q, _, _, rfl, rfl⟩
        · exact List.Perm.refl _
        · exact List.Perm.swap _ _ _
      clear eF eN eN8 hG8
      try clear F7
      try clear N7
      dsimp only
      k_steps
      refine Stop.go ?_
      (rename Fr _ _ _ _ => eF); (rename News _ _ _ _ => eN)
      refine For_invV g rfl rfl ?_ (by intro _; rfl) PassesOwn.never
      k_dflt (refine nameX_L eF (by rfl) ?_)
      have eL := hgl.at fun o e => eF.keep l o e
      refine wpAny_pyIter_listiter (l := l) (i := 2) ⟨oI, eN.get (.tail _ (.tail _ (.tail _ (.head _)))), hcI, hdI⟩ ?_
      have hDI : D ≠ I := fun e => by have q := eN.get (.head _); rw [show (D : Addr) = I from e, eN.get (.tail _ (.tail _ (.tail _ (.head _))))] at q; cases q; simp at hcI
      have hUI : U ≠ I := fun e => by have q := eN.get (.tail _ (.head _)); rw [e, eN.get (.tail _ (.tail _ (.tail _ (.head _))))] at q; cases q; simp at hcI
      have hVI : V ≠ I := fun e => by have q := eN.get (.tail _ (.tail _ (.head _))); rw [e, eN.get (.tail _ (.tail _ (.tail _ (.head _))))] at q; cases q; simp at hcI
      have hvsz : vs.toArray.size = ns.length := by rw [List.size_toArray]; exact hvl
      refine' for_gen (σ := NS) (walks_shift (Walks.list rfl I l hlI vs.toArray) 2 (by omega)) (fun c => [(D, listOf [Value.ref c.U, Value.ref c.V].toArray 2), (c.U, tupOf c.u c.iu c.tu c.tiu 0), (c.V, tupOf c.v c.iv c.tv c.tiv 0), (L' + 1, oCl)])
        (fun c => [(Str.ofString "top", .int c.u c.tu), (Str.ofString "order", .int c.ord c.tord)]) [Str.ofString "_order"] (fun k c => c.u < c.v ∧ (∃ rest, (c.u :: c.v :: rest).Perm (ns.take (2 + k)) ∧ ∀ y ∈ rest, y ≤ c.u) ∧ c.U ≠ I ∧ c.V ≠ I) ⟨U, V, u, v, iu, iv, tu, tiu, tv, tiv, _, _⟩
        (.head _) ?g1 hIg ?g2 ?g3 ⟨⟨oI, eN.get (.tail _ (.tail _ (.tail _ (.head _)))), hcI, hdI⟩, eL⟩ ?g4 eF ?g5 ?g6 ?g7 ?g8 ?g9
      case g6 => exact List.forall_mem_cons.mpr ⟨by rfl, List.forall_mem_cons.mpr ⟨by rfl, List.forall_mem_nil _⟩⟩
      case g1 =>
        intro q
        simp only [List.mem_cons, List.not_mem_nil, or_false] at q
        rcases q with q | q
        · exact hIL q.symm
        · exact absurd (ltN (Heap.lt_size (hg l _ hl (by simp)))) (by have q' : @Eq Nat L' l := q; omega)
      case g2 =>
        intro b hb
        simp only [List.mem_cons, List.not_mem_nil, or_false] at hb
        rcases hb with rfl | rfl
        · exact .inl rfl
        · exact .inr (.inl ⟨_, hg _ _ hl (by simp)⟩)
      case g3 =>
        exact fun i c h => List.forall_mem_cons.mpr ⟨hDI, List.forall_mem_cons.mpr ⟨h.2.2.1, List.forall_mem_cons.mpr ⟨h.2.2.2, List.forall_mem_cons.mpr ⟨hcne, List.forall_mem_nil _⟩⟩⟩⟩
      case g4 => rintro i h ⟨⟨o, ho, _⟩, _⟩; exact ⟨o, ho⟩
      case g5 =>
        exact News.less eN (by lcg_sub)
      case g7 =>
        refine ⟨huv, ⟨[], ?_, fun _ h => nomatch h⟩, hUI, hVI⟩
        rw [take_two hn3]; exact hperm
      case g8 =>
        clear eF eN eL
        rintro k vv ⟨U, V, u, v, iu, iv, tu, tiu, tv, tiv, ord, tord⟩ u9 h9 tk9 o9 hk9 hv9 hP hst9 F9 N9
        have hlt := hP.1
        have hU9 := hP.2.2.1
        have hV9 := hP.2.2.2
        have hex := hP.2.1
        clear hP
        have hc9 : o9.cls = .type "list_iterator" := by
          obtain ⟨⟨o, ho, hc, _⟩, _⟩ := hst9
          rw [N9.get (.head _)] at ho; cases ho; exact hc
        clear hst9
        dsimp only at hlt hex hU9 hV9 F9 N9 hv9 ⊢
        have hk2 : k + 2 < ns.length := lt_sub (by rw [← hvsz]; exact hk9)
        obtain ⟨te, hte⟩ := ints_at hi (k + 2) hk2
        obtain rfl : vv = .int ns[k + 2] te := by
          have e : vs[k + 2]? = some vv := by simpa using hv9
          exact Option.some.inj (e.symm.trans hte)
        refine gen_post fun FP hFP => ?_
        try k_fold
        k_steps
        · refine Stop.go ?_
          (rename Fr _ _ _ _ => eF); (rename News _ _ _ _ => eN)
          have hvm : v ∈ ns.take (2 + k) := by obtain ⟨rest, hp9, _⟩ := hex; exact hp9.mem_iff.mp (.tail _ (.head _))
          have hev := nd_take hnd (k := k) hk2 hvm
          refine heapreplace_tup (x := ns[k + 2]) (y := v) (v := V) (l := D) ⟨B, eF, X, T, rfl, room1 hdp (by decide), room3 hun (by decide)⟩ (News.one eN (by k_mem)) (eN.get (.head _)) (eN.get (by k_mem)) hev ?_
          intro h8 tk8 hK8 hG8
          have eF8 := hK8.frOf eF eN (by k_mem : (D, _) ∈ _)
          have hWI := tup_ne_iter (eN.get (.head _)) (eN.get (.tail _ (.head _))) hc9
          have eN8 := rep_news eN hK8 hG8 hDI (show @Ne Nat (L' + 1) D by omega)
          refine pair_elim eN8 fun U2 V2 u2 v2 iu2 iv2 tu2 tiu2 tv2 tiv2 N8 hor => ?_
          clear eF eN eN8 hG8
          dsimp only
          k_steps
          (rename Fr _ _ _ _ => eF); (rename News _ _ _ _ => eN)
          refine hFP _ _ ?_
          dsimp only [ForPost]
          refine' for_end ⟨U2, V2, u2, v2, iu2, iv2, tu2, tiu2, tv2, tiv2, _, _⟩ eF eN ?e1 ?e2 ?e3 ?e4
          case e2 => exact List.forall_mem_cons.mpr ⟨by rfl, List.forall_mem_cons.mpr ⟨by rfl, List.forall_mem_nil _⟩⟩
          case e1 =>
            dsimp only
            lcg_sub
          case e3 => (intro z h1 h2 h3; (simp only [List.forall_mem_cons, List.not_mem_nil, false_implies, implies_true, and_true, ne_eq] at h2); (simp only [List.contains_cons, List.contains_nil, Bool.or_false, Bool.or_eq_false_iff, beq_eq_false_iff_ne, ne_eq] at h3); simp [kstB, h1, h2, h3])
          case e4 =>
            obtain ⟨rest, hp9, hr9⟩ := hex
            have hum : u ∈ ns.take (2 + k) := hp9.mem_iff.mp (.head _)
            rename u < _ => hue
            rcases hor with ⟨q, rfl, rfl, rfl, rfl⟩ | ⟨q, rfl, rfl, rfl, rfl⟩
            · refine ⟨q, ⟨u :: rest, ?_, ?_⟩, hWI, hV9⟩
              · rw [take_more hk2]; exact perm_rep hp9
              · intro y hy
                rcases List.mem_cons.mp hy with h | hy
                · rw [h]; exact Int.le_of_lt hue
                · exact Int.le_trans (hr9 y hy) (Int.le_of_lt hue)
            · refine ⟨lt_of_not (fun h => hev h) q, ⟨u :: rest, ?_, ?_⟩, hV9, hWI⟩
              · rw [take_more hk2]; exact (List.Perm.swap _ _ _).trans (perm_rep hp9)
              · intro y hy
                rcases List.mem_cons.mp hy with h | hy
                · rw [h]; exact Int.le_of_lt hlt
                · exact Int.le_trans (hr9 y hy) (Int.le_of_lt hlt)
        · refine hFP _ _ ?_
          dsimp only [ForPost]
          refine for_end ⟨U, V, u, v, iu, iv, tu, tiu, tv, tiv, ord, tord⟩ F9 N9 (fun _ h => h) (List.forall_mem_cons.mpr ⟨by rfl, List.forall_mem_cons.mpr ⟨by rfl, List.forall_mem_nil _⟩⟩) ?_ ?_
          · (intro z h1 h2 h3; (simp only [List.forall_mem_cons, List.not_mem_nil, false_implies, implies_true, and_true, ne_eq] at h2); (simp only [List.contains_cons, List.contains_nil, Bool.or_false, Bool.or_eq_false_iff, beq_eq_false_iff_ne, ne_eq] at h3); simp [kstB, h1, h2, h3])
          · obtain ⟨rest, hp9, hr9⟩ := hex
            refine ⟨hlt, ⟨ns[k + 2] :: rest, ?_, ?_⟩, hU9, hV9⟩
            · rw [take_more hk2]
              exact perm_more hp9
            · intro y hy
              rcases List.mem_cons.mp hy with h | hy
              · rw [h]; rename ¬ (_ < _) => hnl; exact Int.not_lt.mp hnl
              · exact hr9 y hy
      case g9 =>
        clear eF eN eL
        rintro ⟨U, V, u, v, iu, iv, tu, tiu, tv, tiv, ord, tord⟩ u9 h9 tk9 hP F9 N9
        have hlt := hP.1
        have hex := hP.2.1
        clear hP
        dsimp only at hlt hex F9 N9 ⊢
        k_steps
        refine Stop.go ?_
        (rename Fr _ _ _ _ => eF); (rename News _ _ _ _ => eN)
        refine tsort (eN.get (.head _)) (eN.get (.tail _ (.head _))) (eN.get (.tail _ (.tail _ (.head _)))) (by omega) ?_
        intro h8 c8 hK8 hG8
        simp only [if_true, if_pos hlt] at hG8
        dsimp only at hK8
        have eF8 := hK8.frOf eF eN (.head _)
        have gD := eN.get (.head _)
        have hUD : U ≠ D := fun e => by have q := eN.get (.tail _ (.head _)); rw [e, gD] at q; exact tup_not_list q
        have hVD : V ≠ D := fun e => by have q := eN.get (.tail _ (.tail _ (.head _))); rw [e, gD] at q; exact tup_not_list q
        have eN8 : News g L' h8 [(D, listOf [Value.ref V, Value.ref U].toArray c8), (U, tupOf u iu tu tiu 0), (V, tupOf v iv tv tiv 0)] := by
          exact List.forall_mem_cons.mpr ⟨⟨hG8, (eN _ (.head _)).2⟩, List.forall_mem_cons.mpr ⟨⟨hK8 _ _ (eN.get (.tail _ (.head _))) (fun q => hUD (List.mem_singleton.mp q)), (eN _ (.tail _ (.head _))).2⟩,
            List.forall_mem_cons.mpr ⟨⟨hK8 _ _ (eN.get (.tail _ (.tail _ (.head _)))) (fun q => hVD (List.mem_singleton.mp q)), (eN _ (.tail _ (.tail _ (.head _)))).2⟩, List.forall_mem_nil _⟩⟩⟩
        clear eF eN hG8
        dsimp only
        k_steps
        (rename Fr _ _ _ _ => eF); (rename News _ _ _ _ => eN)
        obtain ⟨rest, hp9, hr9⟩ := hex
        exact ret _ _ _ _ _ _ (.cons v tv (.cons u tu .nil)) (top2_desc hlt hp9 (List.take_of_length_le (by omega)) hr9) (fun b o e n => eF.keep b o (hg b o e (by simp))) (fresh_of hg (eN _ (.head _)).2.2) (eN.get (.head _))
end Mine
end
-- NbNs
section
open PySem PySem.W PySem.Calls PyProof.Rows
namespace Mine
theorem reset_NbNs : True := by
  w_top off
  trivial
set_option maxRecDepth 100000
set_option maxHeartbeats 8000000
variable {w : World} {p : Program} {loose : List Str} {mean : ExcName → Option Value} {mg mb : Str → Option Value} {dp un : Nat} {gd : Option (List Code)} {cn : Str} {cs : Scope} {a : Addr} {ccd : Value} {cl : List (Str × Addr)} {outer : List Env} {A₀ : Around} {base h₀ : Heap} {L : Addr} {m : Str → Option Value} {s : Shared} {Q E : Value → Shared → Prop}

theorem top2_asc {u v : Int} {ns rest t : List Int} (hlt : v < u) (hp : (u :: v :: rest).Perm t) (ht : t = ns) (hr : ∀ y ∈ rest, u ≤ y) : Top2 false ns [v, u] := by
  subst ht
  have e := hp.length_eq
  simp only [List.length_cons] at e
  refine ⟨by simp only [List.length_cons, List.length_nil]; omega, rest, (List.Perm.swap u v rest).trans hp, ?_, ?_⟩
  · show [v, u].Pairwise (· ≤ ·)
    simp only [List.pairwise_cons, List.mem_singleton, forall_eq, List.not_mem_nil, false_implies, implies_true, List.Pairwise.nil, and_true]
    omega
  · intro x hx y hy
    have := hr y hy
    simp only [List.mem_cons, List.not_mem_nil, or_false] at hx
    simp only [Bool.false_eq_true, if_false]
    rcases hx with rfl | rfl <;> omega
theorem nsmallest_int {l : Addr} {vs : List Value} {ns : List Int} {n : Nat} {t1 : Tok} (C : Cx w p loose mean mg mb dp un cs outer A₀ base h₀ L m s.heap 8) (hl : s.heap.get? l = some (listOf vs.toArray n))
    (hi : IntsAre vs ns) (hlen : ns.length < 60) (hnd : ns.Nodup)
    (ret : ∀ r vs' out n' h' tk', IntsAre vs' out → Top2 false ns out → Kept s.heap h' [] → s.heap.get? r = none → h'.get? r = some (listOf vs'.toArray n') → Q (.ref r) {s with heap := h', toks := tk'}) :
    wpAny (model Challenge.rw_nb0005_01.row.prog w) (ktrTop dp un gd cn cs L a ccd cl outer) (call (.ref 90) [.int 2 t1, .ref l]) Q E s := by
  obtain ⟨B, F, X, T, hk, hdp, hun⟩ := C
  have hvl := hi.length
  refine enterC (binds := [(Str.ofString "n", .int 2 t1), (Str.ofString "iterable", .ref l), (Str.ofString "key", .none)]) (tch := []) B F X (fun _ h => nomatch h) T hk (by k_dflt k_is) (by k_dflt k_is) (room0 hdp) (binds_K (X.keeps F.keep) rfl (by k_dflt k_is) rfl rfl rfl) rfl (by decide +kernel) rfl rfl rfl ?_
  clear F B X T
  intro g L' h₁ tk cells hg F N Y B X T
  k_cells Y
  rename Obj => oCl
  simp only [List.cons_append, List.nil_append] at N
  (try dsimp only); (try k_fold)
  have hgl : g.IsList l vs.toArray := ⟨_, hg l _ hl (by simp), rfl, n, rfl⟩
  k_steps
  · refine Stop.go ?_
    (rename Fr _ _ _ _ => eF); (rename News _ _ _ _ => eN)
    refine sorted_kw (args_sorted_k1 _) (fun _ => args_sort_k1 _) (fun x => sort_kw1 x) eF eN (hgl.at fun o e => eF.keep l o e) hi (by omega) ?_
    intro D h9 vs9 ns9 e9 F9 N9 hlt9 hI9 hp9 ho9
    clear eF eN hi
    have hl9 := hp9.length_eq
    dsimp only
    k_steps
    (rename Fr _ _ _ _ => eF); (rename News _ _ _ _ => eN); (rename IntsAre _ (List.take 2 ns9) => eI)
    exact ret _ _ _ _ _ _ eI (top2_all hp9 ho9 (by omega)) (fun b o e n => eF.keep b o (hg b o e (by simp))) (fresh_of hg (eN _ (.head _)).2.2) (eN.get (.head _))
  · refine Stop.go ?_
    (rename Fr _ _ _ _ => eF); (rename News _ _ _ _ => eN)
    have hn3 : 2 < ns.length := by omega
    refine iter_listN eF eN (hgl.at fun o e => eF.keep l o e) ?_
    intro I h3 eF2 eN2 _ hlI hcI0
    have hcne := neN (hcI0 _ (.head _))
    clear hcI0
    dsimp only at hcne
    clear eF eN
    dsimp only
    k_steps
    refine Stop.go ?_
    (rename Fr _ _ _ _ => eF); (rename News _ _ _ _ => eN)
    refine assign_comp_zip eF rfl (by with_unfolding_all rfl) (by with_unfolding_all rfl) (by decide) rfl (by decide) (by rfl) (by rfl) (by decide) (by decide) (by decide) (by rfl) (by rfl) rfl ?_
    try clear eF2 eN2
    k_fold
    k_steps
    refine Stop.go ?_
    (rename IsRange _ _ _ _ _ _ _ _ => hR); (rename Fr _ _ _ _ => eF); (rename News _ _ _ _ => eN)
    refine call_zip_rl (l := l) (k := 0) hR (by decide) ⟨_, eN.get (.head _), rfl, rfl⟩ ?_
    intro f1 fz fTI fTO f1r fsz fk
    dsimp only at fz fTI fTO f1r fsz fk ⊢
    have hit := eN.get (.head _)
    have hill := ltN (Heap.lt_size hit)
    have hll := ltN (Heap.lt_size (eF.keep l _ (hg l _ hl (by simp))))
    have hLl := ltN eF.ns.lt
    have hgs : ∀ b : Nat, g.objs.size ≤ b → g.get? b = none := fun b hb => Heap.get?_none_of_le hb
    have hgL := leN eF.above
    have hIL := (eN _ (.head _)).2.1
    have hIg := (eN _ (.head _)).2.2
    have hcell := eN _ (.tail _ (.head _))
    dsimp only at hcell
    have hcl := ltN (Heap.lt_size hcell.1)
    have hlI' := neN hlI
    have hIL' := neN hIL
    refine zipSrc l (1) 0 vs.toArray (fun q => ns.getD q 0) ?za fz fTI fTO f1r ⟨_, fk _ _ hit, rfl, rfl⟩ ((hgl.at fun o e => eF.keep l o e).at fun o e => fk _ _ e) ?hy (eF.keeps fk) ?hnew ?fin
    case za => exact za_mk hll hill hlI'
    case hy =>
      intro q hq
      obtain ⟨t, ht⟩ := ints_at hi q (by omega)
      refine ⟨t, ?_⟩
      have e2 : ns.getD q 0 = ns[q] := by simp [show q < ns.length by omega]
      show vs.toArray[0 + q]? = some (Value.int (ns.getD q 0) t)
      rw [e2, Nat.zero_add]
      simpa using ht
    case hnew =>
      intro b hb
      simp only [List.mem_cons, List.not_mem_nil, or_false] at hb
      rcases hb with rfl | rfl | rfl | rfl
      · exact ⟨hgs _ (by omega), neN (by omega)⟩
      · exact ⟨hgs _ (by omega), neN (by omega)⟩
      · exact ⟨hgs _ (by omega), neN (by omega)⟩
      · exact ⟨hIg, hIL⟩
    case fin =>
      intro D C ts h7 tk7 hD hDC F7 kK k2 kD kt kS
      obtain ⟨T0, T1, rfl⟩ : ∃ T0 T1, ts = [T0, T1] := by
        match ts, kt with
        | [a, b], _ => exact ⟨a, b, rfl⟩
      obtain ⟨⟨ty0, ti0, kT0⟩, hT0, ⟨ty1, ti1, kT1⟩, hT1, _⟩ := kS
      have kC := kK _ _ (fk _ _ hcell.1) (by
        have hc1 := neN hcell.2.1
        simp only [List.mem_cons, List.not_mem_nil, or_false, not_or]
        exact ⟨hcell.2.1, neN (by omega), neN (by omega), neN (by omega), hcne⟩)
      have hD' : @LE.le Nat _ f1.objs.size D := hD
      have hDC' := ltN hDC
      have hT0' := ltN hT0
      have hT1' := ltN hT1
      obtain ⟨oI, hoI, hcI, hdI⟩ := k2
      have N7 : News g L' h7 [(D, listOf [Value.ref T0, Value.ref T1].toArray 2), (T0, tupOf (ns.getD 0 0) (0 + (0 : Nat) * 1) ty0 ti0 0), (T1, tupOf (ns.getD (0 + 1) 0) (0 + (0 + 1 : Nat) * 1) ty1 ti1 0), (I, oI), (L' + 1, oCl)] := by
        have big : ∀ x : Nat, D ≤ x → x ≠ L' ∧ g.objs.size ≤ x := by
          clear hvl hlen hn3 hIL' hill hll hlI' hcne
          intro x hx; omega
        have bD := big D (Nat.le_refl _)
        have b0 := big T0 (Nat.le_of_lt (Nat.lt_trans hDC' hT0'))
        have b1 := big T1 (Nat.le_of_lt (Nat.lt_trans hDC' hT1'))
        exact List.forall_mem_cons.mpr ⟨⟨kD, bD.1, hgs D bD.2⟩, List.forall_mem_cons.mpr ⟨⟨kT0, b0.1, hgs T0 b0.2⟩, List.forall_mem_cons.mpr ⟨⟨kT1, b1.1, hgs T1 b1.2⟩, List.forall_mem_cons.mpr ⟨⟨hoI, hIL, hIg⟩, List.forall_mem_cons.mpr ⟨⟨kC, hcell.2⟩, List.forall_mem_nil _⟩⟩⟩⟩⟩
      clear eF eN hR fz fTI fTO f1r
      dsimp only
      k_steps
      refine Stop.go ?_
      (rename Fr _ _ _ _ => eF); (rename News _ _ _ _ => eN)
      have h01 : ns.getD 0 0 ≠ ns.getD (0 + 1) 0 := nd_ne hnd (by omega) (by omega) (by omega)
      refine heapify_max_tup ⟨B, eF, X, T, rfl, room1 hdp (by decide), room3 hun (by decide)⟩ (News.one eN (.head _)) (eN.get (.tail _ (.head _))) (eN.get (.tail _ (.tail _ (.head _)))) h01 ?_
      intro h8 tk8 hK8 hG8
      have oD := tups_off eN hcI (show @Ne Nat (L' + 1) D by omega)
      have eF8 := hK8.fr1 eF eN
      have eN8 := hK8.news1 eN oD hG8
      refine pair_elim eN8 fun U V u v iu iv tu tiu tv tiv N8 hor => ?_
      have huv : v < u := by rcases hor with ⟨q, _, _, rfl, rfl⟩ | ⟨q, _, _, rfl, rfl⟩ <;> omega
      have hperm : [u, v].Perm [ns.getD 0 0, ns.getD (0 + 1) 0] := by
        rcases hor with ⟨q, _, _, rfl, rfl⟩ | ⟨q, _, _, rfl, rfl⟩
        · exact List.Perm.refl _
        · exact List.Perm.swap _ _ _
      clear eF eN eN8 hG8
      try clear F7
      try clear N7
      dsimp only
      k_steps
      refine Stop.go ?_
      (rename Fr _ _ _ _ => eF); (rename News _ _ _ _ => eN)
      refine For_invV g rfl rfl ?_ (by intro _; rfl) PassesOwn.never
      k_dflt (refine nameX_L eF (by rfl) ?_)
      have eL := hgl.at fun o e => eF.keep l o e
      refine wpAny_pyIter_listiter (l := l) (i := 2) ⟨oI, eN.get (.tail _ (.tail _ (.tail _ (.head _)))), hcI, hdI⟩ ?_
      have hDI : D ≠ I := fun e => by have q := eN.get (.head _); rw [show (D : Addr) = I from e, eN.get (.tail _ (.tail _ (.tail _ (.head _))))] at q; cases q; simp at hcI
      have hUI : U ≠ I := fun e => by have q := eN.get (.tail _ (.head _)); rw [e, eN.get (.tail _ (.tail _ (.tail _ (.head _))))] at q; cases q; simp at hcI
      have hVI : V ≠ I := fun e => by have q := eN.get (.tail _ (.tail _ (.head _))); rw [e, eN.get (.tail _ (.tail _ (.tail _ (.head _))))] at q; cases q; simp at hcI
      have hvsz : vs.toArray.size = ns.length := by rw [List.size_toArray]; exact hvl
      refine' for_gen (σ := NS) (walks_shift (Walks.list rfl I l hlI vs.toArray) 2 (by omega)) (fun c => [(D, listOf [Value.ref c.U, Value.ref c.V].toArray 2), (c.U, tupOf c.u c.iu c.tu c.tiu 0), (c.V, tupOf c.v c.iv c.tv c.tiv 0), (L' + 1, oCl)])
        (fun c => [(Str.ofString "top", .int c.u c.tu), (Str.ofString "order", .int c.ord c.tord)]) [Str.ofString "_order"] (fun k c => c.v < c.u ∧ (∃ rest, (c.u :: c.v :: rest).Perm (ns.take (2 + k)) ∧ ∀ y ∈ rest, c.u ≤ y) ∧ c.U ≠ I ∧ c.V ≠ I) ⟨U, V, u, v, iu, iv, tu, tiu, tv, tiv, _, _⟩
        (.head _) ?g1 hIg ?g2 ?g3 ⟨⟨oI, eN.get (.tail _ (.tail _ (.tail _ (.head _)))), hcI, hdI⟩, eL⟩ ?g4 eF ?g5 ?g6 ?g7 ?g8 ?g9
      case g6 => exact List.forall_mem_cons.mpr ⟨by rfl, List.forall_mem_cons.mpr ⟨by rfl, List.forall_mem_nil _⟩⟩
      case g1 =>
        intro q
        simp only [List.mem_cons, List.not_mem_nil, or_false] at q
        rcases q with q | q
        · exact hIL q.symm
        · exact absurd (ltN (Heap.lt_size (hg l _ hl (by simp)))) (by have q' : @Eq Nat L' l := q; omega)
      case g2 =>
        intro b hb
        simp only [List.mem_cons, List.not_mem_nil, or_false] at hb
        rcases hb with rfl | rfl
        · exact .inl rfl
        · exact .inr (.inl ⟨_, hg _ _ hl (by simp)⟩)
      case g3 =>
        exact fun i c h => List.forall_mem_cons.mpr ⟨hDI, List.forall_mem_cons.mpr ⟨h.2.2.1, List.forall_mem_cons.mpr ⟨h.2.2.2, List.forall_mem_cons.mpr ⟨hcne, List.forall_mem_nil _⟩⟩⟩⟩
      case g4 => rintro i h ⟨⟨o, ho, _⟩, _⟩; exact ⟨o, ho⟩
      case g5 =>
        exact News.less eN (by lcg_sub)
      case g7 =>
        refine ⟨huv, ⟨[], ?_, fun _ h => nomatch h⟩, hUI, hVI⟩
        rw [take_two hn3]; exact hperm
      case g8 =>
        clear eF eN eL
        rintro k vv ⟨U, V, u, v, iu, iv, tu, tiu, tv, tiv, ord, tord⟩ u9 h9 tk9 o9 hk9 hv9 hP hst9 F9 N9
        have hlt := hP.1
        have hU9 := hP.2.2.1
        have hV9 := hP.2.2.2
        have hex := hP.2.1
        clear hP
        have hc9 : o9.cls = .type "list_iterator" := by
          obtain ⟨⟨o, ho, hc, _⟩, _⟩ := hst9
          rw [N9.get (.head _)] at ho; cases ho; exact hc
        clear hst9
        dsimp only at hlt hex hU9 hV9 F9 N9 hv9 ⊢
        have hk2 : k + 2 < ns.length := lt_sub (by rw [← hvsz]; exact hk9)
        obtain ⟨te, hte⟩ := ints_at hi (k + 2) hk2
        obtain rfl : vv = .int ns[k + 2] te := by
          have e : vs[k + 2]? = some vv := by simpa using hv9
          exact Option.some.inj (e.symm.trans hte)
        refine gen_post fun FP hFP => ?_
        try k_fold
        k_steps
        · refine Stop.go ?_
          (rename Fr _ _ _ _ => eF); (rename News _ _ _ _ => eN)
          have hvm : v ∈ ns.take (2 + k) := by obtain ⟨rest, hp9, _⟩ := hex; exact hp9.mem_iff.mp (.tail _ (.head _))
          have hev := nd_take hnd (k := k) hk2 hvm
          refine heapreplace_max_tup (x := ns[k + 2]) (y := v) (v := V) (l := D) ⟨B, eF, X, T, rfl, room1 hdp (by decide), room3 hun (by decide)⟩ (News.one eN (by k_mem)) (eN.get (.head _)) (eN.get (by k_mem)) hev ?_
          intro h8 tk8 hK8 hG8
          have eF8 := hK8.frOf eF eN (by k_mem : (D, _) ∈ _)
          have hWI := tup_ne_iter (eN.get (.head _)) (eN.get (.tail _ (.head _))) hc9
          have eN8 := rep_news eN hK8 hG8 hDI (show @Ne Nat (L' + 1) D by omega)
          refine pair_elim eN8 fun U2 V2 u2 v2 iu2 iv2 tu2 tiu2 tv2 tiv2 N8 hor => ?_
          clear eF eN eN8 hG8
          dsimp only
          k_steps
          (rename Fr _ _ _ _ => eF); (rename News _ _ _ _ => eN)
          refine hFP _ _ ?_
          dsimp only [ForPost]
          refine' for_end ⟨U2, V2, u2, v2, iu2, iv2, tu2, tiu2, tv2, tiv2, _, _⟩ eF eN ?e1 ?e2 ?e3 ?e4
          case e2 => exact List.forall_mem_cons.mpr ⟨by rfl, List.forall_mem_cons.mpr ⟨by rfl, List.forall_mem_nil _⟩⟩
          case e1 =>
            dsimp only
            lcg_sub
          case e3 => (intro z h1 h2 h3; (simp only [List.forall_mem_cons, List.not_mem_nil, false_implies, implies_true, and_true, ne_eq] at h2); (simp only [List.contains_cons, List.contains_nil, Bool.or_false, Bool.or_eq_false_iff, beq_eq_false_iff_ne, ne_eq] at h3); simp [kstB, h1, h2, h3])
          case e4 =>
            obtain ⟨rest, hp9, hr9⟩ := hex
            have hum : u ∈ ns.take (2 + k) := hp9.mem_iff.mp (.head _)
            rename _ < u => hue
            rcases hor with ⟨q, rfl, rfl, rfl, rfl⟩ | ⟨q, rfl, rfl, rfl, rfl⟩
            · refine ⟨q, ⟨u :: rest, ?_, ?_⟩, hWI, hV9⟩
              · rw [take_more hk2]; exact perm_rep hp9
              · intro y hy
                rcases List.mem_cons.mp hy with h | hy
                · rw [h]; exact Int.le_of_lt hue
                · exact Int.le_trans (Int.le_of_lt hue) (hr9 y hy)
            · refine ⟨lt_of_not hev.symm q, ⟨u :: rest, ?_, ?_⟩, hV9, hWI⟩
              · rw [take_more hk2]; exact (List.Perm.swap _ _ _).trans (perm_rep hp9)
              · intro y hy
                rcases List.mem_cons.mp hy with h | hy
                · rw [h]; exact Int.le_of_lt hlt
                · exact Int.le_trans (Int.le_of_lt hlt) (hr9 y hy)
        · refine hFP _ _ ?_
          dsimp only [ForPost]
          refine for_end ⟨U, V, u, v, iu, iv, tu, tiu, tv, tiv, ord, tord⟩ F9 N9 (fun _ h => h) (List.forall_mem_cons.mpr ⟨by rfl, List.forall_mem_cons.mpr ⟨by rfl, List.forall_mem_nil _⟩⟩) ?_ ?_
          · (intro z h1 h2 h3; (simp only [List.forall_mem_cons, List.not_mem_nil, false_implies, implies_true, and_true, ne_eq] at h2); (simp only [List.contains_cons, List.contains_nil, Bool.or_false, Bool.or_eq_false_iff, beq_eq_false_iff_ne, ne_eq] at h3); simp [kstB, h1, h2, h3])
          · obtain ⟨rest, hp9, hr9⟩ := hex
            refine ⟨hlt, ⟨ns[k + 2] :: rest, ?_, ?_⟩, hU9, hV9⟩
            · rw [take_more hk2]
              exact perm_more hp9
            · intro y hy
              rcases List.mem_cons.mp hy with h | hy
              · rw [h]; rename ¬ (_ < _) => hnl; exact Int.not_lt.mp hnl
              · exact hr9 y hy
      case g9 =>
        clear eF eN eL
        rintro ⟨U, V, u, v, iu, iv, tu, tiu, tv, tiv, ord, tord⟩ u9 h9 tk9 hP F9 N9
        have hlt := hP.1
        have hex := hP.2.1
        clear hP
        dsimp only at hlt hex F9 N9 ⊢
        k_steps
        refine Stop.go ?_
        (rename Fr _ _ _ _ => eF); (rename News _ _ _ _ => eN)
        refine tsort0 (eN.get (.head _)) (eN.get (.tail _ (.head _))) (eN.get (.tail _ (.tail _ (.head _)))) (by omega) ?_
        intro h8 c8 hK8 hG8
        simp only [if_pos hlt] at hG8
        dsimp only at hK8
        have eF8 := hK8.frOf eF eN (.head _)
        have gD := eN.get (.head _)
        have hUD : U ≠ D := fun e => by have q := eN.get (.tail _ (.head _)); rw [e, gD] at q; exact tup_not_list q
        have hVD : V ≠ D := fun e => by have q := eN.get (.tail _ (.tail _ (.head _))); rw [e, gD] at q; exact tup_not_list q
        have eN8 : News g L' h8 [(D, listOf [Value.ref V, Value.ref U].toArray c8), (U, tupOf u iu tu tiu 0), (V, tupOf v iv tv tiv 0)] := by
          exact List.forall_mem_cons.mpr ⟨⟨hG8, (eN _ (.head _)).2⟩, List.forall_mem_cons.mpr ⟨⟨hK8 _ _ (eN.get (.tail _ (.head _))) (fun q => hUD (List.mem_singleton.mp q)), (eN _ (.tail _ (.head _))).2⟩,
            List.forall_mem_cons.mpr ⟨⟨hK8 _ _ (eN.get (.tail _ (.tail _ (.head _)))) (fun q => hVD (List.mem_singleton.mp q)), (eN _ (.tail _ (.tail _ (.head _)))).2⟩, List.forall_mem_nil _⟩⟩⟩
        clear eF eN hG8
        dsimp only
        k_steps
        (rename Fr _ _ _ _ => eF); (rename News _ _ _ _ => eN)
        obtain ⟨rest, hp9, hr9⟩ := hex
        exact ret _ _ _ _ _ _ (.cons v tv (.cons u tu .nil)) (top2_asc hlt hp9 (List.take_of_length_le (by omega)) hr9) (fun b o e n => eF.keep b o (hg b o e (by simp))) (fresh_of hg (eN _ (.head _)).2.2) (eN.get (.head _))
end Mine
end
end
-- NbLoop
section
open PySem PySem.W PySem.Calls PyProof.Rows
namespace Mine
set_option maxRecDepth 100000
set_option maxHeartbeats 8000000
section
variable {prog : Program} {w : World} {A : Around} {E : Value → Shared → Prop} {s : Shared} {h₀ : Heap} {env : Env} {x : Str} {body : List Stmt} {Q : Flow → Shared → Prop}
/-- for x in l: the list l lies in the ground -/
theorem for_list {σ : Type} {l : Addr} {items : Array Value} {m₀ : Str → Option Value} (hh : A.handled = none) (hl : h₀.IsList l items)
    (Led : σ → List (Addr × Obj)) (ps : σ → List (Str × Value)) (stored : List Str) (P : Nat → σ → Prop) (c₀ : σ)
    (F : Fr h₀ env.locals s.heap m₀) (N : News h₀ env.locals s.heap (Led c₀)) (hnI : ∀ i c, P i c → ∀ p ∈ Led c, p.1 ≠ s.heap.objs.size) (hk : ∀ p ∈ ps c₀, m₀ p.1 = some p.2) (hp : P 0 c₀)
    (turn : ∀ (I : Addr) i v (c : σ) (u : Str → Option Value) h tk o, I = s.heap.objs.size → i < items.size → items[i]? = some v → P i c → Fr h₀ env.locals h (fun y => if y = x then some v else kstB (fun z => if stored.contains z then u z else m₀ z) (ps c) y) →
      News h₀ env.locals h ((I, o) :: Led c) →
      wpAny (model prog w) A (execs body env) (ForPost h₀ env.locals x s I o Led ps stored m₀ (P (i + 1)) Q) E { s with heap := h, toks := tk })
    (done : ∀ (c : σ) (u : Str → Option Value) h tk, P items.size c → Fr h₀ env.locals h (fun y => if y = x then u y else kstB (fun z => if stored.contains z then u z else m₀ z) (ps c) y) → News h₀ env.locals h (Led c) → Q .next { s with heap := h, toks := tk }) :
    wpAny (model prog w) A (pyIter (.ref l)) (fun it s₂ => LoopAtV prog w A h₀ env x body Q E it s₂) E s := by
  have hls : s.heap.IsList l items := hl.at fun o e => F.keep l o e
  obtain ⟨ol, hol, _⟩ := id hl
  have hlt : l < h₀.objs.size := Heap.lt_size hol
  have hne : l ≠ s.heap.objs.size := Nat.ne_of_lt (Nat.lt_trans (Nat.lt_of_lt_of_le hlt F.above) F.ns.lt)
  have hlL : l ≠ env.locals := Nat.ne_of_lt (Nat.lt_of_lt_of_le hlt F.above)
  refine wpAny_pyIter_list hls ?_
  refine for_gen (Walks.list hh s.heap.objs.size l hne items) Led ps stored P c₀ (.head _) ?_ ?_ ?_ hnI ⟨⟨_, Heap.get?_push_size _ rfl, rfl, rfl⟩, hls.push _⟩ (fun i h st => by obtain ⟨⟨o, ho, _⟩, _⟩ := st; exact ⟨o, ho⟩) (F.push _) (fun p hp => ⟨Heap.get?_push_of_some _ (N p hp).1, (N p hp).2⟩) hk hp
    (fun i v c u h tk o hi hv hp _ F' N' => turn _ i v c u h tk o rfl hi hv hp F' N') done
  · intro q
    simp only [List.mem_cons, List.not_mem_nil, or_false] at q
    rcases q with q | q
    · exact absurd F.ns.lt (by rw [q]; exact Nat.lt_irrefl _)
    · exact hlL q.symm
  · exact Heap.get?_none_of_le (Nat.le_trans F.above (Nat.le_of_lt F.ns.lt))
  · intro b hb
    simp only [List.mem_cons, List.not_mem_nil, or_false] at hb
    rcases hb with rfl | rfl
    · exact .inl rfl
    · exact .inr (.inl ⟨_, hol⟩)
/-- for x in l: the list l lies in the ledger, untouched by the body -/
theorem for_listN {σ : Type} {l : Addr} {items : Array Value} {nl : Nat} {m₀ : Str → Option Value} (hh : A.handled = none)
    (Led : σ → List (Addr × Obj)) (ps : σ → List (Str × Value)) (stored : List Str) (P : Nat → σ → Prop) (c₀ : σ)
    (hl : ∀ c, (l, listOf items nl) ∈ Led c)
    (F : Fr h₀ env.locals s.heap m₀) (N : News h₀ env.locals s.heap (Led c₀)) (hnI : ∀ i c, P i c → ∀ p ∈ Led c, p.1 ≠ s.heap.objs.size) (hk : ∀ p ∈ ps c₀, m₀ p.1 = some p.2) (hp : P 0 c₀)
    (turn : ∀ (I : Addr) i v (c : σ) (u : Str → Option Value) h tk o, I = s.heap.objs.size → i < items.size → items[i]? = some v → P i c → Fr h₀ env.locals h (fun y => if y = x then some v else kstB (fun z => if stored.contains z then u z else m₀ z) (ps c) y) →
      News h₀ env.locals h ((I, o) :: Led c) →
      wpAny (model prog w) A (execs body env) (ForPost h₀ env.locals x s I o Led ps stored m₀ (P (i + 1)) Q) E { s with heap := h, toks := tk })
    (done : ∀ (c : σ) (u : Str → Option Value) h tk, P items.size c → Fr h₀ env.locals h (fun y => if y = x then u y else kstB (fun z => if stored.contains z then u z else m₀ z) (ps c) y) → News h₀ env.locals h (Led c) → Q .next { s with heap := h, toks := tk }) :
    wpAny (model prog w) A (pyIter (.ref l)) (fun it s₂ => LoopAtV prog w A h₀ env x body Q E it s₂) E s := by
  have hol := (N _ (hl c₀)).1
  have hls : s.heap.IsList l items := ⟨_, hol, rfl, nl, rfl⟩
  have hne : l ≠ s.heap.objs.size := Nat.ne_of_lt (Heap.lt_size hol)
  refine wpAny_pyIter_list hls ?_
  refine for_gen (Walks.list hh s.heap.objs.size l hne items) Led ps stored P c₀ (.head _) ?_ ?_ ?_ hnI ⟨⟨_, Heap.get?_push_size _ rfl, rfl, rfl⟩, hls.push _⟩ (fun i h st => by obtain ⟨⟨o, ho, _⟩, _⟩ := st; exact ⟨o, ho⟩) (F.push _) (fun p hp => ⟨Heap.get?_push_of_some _ (N p hp).1, (N p hp).2⟩) hk hp
    (fun i v c u h tk o hi hv hp _ F' N' => turn _ i v c u h tk o rfl hi hv hp F' N') done
  · intro q
    simp only [List.mem_cons, List.not_mem_nil, or_false] at q
    rcases q with q | q
    · exact absurd F.ns.lt (by rw [q]; exact Nat.lt_irrefl _)
    · exact (N _ (hl c₀)).2.1 q.symm
  · exact Heap.get?_none_of_le (Nat.le_trans F.above (Nat.le_of_lt F.ns.lt))
  · intro b hb
    simp only [List.mem_cons, List.not_mem_nil, or_false] at hb
    rcases hb with rfl | rfl
    · exact .inl rfl
    · exact .inr (.inr ⟨_, fun i c _ => hl c⟩)
/-- for x in range(..) -/
theorem for_range {σ : Type} {r : Addr} {a b c₁ : Int} {t u₁ v₁ : Tok} (n : Nat) {m₀ : Str → Option Value} (hh : A.handled = none) (hr : IsRange s.heap r a b c₁ t u₁ v₁) (hsmall : Builtin.Range.small a b c₁ = true) (hn : Builtin.Range.rangeSize a b c₁ = (n : Int))
    (Led : σ → List (Addr × Obj)) (ps : σ → List (Str × Value)) (stored : List Str) (P : Nat → σ → Prop) (c₀ : σ)
    (F : Fr h₀ env.locals s.heap m₀) (N : News h₀ env.locals s.heap (Led c₀)) (hnI : ∀ i c, P i c → ∀ p ∈ Led c, p.1 ≠ s.heap.objs.size) (hk : ∀ p ∈ ps c₀, m₀ p.1 = some p.2) (hp : P 0 c₀)
    (turn : ∀ (I : Addr) i t (c : σ) (u : Str → Option Value) h tk o, I = s.heap.objs.size → i < n → P i c → Fr h₀ env.locals h (fun y => if y = x then some (.int (a + i * c₁) t) else kstB (fun z => if stored.contains z then u z else m₀ z) (ps c) y) →
      News h₀ env.locals h ((I, o) :: Led c) →
      wpAny (model prog w) A (execs body env) (ForPost h₀ env.locals x s I o Led ps stored m₀ (P (i + 1)) Q) E { s with heap := h, toks := tk })
    (done : ∀ (c : σ) (u : Str → Option Value) h tk, P n c → Fr h₀ env.locals h (fun y => if y = x then u y else kstB (fun z => if stored.contains z then u z else m₀ z) (ps c) y) → News h₀ env.locals h (Led c) → Q .next { s with heap := h, toks := tk }) :
    wpAny (model prog w) A (pyIter (.ref r)) (fun it s₂ => LoopAtV prog w A h₀ env x body Q E it s₂) E s := by
  refine wpAny_pyIter_range hr hsmall ?_
  refine for_gen (Walks.range hh s.heap.objs.size a c₁ n) Led ps stored P c₀ (.head _) ?_ ?_ ?_ hnI (by show IsRangeIter _ _ _ _ _; rw [hn]; simpa using Heap.get?_push_size _ rfl) (fun i h st => ⟨_, st⟩) (F.push _) (fun p hp => ⟨Heap.get?_push_of_some _ (N p hp).1, (N p hp).2⟩) hk hp
    (fun i v c u h tk o hi hv hp _ F' N' => by obtain ⟨t, rfl⟩ := hv; exact turn _ i t c u h tk o rfl hi hp F' N') done
  · intro q
    exact absurd F.ns.lt (by rw [List.mem_singleton.mp q]; exact Nat.lt_irrefl _)
  · exact Heap.get?_none_of_le (Nat.le_trans F.above (Nat.le_of_lt F.ns.lt))
  · intro b hb
    exact .inl (List.mem_singleton.mp hb)
end
end Mine
end
-- NbGood
section
open PySem PySem.W PySem.Calls PyProof.Rows
namespace Mine
/-- rows of things: no thing twice in a row, each thing of a row one of six and of greater rank than the row's own -/
noncomputable def GoodRk (rk : Int → Int) (R : List (List Int)) : Prop := ∀ i : Nat, i < 6 → (R.getD i []).Nodup ∧ ∀ j ∈ R.getD i [], 0 ≤ j ∧ j < 6 ∧ rk i < rk j
noncomputable def rkF (t : Int) (i : Int) : Int := (([2, 4, 1, 5, 3, 0] : List Int).getD i.toNat 0 + (t - 35)).fmod 6
theorem good_nil (rk : Int → Int) : GoodRk rk [[], [], [], [], [], []] := by
  intro i hi
  have : i = 0 ∨ i = 1 ∨ i = 2 ∨ i = 3 ∨ i = 4 ∨ i = 5 := by omega
  rcases this with rfl | rfl | rfl | rfl | rfl | rfl <;> exact ⟨List.nodup_nil, fun j hj => nomatch hj⟩
theorem good_push {rk : Int → Int} {R : List (List Int)} (h : GoodRk rk R) (i : Nat) {j : Int} (hi : i < R.length) (h0 : 0 ≤ j) (h6 : j < 6) (hr : rk i < rk j) (hn : j ∉ R.getD i []) : GoodRk rk (R.set i (R.getD i [] ++ [j])) := by
  intro q hq
  obtain ⟨a, b⟩ := h q hq
  rw [List.getD_eq_getElem?_getD] at a b ⊢
  by_cases e : i = q
  · subst e
    rw [List.getElem?_set_self hi]
    rw [List.getD_eq_getElem?_getD] at hn
    refine ⟨?_, ?_⟩
    · show (R.getD i [] ++ [j]).Nodup
      rw [List.getD_eq_getElem?_getD]
      refine List.nodup_append.mpr ⟨a, by simp, ?_⟩
      intro x hx y hy
      rw [List.mem_singleton.mp hy]
      rintro rfl
      exact hn hx
    · intro x hx
      have hx : x ∈ R.getD i [] ++ [j] := hx
      rw [List.getD_eq_getElem?_getD] at hx
      rcases List.mem_append.mp hx with hx | hx
      · exact b x hx
      · rw [List.mem_singleton.mp hx]; exact ⟨h0, h6, hr⟩
  · rw [List.getElem?_set_ne e]
    exact ⟨a, b⟩
theorem fresh_of0 {h g : Heap} {r : Addr} (k : Kept h g []) (e : g.get? r = none) : h.get? r = none := by
  cases q : h.get? r with
  | none => rfl
  | some o => rw [k r o q (by simp)] at e; cases e
theorem stands_ok : ∀ i : Nat, i < 6 → 0 ≤ ([2, 4, 1, 5, 3, 0] : List Int).getD i 0 ∧ ([2, 4, 1, 5, 3, 0] : List Int).getD i 0 < 6 := by decide
theorem stands_inj : ∀ i : Nat, i < 6 → ∀ j : Nat, j < 6 → ([2, 4, 1, 5, 3, 0] : List Int).getD i 0 = ([2, 4, 1, 5, 3, 0] : List Int).getD j 0 → i = j := by decide
theorem mod_apart {a b c : Int} (ha : 0 ≤ a ∧ a < 6) (hb : 0 ≤ b ∧ b < 6) (hne : a ≠ b) (h : ¬ (b + c) % 6 < (a + c) % 6) : (a + c) % 6 < (b + c) % 6 := by omega
theorem rk_lt {t x y : Int} (hx0 : 0 ≤ x) (hx : x < 6) (hy0 : 0 ≤ y) (hy : y < 6) (hne : x ≠ y) (h : ¬ rkF t y < rkF t x) : rkF t x < rkF t y := by
  have lx : x.toNat < 6 := by omega
  have ly : y.toNat < 6 := by omega
  have hn : x.toNat ≠ y.toNat := by omega
  unfold rkF at *
  rw [Int.fmod_eq_emod_of_nonneg _ (by decide), Int.fmod_eq_emod_of_nonneg _ (by decide)] at *
  exact mod_apart (stands_ok _ lx) (stands_ok _ ly) (fun e => hn (stands_inj _ lx _ ly e)) h
end Mine
namespace Mine
theorem good_pushI {rk : Int → Int} {R : List (List Int)} {f j : Int} (h : GoodRk rk R) (i : Nat) (hf : f = (i : Int)) (hi : i < R.length) (h0 : 0 ≤ j) (h6 : j < 6) (hr : rk f < rk j) (hn : (R.getD i []).any (fun x => x == j) = false) : GoodRk rk (R.set i (R.getD i [] ++ [j])) :=
  good_push h i hi h0 h6 (hf ▸ hr) (fun hm => by
    have : (R.getD i []).any (fun x => x == j) = true := List.any_eq_true.mpr ⟨j, hm, by simp⟩
    rw [hn] at this; cases this)
theorem Fr.of_eq {h₀ h : Heap} {L : Addr} {m m' : Str → Option Value} (F : Fr h₀ L h m) (e : ∀ y, m y = m' y) : Fr h₀ L h m' := (funext e) ▸ F
end Mine
end
-- NbMade
section
open PySem PySem.W PySem.Calls PyProof.Rows PyProof.Rows.LCg
namespace Mine
set_option maxRecDepth 100000
set_option maxHeartbeats 8000000
/-- a new empty list, as the ledger holds it -/
noncomputable def rowO (a : Addr) : Addr × Obj := (a, listOf #[] 0)
section
variable {prog : Program} {w : World} {A : Around} {E : Value → Shared → Prop} {s : Shared} {h₀ : Heap} {L : Addr} {m : Str → Option Value} {env : Env}
/-- a turn of [[] for x in ..] gives a new empty list -/
noncomputable def MadeTurn (prog : Program) (w : World) (A : Around) (h₀ : Heap) (L : Addr) (m : Str → Option Value) (env : Env) (elt : Expr) (scope : Scope) (cl : List (Str × Addr)) (s : Shared) : Prop :=
  ∀ I oI C oC D ys h tk (nw : List (Addr × Obj)) (Q' E' : Value → Shared → Prop), Fr h₀ L h m → News h₀ L h ((I, oI) :: (C, oC) :: (D, lst ys) :: nw) →
    (∀ a h' tk', Fr h₀ L h' m → News h₀ L h' ((a, listOf #[] 0) :: (I, oI) :: (C, oC) :: (D, lst ys) :: nw) → (∀ p ∈ (I, oI) :: (C, oC) :: (D, lst ys) :: nw, p.1 ≠ a) → Q' (.ref a) { s with heap := h', toks := tk' }) →
    wpAny (model prog w) A (eval elt (compEnvC scope cl C env)) Q' E' { s with heap := h, toks := tk }
theorem made_rest {elt : Expr} {x : Str} {scope : Scope} {cl : List (Str × Addr)} {S : List (Addr × Obj) → Prop} {P : Nat → Value → Prop} {Fin : List Value → List (Addr × Obj) → Prop} {base : List (Addr × Obj)} {n : Nat} (hS : ∀ nw, S nw)
    (turn : MadeTurn prog w A h₀ L m env elt scope cl s)
    (hF : ∀ as : List Addr, as.length = n → as.Nodup → (∀ a ∈ as, ∀ p ∈ base, p.1 ≠ a) → Fin (as.map Value.ref) (base ++ as.map rowO)) :
    ∀ k (as : List Addr), as.length + k = n → as.Nodup → (∀ a ∈ as, ∀ p ∈ base, p.1 ≠ a) → CompRest prog w A h₀ L m env elt x scope cl s S P Fin k as.length (as.map Value.ref) (base ++ as.map rowO) := by
  intro k
  induction k with
  | zero => exact fun as hn hd hb => CompRest.zero (hF as hn hd hb)
  | succ k ih =>
    intro as hn hd hb
    refine CompRest.succ ?_
    intro v I oI C oC D m₂ h tk E' _ _ _ F N off _
    refine turn I oI C oC D _ h tk _ _ E' F N fun a h' tk' F' N' hne => ?_
    have hold : ∀ p ∈ base ++ as.map rowO, p.1 ≠ a := fun p hp => hne p (.tail _ (.tail _ (.tail _ hp)))
    have hnew : ∀ p ∈ base ++ (as ++ [a]).map rowO, p ∈ base ++ as.map rowO ∨ p = rowO a := fun p hp => by
      rw [List.map_append, ← List.append_assoc] at hp
      exact (List.mem_append.mp hp).imp id List.mem_singleton.mp
    have r := ih (as ++ [a]) (by rw [List.length_append, List.length_singleton]; omega)
      (List.nodup_append.mpr ⟨hd, List.nodup_cons.mpr ⟨List.not_mem_nil, List.nodup_nil⟩, fun x hx y hy => by
        rw [List.mem_singleton.mp hy]
        exact hold _ (List.mem_append_right _ (List.mem_map_of_mem (f := rowO) hx))⟩)
      (fun b hm => (List.mem_append.mp hm).elim (hb b) fun q p hp => by
        rw [List.mem_singleton.mp q]
        exact hold p (List.mem_append_left _ hp))
    rw [List.length_append, List.length_singleton, List.map_append] at r
    refine CompEnd.intro F' N' _ (fun p hp => ?_) (Off3.of fun p hp => ?_) (hS _) r
    · rcases List.mem_cons.mp hp with rfl | hp
      · exact .tail _ (.head _)
      rcases List.mem_cons.mp hp with rfl | hp
      · exact .tail _ (.tail _ (.head _))
      rcases List.mem_cons.mp hp with rfl | hp
      · exact .tail _ (.tail _ (.tail _ (.head _)))
      rcases hnew p hp with q | rfl
      · exact .tail _ (.tail _ (.tail _ (.tail _ q)))
      · exact .head _
    · rcases hnew p hp with q | rfl
      · exact off.mem p q
      · exact ⟨fun e => hne (I, oI) (.head _) e.symm, fun e => hne (C, oC) (.tail _ (.head _)) e.symm, fun e => hne (D, _) (.tail _ (.tail _ (.head _))) e.symm⟩
theorem made_all {elt : Expr} {x : Str} {scope : Scope} {cl : List (Str × Addr)} {S : List (Addr × Obj) → Prop} {P : Nat → Value → Prop} {Fin : List Value → List (Addr × Obj) → Prop} {base : List (Addr × Obj)} {n : Nat} (hS : ∀ nw, S nw)
    (turn : MadeTurn prog w A h₀ L m env elt scope cl s)
    (hF : ∀ as : List Addr, as.length = n → as.Nodup → (∀ a ∈ as, ∀ p ∈ base, p.1 ≠ a) → Fin (as.map Value.ref) (base ++ as.map rowO)) :
    CompRest prog w A h₀ L m env elt x scope cl s S P Fin n 0 [] base := by
  have r := made_rest (x := x) (P := P) hS turn hF n [] (Nat.zero_add _) List.nodup_nil (fun a h => nomatch h)
  rwa [List.map_nil, List.map_nil, List.append_nil] at r
end
/-- a row of things: where it lies, its values, its ints -/
structure Row where
  (a : Addr) (vs : List Value) (ns : List Int) (n : Nat)
noncomputable def Row.pr (r : Row) : Addr × Obj := (r.a, listOf r.vs.toArray r.n)
end Mine
end
-- NbRowsOk
section
open PySem PySem.W PySem.Calls PyProof.Rows
namespace Mine
/-- the rows lie at as, hold ints, no more than k each, and rank well -/
noncomputable def RowsOk (as : List Addr) (rk : Int → Int) (k : Nat) (c : List Row) : Prop := c.map Row.a = as ∧ (∀ r ∈ c, IntsAre r.vs r.ns ∧ r.ns.length ≤ k) ∧ GoodRk rk (c.map Row.ns)
theorem rowsOk_start (as : List Addr) (rk : Int → Int) : RowsOk as rk 0 (as.map fun a => ⟨a, [], [], 0⟩) := by
  refine ⟨by rw [List.map_map]; exact List.map_id _, fun r hr => ?_, fun i hi => ?_⟩
  · obtain ⟨a, _, rfl⟩ := List.mem_map.mp hr
    exact ⟨.nil, Nat.le_refl _⟩
  · have e : ((as.map fun a => (⟨a, [], [], 0⟩ : Row)).map Row.ns).getD i [] = [] := by
      rw [List.getD_eq_getElem?_getD, List.map_map, List.getElem?_map]
      cases as[i]? <;> rfl
    rw [e]
    exact ⟨List.nodup_nil, fun j hj => nomatch hj⟩
theorem RowsOk.mono {as : List Addr} {rk : Int → Int} {k : Nat} {c : List Row} (h : RowsOk as rk k c) : RowsOk as rk (k + 1) c := ⟨h.1, fun r hr => ⟨(h.2.1 r hr).1, Nat.le_succ_of_le (h.2.1 r hr).2⟩, h.2.2⟩
theorem RowsOk.addr {as : List Addr} {rk : Int → Int} {k : Nat} {c : List Row} (h : RowsOk as rk k c) : ∀ p ∈ c.map Row.pr, p.1 ∈ as := fun p hp => by
  obtain ⟨r, hr, rfl⟩ := List.mem_map.mp hp
  rw [← h.1]
  exact List.mem_map_of_mem (f := Row.a) hr
theorem start_pr (as : List Addr) : (as.map fun a => (⟨a, [], [], 0⟩ : Row)).map Row.pr = as.map rowO := by
  rw [List.map_map]; rfl
/-- one row is taken out of the ledger's rows, to be put back longer -/
theorem RowsOk.split {as : List Addr} {rk : Int → Int} {k : Nat} {c : List Row} {i : Nat} {pre : List (Addr × Obj)} (h : RowsOk as rk k c) (hd : as.Nodup) (hi : i < as.length) (hpre : ∀ a ∈ as, ∀ p ∈ pre, p.1 ≠ a) :
    ∃ a vs ns n tl, (as.map Value.ref)[i]? = some (Value.ref a) ∧ a ∈ as ∧ IntsAre vs ns ∧ ns.length ≤ k ∧ (c.map Row.ns).getD i [] = ns ∧ (∀ p ∈ tl, p.1 ≠ a) ∧ (∀ p ∈ (a, listOf vs.toArray n) :: tl, p ∈ pre ++ c.map Row.pr) ∧
      (∀ p ∈ pre ++ c.map Row.pr, p ∈ (a, listOf vs.toArray n) :: tl) ∧
      (∀ vs' ns' n', IntsAre vs' ns' → ns'.length ≤ k + 1 → GoodRk rk ((c.map Row.ns).set i ns') → ∃ c', RowsOk as rk (k + 1) c' ∧ ∀ p ∈ pre ++ c'.map Row.pr, p ∈ (a, listOf vs'.toArray n') :: tl) := by
  obtain ⟨rfl, h2, h3⟩ := h
  rw [List.length_map] at hi
  obtain ⟨c1, r, c2, rfl, rfl⟩ : ∃ c1 r c2, c = c1 ++ r :: c2 ∧ c1.length = i := ⟨c.take i, c[i], c.drop (i + 1), by rw [List.getElem_cons_drop, List.take_append_drop], List.length_take_of_le (Nat.le_of_lt hi)⟩
  have hr := h2 r (List.mem_append_right _ (.head _))
  have hmid : (pre ++ (c1 ++ r :: c2).map Row.pr) = pre ++ c1.map Row.pr ++ r.pr :: c2.map Row.pr := by rw [List.map_append, List.map_cons, List.append_assoc]
  rw [List.map_append, List.map_cons] at hd
  obtain ⟨-, hd2, hd3⟩ := List.nodup_append.mp hd
  obtain ⟨hd4, -⟩ := List.nodup_cons.mp hd2
  refine ⟨r.a, r.vs, r.ns, r.n, pre ++ c1.map Row.pr ++ c2.map Row.pr, ?_, ?_, hr.1, hr.2, ?_, ?_, ?_, ?_, ?_⟩
  · rw [List.map_append, List.map_append, List.getElem?_append_right (by rw [List.length_map, List.length_map]; exact Nat.le_refl _), List.length_map, List.length_map, Nat.sub_self]; rfl
  · exact List.mem_map_of_mem (f := Row.a) (List.mem_append_right _ (.head _))
  · rw [List.getD_eq_getElem?_getD, List.map_append, List.getElem?_append_right (by rw [List.length_map]; exact Nat.le_refl _), List.length_map, Nat.sub_self]; rfl
  · intro p hp
    rcases List.mem_append.mp hp with hp | hp
    · rcases List.mem_append.mp hp with hp | hp
      · exact hpre r.a (List.mem_map_of_mem (f := Row.a) (List.mem_append_right _ (.head _))) p hp
      · obtain ⟨q, hq, rfl⟩ := List.mem_map.mp hp
        exact hd3 _ (List.mem_map_of_mem (f := Row.a) hq) _ (.head _)
    · obtain ⟨q, hq, rfl⟩ := List.mem_map.mp hp
      exact fun e => hd4 (e ▸ List.mem_map_of_mem (f := Row.a) hq)
  · intro p hp
    rw [hmid]
    rcases List.mem_cons.mp hp with rfl | hp
    · exact List.mem_append_right _ (.head _)
    · exact (List.mem_append.mp hp).elim (fun q => List.mem_append_left _ q) fun q => List.mem_append_right _ (.tail _ q)
  · intro p hp
    rw [hmid] at hp
    rcases List.mem_append.mp hp with hp | hp
    · exact .tail _ (List.mem_append_left _ hp)
    · exact (List.mem_cons.mp hp).elim (fun e => e ▸ .head _) fun q => .tail _ (List.mem_append_right _ q)
  · intro vs' ns' n' hI hl hg
    refine ⟨c1 ++ ⟨r.a, vs', ns', n'⟩ :: c2, ⟨by simp only [List.map_append, List.map_cons], fun q hq => ?_, ?_⟩, fun p hp => ?_⟩
    · rcases List.mem_append.mp hq with hq | hq
      · have := h2 q (List.mem_append_left _ hq)
        exact ⟨this.1, Nat.le_succ_of_le this.2⟩
      · rcases List.mem_cons.mp hq with rfl | hq
        · exact ⟨hI, hl⟩
        · have := h2 q (List.mem_append_right _ (.tail _ hq))
          exact ⟨this.1, Nat.le_succ_of_le this.2⟩
    · have e : (c1 ++ r :: c2).map Row.ns = c1.map Row.ns ++ r.ns :: c2.map Row.ns := by rw [List.map_append, List.map_cons]
      rw [e, List.set_append_right _ _ (by rw [List.length_map]; exact Nat.le_refl _), List.length_map, Nat.sub_self, List.set_cons_zero] at hg
      rw [List.map_append, List.map_cons]
      exact hg
    · rw [List.map_append, List.map_cons, ← List.append_assoc] at hp
      rcases List.mem_append.mp hp with hp | hp
      · exact .tail _ (List.mem_append_left _ hp)
      · exact (List.mem_cons.mp hp).elim (fun e => e ▸ .head _) fun q => .tail _ (List.mem_append_right _ q)
theorem rows_len {as : List Addr} {rk : Int → Int} {k : Nat} {c : List Row} (h : RowsOk as rk k c) (hk : k < 60) : ∀ i, i < 6 → ((c.map Row.ns).getD i []).length < 60 := fun i _ => by
  rw [List.getD_eq_getElem?_getD, List.getElem?_map]
  cases e : c[i]? with
  | none => exact Nat.zero_lt_succ _
  | some r => exact Nat.lt_of_le_of_lt (h.2.1 r (List.mem_of_getElem? e)).2 hk
end Mine
end
-- NbBh
section
open PySem PySem.W PySem.Calls PyProof.Rows
namespace Mine
theorem reset_NbBh : True := by
  w_top off
  trivial
set_option maxRecDepth 100000
set_option maxHeartbeats 8000000
local macro_rules | `(tactic| walk_at $s:str) => if ["call ref", "exec For Name Name cons nil", "exec If", "CompSrc"].contains s.getString then `(tactic| refine stop ?_) else Lean.Macro.throwUnsupported
local macro_rules | `(tactic| k_all) => `(tactic| with_reducible assumption)
local macro_rules | `(tactic| walk_at "compareOp NotIn int ref") => `(tactic| refine notin_list_ints (PySem.IsL.isList (News.get (by assumption) (by k_mem))) (by assumption) ?_)
variable {w : World} {p : Program} {loose : List Str} {mean : ExcName → Option Value} {mg mb : Str → Option Value} {dp un : Nat} {gd : Option (List Code)} {cn : Str} {cs : Scope} {a : Addr} {ccd : Value} {cl : List (Str × Addr)} {outer : List Env} {A₀ : Around} {base h₀ : Heap} {L : Addr} {m : Str → Option Value} {s : Shared} {Q E : Value → Shared → Prop}

theorem Stop.go' {p : Prop} (h : Stop p) : p := h
/-- an item of a list at a place within it -/
theorem item_at {prog : Program} {A : Around} {value slice : PySem.Expr} {l : Addr} {vs : List Value} {k : Int} {u : Tok} {v : Value}
    (hl : s.heap.IsList l vs.toArray) (h0 : 0 ≤ k) (hhi : k < 2 ^ 63) (hx : vs[k.toNat]? = some v) (h : Q v s)
    (hs : subscripted slice false (.ref l) (.int k u) = operate [.ref l, .int k u] (getItem (.ref l) (.int k u)) := by with_unfolding_all rfl) :
    wpAny (model prog w) A (subscriptTail value slice (.ref l) (.int k u)) Q E s :=
  tail_any hl.typeIs slot_list_getitem.lookup (wpAny_getItem_list hl h0 hhi (by simpa using hx) h) hs
theorem lst_at {h : Heap} {a : Addr} {ys : List Value} (e : h.get? a = some (LCg.lst ys)) : h.IsList a ys.toArray := ⟨_, e, rfl, _, rfl⟩
theorem isList_at {h : Heap} {a : Addr} {xs : Array Value} {n : Nat} (e : h.get? a = some (listOf xs n)) : h.IsList a xs := ⟨_, e, rfl, n, rfl⟩
theorem allLt_ne {D : Addr} {tl : List (Addr × Obj)} (h : AllLt D tl) : ∀ p ∈ tl, p.1 ≠ D := by
  induction tl with
  | nil => intro p hp; cases hp
  | cons q r ih =>
    intro p hp
    rcases List.mem_cons.mp hp with rfl | hp
    · exact Nat.ne_of_lt h.1
    · exact ih h.2 p hp
theorem off1_ne {D : Addr} {tl : List (Addr × Obj)} (h : LCg.Off1 D tl) : ∀ p ∈ tl, p.1 ≠ D := by
  induction tl with
  | nil => intro p hp; cases hp
  | cons q r ih =>
    intro p hp
    rcases List.mem_cons.mp hp with rfl | hp
    · exact h.1
    · exact ih h.2 p hp
noncomputable def BhMid (g : Heap) (L' : Addr) (m9 : Str → Option Value) (led : List (Addr × Obj)) (rk : Int → Int) (s : Shared) (fl : Flow) (s' : Shared) : Prop :=
  ∃ f q tf tq h' tk, fl = .next ∧ s' = {s with heap := h', toks := tk} ∧ 0 ≤ f ∧ f < 6 ∧ 0 ≤ q ∧ q < 6 ∧ ¬ (rk q < rk f) ∧ Fr g L' h' (fun y => if y = Str.ofString "first" then some (.int f tf) else if y = Str.ofString "second" then some (.int q tq) else m9 y) ∧ News g L' h' led
theorem mid_of {M : Model} {A : Around} {t : Sem Flow} {Q : Flow → Shared → Prop} {E : Value → Shared → Prop} {s : Shared} {g h : Heap} {L' : Addr} {m9 : Str → Option Value} {led : List (Addr × Obj)} {rk : Int → Int} (_ : Fr g L' h m9) (_ : News g L' h led)
    (h1 : wpAny M A t (BhMid g L' m9 led rk s) E s) (h2 : ∀ fl s', BhMid g L' m9 led rk s fl s' → Q fl s') : wpAny M A t Q E s := wpAny_mono h1 h2 fun _ _ x => x
theorem bhMid_of {g h' : Heap} {L' : Addr} {m9 m2 : Str → Option Value} {led : List (Addr × Obj)} {rk : Int → Int} {s : Shared} {f q : Int} {tf tq : Tok} {tk : Nat} (F2 : Fr g L' h' m2) (N2 : News g L' h' led) (h1 : m2 (Str.ofString "first") = some (.int f tf)) (h2 : m2 (Str.ofString "second") = some (.int q tq))
    (h3 : ∀ y, y ≠ Str.ofString "first" → y ≠ Str.ofString "second" → m2 y = m9 y) (a : 0 ≤ f) (b : f < 6) (c : 0 ≤ q) (d : q < 6) (e : ¬ (rk q < rk f)) : BhMid g L' m9 led rk s .next {s with heap := h', toks := tk} := by
  refine ⟨f, q, tf, tq, h', tk, rfl, rfl, a, b, c, d, e, Fr.of_eq F2 fun y => ?_, N2⟩
  by_cases e1 : y = Str.ofString "first"
  · rw [if_pos e1, e1]; exact h1
  · by_cases e2 : y = Str.ofString "second"
    · rw [if_neg e1, if_pos e2, e2]; exact h2
    · rw [if_neg e1, if_neg e2]; exact h3 y e1 e2
theorem ex_bh {g h : Heap} {L a : Addr} {v1 v2 v3 v4 v5 : Value} {t : Tok} (_ : News g L h [(a, listOf #[Value.int 2 t, v1, v2, v3, v4, v5] 0)]) :
    ∃ a' t', a' = a ∧ t' = t := ⟨a, t, rfl, rfl⟩
theorem ex_bh2 {g h : Heap} {L a : Addr} {o : Obj} {tl : List (Addr × Obj)} (_ : News g L h ((a, o) :: tl)) : ∃ a', a' = a := ⟨a, rfl⟩
theorem mem_ins {α : Type} {x y d p : α} {l : List α} (h : p ∈ x :: y :: l) : p ∈ x :: d :: y :: l := by
  rcases List.mem_cons.mp h with rfl | h
  · exact .head _
  · exact .tail _ (.tail _ h)
theorem mem_del {α : Type} {x y d p : α} {l : List α} (h : p ∈ x :: d :: y :: l) : p = d ∨ p ∈ x :: y :: l := by
  rcases List.mem_cons.mp h with rfl | h
  · exact .inr (.head _)
  · exact (List.mem_cons.mp h).imp id fun h => .tail _ h
local macro_rules | `(tactic| walk_at "subscriptTail Name Name ref int") => `(tactic| refine item_at (lst_at (News.get (by assumption) (.tail _ (.head _)))) (by omega) (by omega) (by assumption) ?_)
theorem behind_int {l : Addr} {vs : List Value} {ns : List Int} {n : Nat} (C : Cx w p loose mean mg mb dp un cs outer A₀ base h₀ L m s.heap 3) (hl : s.heap.get? l = some (listOf vs.toArray n))
    (hi : IntsAre vs ns) (hlen : ns.length < 60)
    (ret : ∀ D as (c : List Row) k rk h' tk', as.length = 6 → RowsOk as rk k c → k < 60 → Kept s.heap h' [] → s.heap.get? D = none → h'.get? D = some (LCg.lst (as.map Value.ref)) →
      (∀ q ∈ c.map Row.pr, h'.get? q.1 = some q.2 ∧ s.heap.get? q.1 = none) → Q (.ref D) {s with heap := h', toks := tk'}) :
    wpAny (model Challenge.rw_nb0005_01.row.prog w) (ktrTop dp un gd cn cs L a ccd cl outer) (call (.ref 101) [.ref l]) Q E s := by
  obtain ⟨B, F, X, T, hk, hdp, hun⟩ := C
  have hvl := hi.length
  have hiS := Stop.go hi
  clear hi
  refine enter (binds := [(Str.ofString "numbers", .ref l)]) (tch := []) B F X (fun _ h => nomatch h) T hk (by k_dflt k_is) (by k_dflt k_is) (room0 hdp) (BindsTo.of_eq (by rfl)) (locs rfl) rfl rfl rfl (by decide) ?_
  clear F B X T
  intro g L' h₁ tk hg F N B X T
  simp only [List.map_nil] at hg
  (try dsimp only); (try k_fold)
  have hgl : g.IsList l vs.toArray := ⟨_, hg l _ hl (by simp), rfl, n, rfl⟩
  k_steps
  refine Stop.go ?_
  (rename IsRange _ _ _ _ _ _ _ _ => hRg); (rename Fr _ _ _ _ => eF); (rename News _ _ _ _ => eN)
  obtain ⟨S, tk0, hX1, hX2⟩ := ex_bh eN
  subst hX1 hX2
  refine LCg.CompSrc.range (n := 6) (by rfl) eF eN hRg (by decide) (by decide) (by first | size_fits | exact Nat.le_of_ble_eq_true rfl) ?_
  intro g'
  clear hRg
  refine made_all (fun _ => trivial) ?cT ?cF
  case cT =>
    clear eF eN
    intro I oI C oC Dd ys h tk nw Q' E' F8 N8 hQ
    dsimp only
    k_steps
    (rename Fr _ _ _ _ => eF); (rename News _ _ _ _ => eN); (rename (@LT.lt Nat _ I _ ∧ _) => l1)
    exact hQ _ _ _ eF eN (allLt_ne l1)
  case cF =>
    clear eF eN
    intro as h6 hnd hbs
    k_steps
    refine Stop.go ?_
    (rename LCg.Off1 _ _ => oD); (rename Fr _ _ _ _ => eF); (rename News _ _ _ _ => eN)
    obtain ⟨D, hX1⟩ := ex_bh2 eN
    subst hX1
    refine For_invV g rfl rfl ?_ (by intro _; rfl) PassesOwn.never
    k_dflt (refine nameX_L eF (by rfl) ?_)
    have hSD : @Ne Nat S D := off1_ne oD _ (List.mem_append_left _ (.head _))
    have hDa : ∀ a ∈ as, a ≠ D := fun a ha => off1_ne oD _ (List.mem_append_right _ (List.mem_map_of_mem (f := rowO) ha))
    have hlt : ∀ p ∈ (D, LCg.lst (as.map Value.ref)) :: (S, _) :: as.map rowO, p.1 < _ := fun p hp => Heap.lt_size (eN.get hp)
    clear oD
    refine for_list (σ := List Row) rfl hgl (fun c => (D, LCg.lst (as.map Value.ref)) :: (S, listOf #[Value.int 2 tk0, Value.int 4 (tk0 + 1), Value.int 1 (tk0 + 1 + 1), Value.int 5 (tk0 + 1 + 1 + 1), Value.int 3 (tk0 + 1 + 1 + 1 + 1), Value.int 0 (tk0 + 1 + 1 + 1 + 1 + 1)] 0) :: c.map Row.pr) (fun c => []) [Str.ofString "first", Str.ofString "second"] (fun k c => RowsOk as (rkF ns.sum) k c) (as.map fun a => ⟨a, [], [], 0⟩) eF (by rw [start_pr]; exact eN) ?gI (fun _ h => nomatch h) (rowsOk_start _ _) ?gT ?gE
    case gI =>
      clear eF eN
      intro i c hP p hp
      refine Nat.ne_of_lt ?_
      rcases List.mem_cons.mp hp with rfl | hp
      · exact hlt (D, _) (.head _)
      rcases List.mem_cons.mp hp with rfl | hp
      · exact hlt (S, _) (.tail _ (.head _))
      · exact hlt (rowO p.1) (.tail _ (.tail _ (List.mem_map_of_mem (f := rowO) (hP.addr p hp))))
    case gE =>
      clear eF eN hlt hDa hbs hSD
      intro c u9 h9 tk9 hP9 F9 N9
      dsimp only at F9 N9 ⊢
      try k_fold
      k_steps
      (rename Fr _ _ _ _ => eF); (rename News _ _ _ _ => eN)
      refine ret D as c _ _ _ _ h6 hP9 (by rw [List.size_toArray]; omega) (fun b o e n => eF.keep b o (hg b o e (by simp))) (fresh_of0 hg (eN _ (.head _)).2.2) (eN.get (.head _)) (fun q hq => ?_)
      have hm := eN _ (.tail _ (.tail _ hq))
      exact ⟨hm.1, fresh_of0 hg hm.2.2⟩
    case gT =>
      rintro I k vv c u9 h9 tk9 o9 hI9 hk9 hv9 hP F9 N9
      have hIa : ∀ a ∈ as, @Ne Nat I a := fun a ha => by
        rw [hI9]; exact (Nat.ne_of_lt (hlt (rowO a) (.tail _ (.tail _ (List.mem_map_of_mem (f := rowO) ha))))).symm
      have hID : @Ne Nat I D := by rw [hI9]; exact (Nat.ne_of_lt (hlt (D, _) (.head _))).symm
      have hIS : @Ne Nat I S := by rw [hI9]; exact (Nat.ne_of_lt (hlt (S, _) (.tail _ (.head _)))).symm
      clear eF eN hI9 hlt
      dsimp only at F9 N9 hv9 ⊢
      obtain ⟨te, hte⟩ := ints_at hiS.go' k (by rw [List.size_toArray] at hk9; omega)
      obtain rfl : vv = .int (ns[k]'(by rw [List.size_toArray] at hk9; omega)) te := by
        have e : vs[k]? = some vv := by simpa using hv9
        exact Option.some.inj (e.symm.trans hte)
      rw [List.size_toArray] at hk9
      clear hte hv9
      refine gen_post fun FP hFP => ?_
      try k_fold
      k_steps
      refine Stop.go ?_
      (rename Fr _ _ _ _ => eF); (rename News _ _ _ _ => eN)
      have hm0 := Int.fmod_nonneg_of_pos (ns[k]) (show (0 : Int) < 6 by decide)
      have hm1 := Int.fmod_lt_of_pos (ns[k]) (show (0 : Int) < 6 by decide)
      have hd0 := Int.fmod_nonneg_of_pos (ns[k].fdiv 6) (show (0 : Int) < 6 by decide)
      have hd1 := Int.fmod_lt_of_pos (ns[k].fdiv 6) (show (0 : Int) < 6 by decide)
      refine mid_of (rk := rkF ns.sum) F9 N9 ?c1 ?c2
      case c1 =>
        refine wpAny_If ?_
        k_steps
        · (rename Fr _ _ _ _ => eF2); (rename News _ _ _ _ => eN2)
          refine bhMid_of eF2 (fun p hp => eN2 p (.tail _ hp)) (by rfl) (by rfl) (fun y h1 h2 => by simp only [h1, h2, if_false]) hd0 hd1 hm0 hm1 ?_
          rename _ < _ => hlt
          exact Int.not_lt.mpr (Int.le_of_lt hlt)
        · (rename Fr _ _ _ _ => eF2); (rename News _ _ _ _ => eN2)
          exact bhMid_of eF2 eN2 (by rfl) (by rfl) (fun y h1 h2 => by simp only [h1, h2, if_false]) hm0 hm1 hd0 hd1 (by assumption)
      case c2 =>
        clear eF eN F9 N9 hm0 hm1 hd0 hd1
        rintro fl s' ⟨f, q, tf, tq, h8, tk8, rfl, rfl, hf0, hf6, hq0, hq6, hrk, F8, N8⟩
        obtain ⟨ra, rvs, rns, rn, tl, hx, hra, hri, hrl, hrD, htl, hsub, hsup, hput⟩ := hP.split (i := f.toNat) (pre := (I, o9) :: [(S, listOf #[Value.int 2 tk0, Value.int 4 (tk0 + 1), Value.int 1 (tk0 + 1 + 1), Value.int 5 (tk0 + 1 + 1 + 1), Value.int 3 (tk0 + 1 + 1 + 1 + 1), Value.int 0 (tk0 + 1 + 1 + 1 + 1 + 1)] 0)]) hnd (by omega) (fun a ha => List.forall_mem_cons.mpr ⟨hIa a ha, hbs a ha⟩)
        have hDr := (hDa ra hra).symm
        have N8' : News g L' h8 ((ra, listOf rvs.toArray rn) :: (D, LCg.lst (as.map Value.ref)) :: tl) := fun p hp => by
          rcases List.mem_cons.mp hp with rfl | hp
          · exact N8 _ (mem_ins (hsub _ (.head _)))
          rcases List.mem_cons.mp hp with rfl | hp
          · exact N8 _ (.tail _ (.head _))
          · exact N8 _ (mem_ins (hsub _ (.tail _ hp)))
        clear N8 hIa hID hIS hDa hbs hra hsub hSD
        have hlc : (c.map Row.ns).length = 6 := by rw [List.length_map, ← h6, ← hP.1, List.length_map]
        have hgp := fun hne hn => good_pushI hP.2.2 f.toNat (by omega) (by omega) hq0 hq6 (rk_lt hf0 hf6 hq0 hq6 hne hrk) hn
        rw [hrD] at hgp
        dsimp only
        k_steps
        refine Stop.go ?_
        refine wpAny_If ?_
        k_steps
        all_goals ((rename Fr _ _ _ _ => eF); (rename News _ _ _ _ => eN); (try simp only [List.push_toArray] at eN); refine hFP _ _ ?_; dsimp only [ForPost])
        all_goals first
          | (refine for_end c eF eN ?_ (fun _ h => nomatch h) ?_ hP.mono
             · intro p hp
               rcases mem_del hp with rfl | hp
               · exact .tail _ (.head _)
               · exact (List.mem_cons.mp (hsup p hp)).elim (fun e => e ▸ .head _) fun h => .tail _ (.tail _ h)
             · intro z h1 h2 h3
               (simp only [List.contains_cons, List.contains_nil, Bool.or_false, Bool.or_eq_false_iff, beq_eq_false_iff_ne, ne_eq] at h3)
               simp [kstB, h1, h3])
          | (obtain ⟨c', hc', hin⟩ := hput _ _ _ (hri.append (.cons _ _ .nil)) (by simp only [List.length_append, List.length_cons, List.length_nil]; omega) (hgp (by assumption) (by assumption))
             refine for_end c' eF eN ?_ (fun _ h => nomatch h) ?_ hc'
             · intro p hp
               rcases mem_del hp with rfl | hp
               · exact .tail _ (.head _)
               · exact (List.mem_cons.mp (hin p hp)).elim (fun e => e ▸ .head _) fun h => .tail _ (.tail _ h)
             · intro z h1 h2 h3
               (simp only [List.contains_cons, List.contains_nil, Bool.or_false, Bool.or_eq_false_iff, beq_eq_false_iff_ne, ne_eq] at h3)
               simp [kstB, h1, h3])
end Mine
end
-- NbLoopT
section
open PySem PySem.W PySem.Calls PyProof.Rows
namespace Mine
set_option maxRecDepth 100000
set_option maxHeartbeats 8000000
section
variable {prog : Program} {w : World} {A : Around} {E : Value → Shared → Prop} {s : Shared} {h₀ : Heap} {env : Env} {x : Str} {px : Pos} {body : List Stmt} {Q : Flow → Shared → Prop}
/-- a turn's end, the loop's name held in a cell of the ledger -/
noncomputable def ForPostT {σ : Type} (h₀ : Heap) (L : Addr) (s : Shared) (I : Addr) (o : Obj) (Led : σ → List (Addr × Obj)) (ps : σ → List (Str × Value)) (stored : List Str) (m₀ : Str → Option Value) (P : σ → Prop) (f : Flow) (s₂ : Shared) : Prop :=
  f = .next ∧ ∃ (c' : σ) (h' : Heap) (tk : Nat) (m' : Str → Option Value), s₂ = { s with heap := h', toks := tk } ∧ Fr h₀ L h' m' ∧ News h₀ L h' ((I, o) :: Led c') ∧ (∀ p ∈ ps c', m' p.1 = some p.2) ∧ (∀ z, (∀ p ∈ ps c', z ≠ p.1) → stored.contains z = false → m' z = m₀ z) ∧ P c'
theorem for_endT {σ : Type} {L : Addr} {I : Addr} {o : Obj} {Led : σ → List (Addr × Obj)} {ps : σ → List (Str × Value)} {stored : List Str} {m₀ m' : Str → Option Value} {P : σ → Prop} {h' : Heap} {tk : Nat} (c' : σ) {news' : List (Addr × Obj)}
    (F : Fr h₀ L h' m') (N : News h₀ L h' news') (hn : ∀ p ∈ (I, o) :: Led c', p ∈ news') (hk : ∀ p ∈ ps c', m' p.1 = some p.2) (hr : ∀ z, (∀ p ∈ ps c', z ≠ p.1) → stored.contains z = false → m' z = m₀ z) (hp : P c') :
    ForPostT h₀ L s I o Led ps stored m₀ P .next { s with heap := h', toks := tk } := ⟨rfl, c', h', tk, m', rfl, F, fun p hp => N p (hn p hp), hk, hr, hp⟩
theorem kstT_fr {h₀ h : Heap} {L : Addr} {ps : List (Str × Value)} {stored : List Str} {m m₀ : Str → Option Value} (h1 : ∀ p ∈ ps, m p.1 = some p.2) (h2 : ∀ z, (∀ p ∈ ps, z ≠ p.1) → stored.contains z = false → m z = m₀ z) (F : Fr h₀ L h m) :
    Fr h₀ L h (kstB (fun z => if stored.contains z then m z else m₀ z) ps) := by
  have e : kstB (fun z => if stored.contains z then m z else m₀ z) ps = m := by
    funext y
    refine kstB_eq h1 fun hn => ?_
    by_cases hc : stored.contains y = true
    · rw [if_pos hc]
    · rw [if_neg hc]; exact (h2 y hn (by simpa using hc)).symm
  rw [e]; exact F
/-- for x in range(..), x held in a cell -/
theorem for_rangeT {σ : Type} {r : Addr} {a b c₁ : Int} {t u₁ v₁ : Tok} (n : Nat) {m₀ : Str → Option Value} (hh : A.handled = none) (hr : IsRange s.heap r a b c₁ t u₁ v₁) (hsmall : Builtin.Range.small a b c₁ = true) (hn : Builtin.Range.rangeSize a b c₁ = (n : Int))
    (Led : σ → List (Addr × Obj)) (ps : σ → List (Str × Value)) (stored : List Str) (P : Nat → σ → Prop) (c₀ : σ)
    (F : Fr h₀ env.locals s.heap m₀) (N : News h₀ env.locals s.heap (Led c₀)) (hnI : ∀ i c, P i c → ∀ p ∈ Led c, p.1 ≠ s.heap.objs.size) (hk : ∀ p ∈ ps c₀, m₀ p.1 = some p.2) (hp : P 0 c₀)
    (turn : ∀ (I : Addr) i t (c : σ) (u : Str → Option Value) s₁ o, I = s.heap.objs.size → i < n → P i c → Fr h₀ env.locals s₁.heap (kstB (fun z => if stored.contains z then u z else m₀ z) (ps c)) →
      News h₀ env.locals s₁.heap ((I, o) :: Led c) →
      wpAny (model prog w) A (storeName env x (.int (a + i * c₁) t)) (fun _ s₃ => wpAny (model prog w) A (execs body env) (ForPostT h₀ env.locals s₁ I o Led ps stored m₀ (P (i + 1))) E s₃) E s₁)
    (done : ∀ (c : σ) (u : Str → Option Value) h tk, P n c → Fr h₀ env.locals h (kstB (fun z => if stored.contains z then u z else m₀ z) (ps c)) → News h₀ env.locals h (Led c) → Q .next { s with heap := h, toks := tk }) :
    wpAny (model prog w) A (pyIter (.ref r)) (fun it s₂ => LoopAtT prog w A h₀ env (.Name x px) body Q E it s₂) E s := by
  refine wpAny_pyIter_range hr hsmall ?_
  let J : Nat → (Str → Option Value) → List (Addr × Obj) → Prop := fun i m nx => ∃ c : σ, nx = Led c ∧ (∀ p ∈ ps c, m p.1 = some p.2) ∧ (∀ z, (∀ p ∈ ps c, z ≠ p.1) → stored.contains z = false → m z = m₀ z) ∧ P i c
  have hI0 : h₀.get? s.heap.objs.size = none := Heap.get?_none_of_le (Nat.le_trans F.above (Nat.le_of_lt F.ns.lt))
  refine ⟨s.heap.objs.size, _, _, n, _, _, m₀, Led c₀, J, rfl, Walks.range hh s.heap.objs.size a c₁ n, ?_, ?_, ?_, (by show IsRangeIter _ _ _ _ _; rw [hn]; simpa using Heap.get?_push_size _ rfl), F.push _, (fun p hp => ⟨Heap.get?_push_of_some _ (N p hp).1, (N p hp).2⟩), ?_, ⟨c₀, rfl, hk, fun _ _ _ => rfl, hp⟩, ?_, ?_⟩
  · intro q
    exact absurd F.ns.lt (by rw [List.mem_singleton.mp q]; exact Nat.lt_irrefl _)
  · intro b hb; rw [List.mem_singleton.mp hb]; exact hI0
  · intro p hq hI; exact hnI 0 c₀ hp p hq (List.mem_singleton.mp hI)
  · intro i s' v Q' _ hQ; exact wpAny_pure hQ
  · rintro i v m₁ nx s₁ own hin ⟨t, rfl⟩ ⟨c, rfl, h1, h2, hp'⟩ hoff hown hgets hall hst' F₁ N₁
    have ho : s₁.heap.get? s.heap.objs.size = some _ := hst'
    have hm := hall _ (.head _) hI0 _ ho
    have N₂ : News h₀ env.locals s₁.heap ((s.heap.objs.size, _) :: Led c) := fun p hp => by
      rcases List.mem_cons.mp hp with rfl | hp
      · exact N₁ _ (List.mem_append_left _ hm)
      · exact N₁ p (List.mem_append_right _ hp)
    refine wpAny_assign_Name (wpAny_mono (turn _ i t c m₁ s₁ _ rfl hin hp' (kstT_fr h1 h2 F₁) N₂) (fun _ s₃ q => wpAny_mono q (fun f s₂ q => ?_) fun _ _ e => e) fun _ _ e => e)
    obtain ⟨rfl, c', h', tk, m', rfl, F', N', hk', hr', hp9⟩ := q
    refine ⟨rfl, h', tk, m', Led c', rfl, F', fun p hp => ?_, fun p hp hI => hnI _ c' hp9 p hp (List.mem_singleton.mp hI), c', rfl, hk', hr', hp9⟩
    rcases List.mem_append.mp hp with hpo | hpl
    · have hget := hgets p hpo
      have e : p.1 = s.heap.objs.size := List.mem_singleton.mp (hown p hpo)
      have e2 : p.2 = _ := Option.some.inj (hget.symm.trans (e ▸ ho))
      have e3 : p = (s.heap.objs.size, _) := Prod.ext e e2
      rw [e3]; exact N' _ (.head _)
    · exact N' p (.tail _ hpl)
  · rintro h' tk m' nx F' N' _ ⟨c, rfl, h1, h2, hp'⟩
    exact done c m' h' tk hp' (kstT_fr h1 h2 F') N'
end
end Mine
end
-- NbRows
section
open PySem PySem.W PySem.Calls PyProof.Rows
namespace Mine
set_option maxRecDepth 100000
set_option maxHeartbeats 8000000
/-- a list of six lists of ints, as it lies in a heap -/
structure RowsAt (h : Heap) (D : Addr) (items : List Value) (R : List (List Int)) : Prop where
  list : h.IsList D items.toArray
  row : ∀ i, i < 6 → ∃ a vs, items[i]? = some (.ref a) ∧ h.IsList a vs.toArray ∧ IntsAre vs (R.getD i [])
theorem isList_kept {h h' : Heap} {a : Addr} {xs : Array Value} (k : Kept h h' []) (e : h.IsList a xs) : h'.IsList a xs := e.at fun o q => k a o q (by simp)
theorem RowsAt.kept {h h' : Heap} {D : Addr} {items : List Value} {R : List (List Int)} (r : RowsAt h D items R) (k : Kept h h' []) : RowsAt h' D items R :=
  ⟨isList_kept k r.list, fun i hi => by obtain ⟨a, vs, e1, e2, e3⟩ := r.row i hi; exact ⟨a, vs, e1, isList_kept k e2, e3⟩⟩
theorem RowsAt.fr {g h : Heap} {L : Addr} {m : Str → Option Value} {D : Addr} {items : List Value} {R : List (List Int)} (r : RowsAt g D items R) (F : Fr g L h m) : RowsAt h D items R := r.kept fun b o e _ => F.keep b o e
theorem RowsAt.rowE {G : Prop} {h : Heap} {D : Addr} {items : List Value} {R : List (List Int)} (r : RowsAt h D items R) (i : Nat) (hi : i < 6)
    (k : ∀ a vs, items[i]? = some (.ref a) → h.IsList a vs.toArray → IntsAre vs (R.getD i []) → G) : G := by
  obtain ⟨a, vs, e1, e2, e3⟩ := r.row i hi
  exact k a vs e1 e2 e3
theorem rows_of {h : Heap} {D : Addr} {as : List Addr} {c : List Row} {rk : Int → Int} {k : Nat} (hO : RowsOk as rk k c) (h6 : as.length = 6) (hD : h.get? D = some (LCg.lst (as.map Value.ref)))
    (hr : ∀ q ∈ c.map Row.pr, h.get? q.1 = some q.2) : RowsAt h D (as.map Value.ref) (c.map Row.ns) := by
  obtain ⟨rfl, h2, _⟩ := hO
  rw [List.length_map] at h6
  refine ⟨lst_at hD, fun i hi => ?_⟩
  have hi : i < c.length := by rw [h6]; exact hi
  have hm := List.getElem_mem hi
  refine ⟨c[i].a, c[i].vs, ?_, isList_at (hr _ (List.mem_map_of_mem (f := Row.pr) hm)), ?_⟩
  · rw [List.map_map, List.getElem?_map, List.getElem?_eq_getElem hi]; rfl
  · rw [List.getD_eq_getElem?_getD, List.getElem?_map, List.getElem?_eq_getElem hi]
    exact (h2 _ hm).1
end Mine
end
-- NbFilt
section
open PySem PySem.W PySem.Calls PyProof.Rows PyProof.Rows.LCg PyProof.Rows.LCt
namespace Mine
set_option maxRecDepth 100000
set_option maxHeartbeats 8000000
section
variable {prog : Program} {w : World} {A : Around} {E : Value → Shared → Prop} {s : Shared} {h₀ : Heap} {L : Addr} {m : Str → Option Value} {env : Env}
/-- the state of a comprehension's turn is as it was, but for the names' marks -/
noncomputable def CompSame (h₀ : Heap) (L : Addr) (m : Str → Option Value) (s : Shared) (all : List (Addr × Obj)) (s' : Shared) : Prop := ∃ h' tk', s' = { s with heap := h', toks := tk' } ∧ Fr h₀ L h' m ∧ News h₀ L h' all
theorem compSame_of {h' : Heap} {tk' : Nat} {all all' : List (Addr × Obj)} (F : Fr h₀ L h' m) (N : News h₀ L h' all') (sub : ∀ p ∈ all, p ∈ all') : CompSame h₀ L m s all { s with heap := h', toks := tk' } := ⟨h', tk', rfl, F, fun p hp => N p (sub p hp)⟩
/-- what a turn of [elt for x in xs if ct] must show: the test's answer, and that the element is f of the item -/
noncomputable def FiltTurn (prog : Program) (w : World) (A : Around) (h₀ : Heap) (L : Addr) (m : Str → Option Value) (env : Env) (ct elt : Expr) (x : Str) (scope : Scope) (cl : List (Str × Addr)) (s : Shared) (news : List (Addr × Obj)) (n : Int) (b : Bool) (y : Int) : Prop :=
  ∀ t I oI C oC D ys m₂ h tk (E' : Value → Shared → Prop), NsObj oC m₂ → m₂ x = some (.int n t) → Fr h₀ L h m → News h₀ L h ((I, oI) :: (C, oC) :: (D, lst ys) :: news) → Off3 I C D news → ((@Ne Nat I C) ∧ (@Ne Nat I D) ∧ (@Ne Nat C D)) →
    wpAny (model prog w) A (isTrue ct (compEnvC scope cl C env) (eval ct (compEnvC scope cl C env)))
      (fun ok s' => ok = b ∧ (if b = true then wpAny (model prog w) A (eval elt (compEnvC scope cl C env)) (fun v s'' => (∃ t', v = .int y t') ∧ CompSame h₀ L m { s with heap := h, toks := tk } ((I, oI) :: (C, oC) :: (D, lst ys) :: news) s'') E' s'
        else CompSame h₀ L m { s with heap := h, toks := tk } ((I, oI) :: (C, oC) :: (D, lst ys) :: news) s')) E' { s with heap := h, toks := tk }
theorem filt_rest {ct elt : Expr} {x : Str} {scope : Scope} {cl : List (Str × Addr)} {S : List (Addr × Obj) → Prop} {P : Nat → Value → Prop} {Fin : List Value → List (Addr × Obj) → Prop} {news : List (Addr × Obj)} {xs : List Int} (pr : Int → Bool) (f : Int → Int) (hS : S news)
    (hP : ∀ i (hi : i < xs.length) v, P i v → ∃ t, v = .int xs[i] t)
    (turn : ∀ n ∈ xs, FiltTurn prog w A h₀ L m env ct elt x scope cl s news n (pr n) (f n))
    (hF : ∀ ys, IntsAre ys ((xs.filter pr).map f) → Fin ys news) :
    ∀ k i ys, i + k = xs.length → IntsAre ys (((xs.take i).filter pr).map f) → CompRestT prog w A h₀ L m env ct elt x scope cl s S P Fin k i ys news := by
  intro k
  induction k with
  | zero =>
    intro i ys hi hy
    refine CompRestT.zero (hF ys ?_)
    rwa [List.take_of_length_le (by omega)] at hy
  | succ k ih =>
    intro i ys hi hy
    refine CompRestT.succ ?_
    intro v I oI C oC D m₂ h tk E' hPv hC hx F N off ne
    have hlt : i < xs.length := by omega
    obtain ⟨t, rfl⟩ := hP i hlt v hPv
    have e : (xs.take (i + 1)) = xs.take i ++ [xs[i]] := by simp
    refine wpAny_mono (turn xs[i] (List.getElem_mem hlt) t I oI C oC D ys m₂ h tk E' hC hx F N off ne) (fun ok s' q => ?_) fun _ _ x => x
    obtain ⟨rfl, q⟩ := q
    by_cases hb : pr xs[i] = true
    · rw [if_pos hb] at q ⊢
      refine wpAny_mono q (fun v s'' q => ?_) fun _ _ x => x
      obtain ⟨⟨t', rfl⟩, h', tk', rfl, F', N'⟩ := q
      refine CompEnd.intro F' N' news (fun p hp => hp) off hS (ih (i + 1) (ys ++ [.int (f xs[i]) t']) (by omega) ?_)
      rw [e, List.filter_append, List.map_append, List.filter_cons_of_pos hb]
      exact hy.append (.cons _ _ .nil)
    · rw [if_neg hb] at q ⊢
      obtain ⟨h', tk', rfl, F', N'⟩ := q
      refine CompEnd.intro F' N' news (fun p hp => hp) off hS (ih (i + 1) ys (by omega) ?_)
      rw [e, List.filter_append, List.filter_cons_of_neg hb]
      simpa using hy
theorem filt_all {ct elt : Expr} {x : Str} {scope : Scope} {cl : List (Str × Addr)} {S : List (Addr × Obj) → Prop} {P : Nat → Value → Prop} {Fin : List Value → List (Addr × Obj) → Prop} {news : List (Addr × Obj)} (xs : List Int) (pr : Int → Bool) (f : Int → Int) {n : Nat} (hn : n = xs.length) (hS : S news)
    (hP : ∀ i (hi : i < xs.length) v, P i v → ∃ t, v = .int xs[i] t)
    (turn : ∀ n ∈ xs, FiltTurn prog w A h₀ L m env ct elt x scope cl s news n (pr n) (f n))
    (hF : ∀ ys, IntsAre ys ((xs.filter pr).map f) → Fin ys news) : CompRestT prog w A h₀ L m env ct elt x scope cl s S P Fin n 0 [] news :=
  filt_rest pr f hS hP turn hF n 0 [] (by omega) (by simpa using IntsAre.nil)
theorem ints_src {vs : List Value} {xs : List Int} (h : IntsAre vs xs) : ∀ i (hi : i < xs.length) v, vs.toArray[i]? = some v → ∃ t, v = .int xs[i] t := fun i hi v e => by
  obtain ⟨t, ht⟩ := h.get i xs[i] (by simp [hi])
  refine ⟨t, ?_⟩
  have e' : vs[i]? = some v := by simpa using e
  exact Option.some.inj (e'.symm.trans ht)
theorem six_src : ∀ i (hi : i < ([0, 1, 2, 3, 4, 5] : List Int).length) v, (∃ t, v = Value.int (0 + (i : Int)) t) → ∃ t, v = .int ([0, 1, 2, 3, 4, 5] : List Int)[i] t := by
  rintro i hi v ⟨t, rfl⟩
  refine ⟨t, ?_⟩
  have : i = 0 ∨ i = 1 ∨ i = 2 ∨ i = 3 ∨ i = 4 ∨ i = 5 := by simp at hi; omega
  rcases this with rfl | rfl | rfl | rfl | rfl | rfl <;> rfl
theorem six_mem {n : Int} (h : n ∈ ([0, 1, 2, 3, 4, 5] : List Int)) : 0 ≤ n ∧ n < 6 := by
  simp only [List.mem_cons, List.not_mem_nil, or_false] at h
  omega
end
end Mine
end
-- NbPlain
section
open PySem PySem.W PySem.Calls PyProof.Rows
namespace Mine
noncomputable def insB (sm n : Int) : Bool := (sm.fdiv (2 ^ n.toNat)).fmod 2 == 1
noncomputable def insI (sm : Int) : List Int := [0, 1, 2, 3, 4, 5].filter (insB sm)
noncomputable def frB (R : List (List Int)) (ins : List Int) (t : Int) : Bool := ((R.getD t.toNat []).filter fun one => ins.any fun x => x == one) == []
noncomputable def wayF (tab : List (List Int)) (sm len t : Int) : List Int := (tab.getD (sm - 2 ^ t.toNat).toNat []).set t.toNat len
noncomputable def bestF (R : List (List Int)) (tab : List (List Int)) (sm : Int) (ins : List Int) (best : List Int) (t : Int) : List Int :=
  if frB R ins t = true then (if best = [] ∨ lexLt (wayF tab sm ins.length t) best = true then wayF tab sm ins.length t else best) else best
noncomputable def rowF (R : List (List Int)) (tab : List (List Int)) (sm : Int) : List Int := (insI sm).foldl (bestF R tab sm (insI sm)) []
noncomputable def tabF (R : List (List Int)) : Nat → List (List Int)
  | 0 => [[0, 0, 0, 0, 0, 0]]
  | k + 1 => tabF R k ++ [rowF R (tabF R k) (1 + (k : Int) * 1)]
theorem tabF_len (R : List (List Int)) : ∀ k, (tabF R k).length = k + 1
  | 0 => rfl
  | k + 1 => by rw [tabF, List.length_append, tabF_len R k]; rfl
/-- a thing of a set that no other of the set must come behind -/
theorem free_of {rk : Int → Int} {R : List (List Int)} (hG : GoodRk rk R) {ins : List Int} (h6 : ∀ t ∈ ins, 0 ≤ t ∧ t < 6) (hne : ins ≠ []) : ∃ t ∈ ins, frB R ins t = true := by
  have hmax : ∀ l : List Int, l ≠ [] → ∃ t ∈ l, ∀ u ∈ l, rk u ≤ rk t := by
    intro l
    induction l with
    | nil => intro h; exact absurd rfl h
    | cons a r ih =>
      intro _
      by_cases hr : r = []
      · subst hr; exact ⟨a, .head _, fun u hu => by rw [List.mem_singleton.mp hu]; exact Int.le_refl _⟩
      · obtain ⟨t, ht, hm⟩ := ih hr
        by_cases hat : rk t ≤ rk a
        · refine ⟨a, .head _, fun u hu => ?_⟩
          rcases List.mem_cons.mp hu with rfl | hu
          · exact Int.le_refl _
          · exact Int.le_trans (hm u hu) hat
        · refine ⟨t, .tail _ ht, fun u hu => ?_⟩
          rcases List.mem_cons.mp hu with rfl | hu
          · omega
          · exact hm u hu
  obtain ⟨t, ht, hm⟩ := hmax ins hne
  refine ⟨t, ht, ?_⟩
  unfold frB
  have h0 := h6 t ht
  have : (R.getD t.toNat []).filter (fun one => ins.any fun x => x == one) = [] := by
    rw [List.filter_eq_nil_iff]
    intro j hj hc
    rw [List.any_eq_true] at hc
    obtain ⟨x, hx, hxe⟩ := hc
    have hxe : x = j := by simpa using hxe
    subst hxe
    have := ((hG t.toNat (by omega)).2 x hj).2.2
    have hle := hm x hx
    rw [show ((t.toNat : Nat) : Int) = t by omega] at this
    omega
  rw [this]; rfl
theorem insI_six {sm t : Int} (h : t ∈ insI sm) : 0 ≤ t ∧ t < 6 := by
  have := (List.mem_filter.mp h).1
  simp only [List.mem_cons, List.not_mem_nil, or_false] at this
  omega
theorem insI_facts : ∀ k : Fin 63, insI (1 + ((k : Nat) : Int) * 1) ≠ [] ∧ ∀ t ∈ insI (1 + ((k : Nat) : Int) * 1), 0 ≤ (1 + ((k : Nat) : Int) * 1) - 2 ^ t.toNat ∧ (1 + ((k : Nat) : Int) * 1) - 2 ^ t.toNat ≤ (k : Nat) := by decide +kernel
theorem bestF_len {R tab : List (List Int)} {sm : Int} {ins : List Int} (h6 : ∀ t ∈ ins, frB R ins t = true → (wayF tab sm ins.length t).length = 6) :
    ∀ (l : List Int) (best : List Int), (∀ t ∈ l, t ∈ ins) → (best = [] ∨ best.length = 6) → ((l.foldl (bestF R tab sm ins) best = [] ∧ best = [] ∧ ∀ t ∈ l, frB R ins t = false) ∨ (l.foldl (bestF R tab sm ins) best).length = 6) := by
  intro l
  induction l with
  | nil =>
    intro best _ hb
    rcases hb with rfl | hb
    · exact .inl ⟨rfl, rfl, fun _ h => nomatch h⟩
    · exact .inr hb
  | cons t r ih =>
    intro best hl hb
    rw [List.foldl_cons]
    have hr : ∀ t ∈ r, t ∈ ins := fun u hu => hl u (.tail _ hu)
    by_cases hf : frB R ins t = true
    · have hw := h6 t (hl t (.head _)) hf
      have hb' : (bestF R tab sm ins best t).length = 6 := by
        unfold bestF
        rw [if_pos hf]
        split
        · exact hw
        · rename_i hc
          rcases hb with rfl | hb
          · exact absurd (.inl rfl) hc
          · exact hb
      rcases ih _ hr (.inr hb') with ⟨_, h, _⟩ | h
      · rw [h] at hb'; cases hb'
      · exact .inr h
    · have hb' : bestF R tab sm ins best t = best := by unfold bestF; rw [if_neg hf]
      rw [hb']
      rcases ih _ hr hb with ⟨h1, h2, h3⟩ | h
      · refine .inl ⟨h1, h2, fun u hu => ?_⟩
        rcases List.mem_cons.mp hu with rfl | hu
        · simpa using hf
        · exact h3 u hu
      · exact .inr h
theorem getD_len6 {tab : List (List Int)} (h : ∀ x ∈ tab, x.length = 6) {i : Nat} (hi : i < tab.length) : (tab.getD i []).length = 6 := by
  have e : tab.getD i [] = tab[i] := by simp [hi]
  rw [e]; exact h _ (List.getElem_mem hi)
theorem rowF_len {rk : Int → Int} {R : List (List Int)} (hG : GoodRk rk R) {tab : List (List Int)} {k : Nat} (hk : k < 63) (hl : tab.length = k + 1) (h6 : ∀ x ∈ tab, x.length = 6) : (rowF R tab (1 + (k : Int) * 1)).length = 6 := by
  have hf := insI_facts ⟨k, hk⟩
  dsimp only at hf
  rcases bestF_len (R := R) (tab := tab) (sm := 1 + (k : Int) * 1) (ins := insI (1 + (k : Int) * 1)) (fun t ht _ => by
    unfold wayF
    rw [List.length_set]
    have := hf.2 t ht
    exact getD_len6 h6 (by omega)) (insI (1 + (k : Int) * 1)) [] (fun _ h => h) (.inl rfl) with ⟨_, _, h⟩ | h
  · obtain ⟨t, ht, e⟩ := free_of hG (fun t ht => insI_six ht) hf.1
    rw [h t ht] at e; cases e
  · exact h
theorem tabF_six {rk : Int → Int} {R : List (List Int)} (hG : GoodRk rk R) : ∀ k, k ≤ 63 → ∀ x ∈ tabF R k, x.length = 6
  | 0, _, x, hx => by rw [List.mem_singleton.mp hx]; rfl
  | k + 1, hk, x, hx => by
    rw [tabF] at hx
    rcases List.mem_append.mp hx with hx | hx
    · exact tabF_six hG k (by omega) x hx
    · rw [List.mem_singleton.mp hx]
      exact rowF_len hG (by omega) (tabF_len R k) (tabF_six hG k (by omega))
end Mine
end
-- NbLe
section
open PySem PySem.W PySem.Calls PyProof.Rows
namespace Mine
theorem reset_NbLe : True := by
  w_top off
  trivial
set_option maxRecDepth 100000
set_option maxHeartbeats 8000000
local macro_rules | `(tactic| walk_at $s:str) => if ["subscriptTail Name Constant ref int", "call type:list", "subscriptTail Name BinOp ref int", "compareOp Lt ref ref", "pyIter ref", "eval ListComp", "CompSrcT", "call ref", "exec For Name Call cons nil", "exec For Name Name cons nil"].contains s.getString then `(tactic| refine stop ?_) else Lean.Macro.throwUnsupported
local macro_rules | `(tactic| walk_at "call builtin:len") => `(tactic| (refine len_ints (isList_at (News.get (by assumption) (by k_mem))) (by assumption) (by omega) ?_; intro _ _; (try dsimp only)))
local macro_rules | `(tactic| walk_at "compareOp Eq ref ref") => `(tactic| refine ke_eq_ints (PySem.IsL.isList (News.get (by assumption) (by k_mem))) (PySem.IsL.isList (News.get (by assumption) (by k_mem))) (by first | assumption | exact IntsAre.nil) (by first | assumption | exact IntsAre.nil) (by dsimp only [ktrTop]; first | exact room64 (by assumption) (by decide) | omega) ?_)
local macro_rules | `(tactic| walk_at "subscriptTail Name Name ref int") => `(tactic| refine item_at (RowsAt.list (RowsAt.fr (by assumption) (by assumption))) (by omega) (by omega) (by assumption) ?_)
local macro_rules | `(tactic| walk_at "compareOp In int ref") => `(tactic| refine in_list_ints (PySem.IsL.isList (News.get (by assumption) (by k_mem))) (by assumption) ?_)
local macro_rules | `(tactic| k_all) => `(tactic| with_reducible assumption)
variable {w : World} {p : Program} {loose : List Str} {mean : ExcName → Option Value} {mg mb : Str → Option Value} {dp un : Nat} {gd : Option (List Code)} {cn : Str} {cs : Scope} {a : Addr} {ccd : Value} {cl : List (Str × Addr)} {outer : List Env} {A₀ : Around} {base h₀ : Heap} {L : Addr} {m : Str → Option Value} {s : Shared} {Q E : Value → Shared → Prop}

theorem len_ints {prog : Program} {w : World} {A : Around} {E : Value → Shared → Prop} {s : Shared} {l : Addr} {vs : List Value} {ns : List Int} {Q : Value → Shared → Prop} (hl : s.heap.IsList l vs.toArray) (hi : IntsAre vs ns) (hb : ns.length < 100)
    (h : ∀ t tk, Q (.int ns.length t) { s with toks := tk }) : wpAny (model prog w) A (call (.builtin "len") [.ref l]) Q E s :=
  len_list hl (by have := hi.length; rw [List.size_toArray]; omega) (by
    have e : ((vs.toArray.size : Nat) : Int) = (ns.length : Int) := by rw [List.size_toArray, hi.length]
    rw [e]; exact h _ _)
theorem best_take {R tab : List (List Int)} {sm : Int} {ins best wns : List Int} {t : Int} (hf : frB R ins t = true) (hw : tab.getD (sm - 2 ^ t.toNat).toNat [] = wns) (hc : best = [] ∨ lexLt (wns.set t.toNat ins.length) best = true) : wns.set t.toNat ins.length = bestF R tab sm ins best t := by
  unfold bestF wayF
  rw [hw, if_pos hf, if_pos hc]
theorem best_keep {R tab : List (List Int)} {sm : Int} {ins best wns : List Int} {t : Int} (hf : frB R ins t = true) (hw : tab.getD (sm - 2 ^ t.toNat).toNat [] = wns) (hc : ¬ (best = [] ∨ lexLt (wns.set t.toNat ins.length) best = true)) : best = bestF R tab sm ins best t := by
  unfold bestF wayF
  rw [hw, if_pos hf, if_neg hc]
theorem best_off {R tab : List (List Int)} {sm : Int} {ins best : List Int} {t : Int} (hf : ¬ frB R ins t = true) : best = bestF R tab sm ins best t := by
  unfold bestF
  rw [if_neg hf]
structure IS where
  (b : Addr) (vs : List Value) (ns : List Int) (n : Nat)
/-- the table's rows hold the table's ints -/
noncomputable def TabIs (rows : List (Addr × List Value × Nat)) (tab : List (List Int)) : Prop := rows.length = tab.length ∧ ∀ i (hi : i < rows.length), IntsAre rows[i].2.1 (tab.getD i [])
theorem TabIs.snoc {rows : List (Addr × List Value × Nat)} {tab : List (List Int)} {x : Addr × List Value × Nat} {ns : List Int} (h : TabIs rows tab) (hx : IntsAre x.2.1 ns) : TabIs (rows ++ [x]) (tab ++ [ns]) := by
  refine ⟨by rw [List.length_append, List.length_append, h.1]; rfl, fun i hi => ?_⟩
  rw [List.getD_eq_getElem?_getD]
  by_cases hlt : i < rows.length
  · rw [List.getElem_append_left hlt, List.getElem?_append_left (by rw [← h.1]; exact hlt), ← List.getD_eq_getElem?_getD]
    exact h.2 i hlt
  · have e : i = rows.length := by rw [List.length_append] at hi; simp at hi; omega
    have e1 : (rows ++ [x])[i]? = some x := by rw [e, List.getElem?_append_right (Nat.le_refl _)]; simp
    have e2 : (rows ++ [x])[i] = x := Option.some.inj ((List.getElem?_eq_getElem hi).symm.trans e1)
    have e3 : (tab ++ [ns])[i]? = some ns := by rw [e, h.1, List.getElem?_append_right (Nat.le_refl _)]; simp
    rw [e2, e3]
    exact hx
theorem ex_le {G : Prop} {g h : Heap} {L a b c d : Addr} {oa oc od : Obj} {v1 v2 v3 v4 v5 : Value} {t : Tok} (_ : News g L h [(a, oa), (b, listOf #[Value.int 0 t, v1, v2, v3, v4, v5] 0), (c, oc), (d, od)])
    (k : ∀ a' b' oc' od' t' h', a' = a → b' = b → oc' = oc → od' = od → t' = t → h' = h → G) : G := k a b oc od t h rfl rfl rfl rfl rfl rfl
theorem ex_le2 {G : Prop} {g h : Heap} {L a b c d e f : Addr} {oa ob oc od oe og : Obj} {tl : List (Addr × Obj)} (_ : News g L h ((a, oa) :: (b, ob) :: (c, oc) :: (d, od) :: (e, oe) :: (f, og) :: tl))
    (k : ∀ a' oe' og' h', a' = a → oe' = oe → og' = og → h' = h → G) : G := k a oe og h rfl rfl rfl rfl
structure LS where
  (rows : List (Addr × List Value × Nat)) (oS oI : Obj) (nT : Nat)
noncomputable def LS.tail (c : LS) : List (Addr × Obj) := c.rows.map fun r => (r.1, listOf r.2.1.toArray r.2.2)
theorem gen_postT {α : Type} {M : Model} {A : Around} {t : Sem α} {u : Sem Flow} {Q : Flow → Shared → Prop} {E E' : Value → Shared → Prop} {s : Shared} (h : ∀ FP : Flow → Shared → Prop, (∀ f s', Q f s' → FP f s') → wpAny M A t (fun _ s₃ => wpAny M A u FP E s₃) E' s) :
    wpAny M A t (fun _ s₃ => wpAny M A u Q E s₃) E' s := h Q fun _ _ x => x
theorem tabE {α β : Type} {A B C D E G : Prop} {p : α → Prop} {q : β → Prop} (h : A ∧ (∃ x, p x) ∧ (∃ y, q y) ∧ B ∧ C ∧ D ∧ E) (k : A → ∀ x, p x → ∀ y, q y → B → C → D → E → G) : G := by
  obtain ⟨h1, ⟨x, hx⟩, ⟨y, hy⟩, h4, h5, h6, h7⟩ := h
  exact k h1 x hx y hy h4 h5 h6 h7
theorem least_int {D : Addr} {items : List Value} {R : List (List Int)} {rk : Int → Int} (C : Cx w p loose mean mg mb dp un cs outer A₀ base h₀ L m s.heap 5) (hR : RowsAt s.heap D items R) (hG : GoodRk rk R) (hL : ∀ i, i < 6 → (R.getD i []).length < 60)
    (ret : ∀ r vs' n' h' tk', IntsAre vs' ((tabF R 63).getD 63 []) → Kept s.heap h' [] → s.heap.get? r = none → h'.get? r = some (listOf vs'.toArray n') → Q (.ref r) {s with heap := h', toks := tk'}) :
    wpAny (model Challenge.rw_nb0005_01.row.prog w) (ktrTop dp un gd cn cs L a ccd cl outer) (call (.ref 106) [.ref D]) Q E s := by
  obtain ⟨B, F, X, T, hk, hdp, hun⟩ := C
  refine enterC (binds := [(Str.ofString "behind", .ref D)]) (tch := []) B F X (fun _ h => nomatch h) T hk (by k_dflt k_is) (by k_dflt k_is) (room0 hdp) (BindsTo.of_eq (by rfl)) rfl (by decide +kernel) rfl rfl rfl ?_
  clear F B X T
  intro g L' h₁ tk cells hg F N Y B X T
  have hR := hR.kept hg
  k_cells Y
  simp only [List.cons_append, List.nil_append] at N
  simp only [List.map_nil] at hg
  (try dsimp only); (try k_fold)
  k_steps
  refine Stop.go ?_
  (rename Fr _ _ _ _ => eF); (rename News _ _ _ _ => eN)
  refine For_invT g ?_ (by intro _; rfl) PassesOwn.never
  k_steps
  refine Stop.go ?_
  (rename IsRange _ _ _ _ _ _ _ _ => hRg); (rename Fr _ _ _ _ => eF); (rename News _ _ _ _ => eN)
  refine ex_le eN fun TT r0 oI oS tk0 hN hX1 hX2 hX3 hX4 hX5 hX6 => ?_
  subst hX1 hX2 hX3 hX4 hX5 hX6
  (rename (Obj.data oI = _) => dI); (rename (Obj.data oS = _) => dS); (rename (@LT.lt Nat _ r0 TT ∧ _) => qT); (rename (@LT.lt Nat _ _ r0 ∧ _) => q0)
  have hsz0 := ltN (Heap.lt_size (eN.get (.tail _ (.head _))))
  have hszT := ltN (Heap.lt_size (eN.get (.head _)))
  have hszI := ltN (Heap.lt_size (eN.get (.tail _ (.tail _ (.head _)))))
  have hszS := ltN (Heap.lt_size (eN.get (.tail _ (.tail _ (.tail _ (.head _))))))
  refine for_rangeT (σ := LS) 63 rfl hRg (by decide) (by decide) (fun c => [(TT, listOf (c.rows.map fun r => Value.ref r.1).toArray c.nT), (L' + 1 + 1, c.oI), (L' + 1, c.oS)] ++ c.tail) (fun c => []) [Str.ofString "best", Str.ofString "way", Str.ofString "thing"]
    (fun k c => TabIs c.rows (tabF R k) ∧ (∃ x, c.oS.data = .cell x) ∧ (∃ x, c.oI.data = .cell x) ∧ (∀ p ∈ c.tail, p.1 ≠ TT) ∧ (∀ p ∈ c.tail, p.1 ≠ L' + 1 + 1) ∧ (∀ p ∈ c.tail, p.1 ≠ L' + 1) ∧ (∀ p ∈ c.tail, p.1 ≠ hN.objs.size)) ⟨[(r0, [Value.int 0 tk0, Value.int 0 (tk0 + 1), Value.int 0 (tk0 + 1 + 1), Value.int 0 (tk0 + 1 + 1 + 1), Value.int 0 (tk0 + 1 + 1 + 1 + 1), Value.int 0 (tk0 + 1 + 1 + 1 + 1 + 1)], 0)], oS, oI, 0⟩ eF ?gN ?gI (fun _ h => nomatch h) ?gP ?gT ?gE
  case gN =>
    intro p hp
    simp only [LS.tail, List.map_cons, List.map_nil, List.cons_append, List.nil_append, List.mem_cons, List.not_mem_nil, or_false] at hp
    refine eN p ?_
    simp only [List.mem_cons, List.not_mem_nil, or_false]
    rcases hp with h | h | h | h <;> simp [h]
  case gI =>
    rintro i c ⟨_, _, _, _, _, _, h4⟩ p hp
    rcases List.mem_append.mp hp with hp | hp
    · simp only [List.mem_cons, List.not_mem_nil, or_false] at hp
      rcases hp with rfl | rfl | rfl
      · exact Nat.ne_of_lt hszT
      · exact Nat.ne_of_lt hszI
      · exact Nat.ne_of_lt hszS
    · exact h4 p hp
  case gP =>
    refine ⟨⟨rfl, fun i hi => ?_⟩, ⟨_, dS⟩, ⟨_, dI⟩, ?_, ?_, ?_, ?_⟩
    · obtain rfl : i = 0 := by simp at hi; omega
      exact .cons _ _ (.cons _ _ (.cons _ _ (.cons _ _ (.cons _ _ (.cons _ _ .nil)))))
    all_goals
      intro p hp
      rw [show p = (r0, _) from List.mem_singleton.mp hp]
      exact neN (by dsimp only; omega)
  case gE =>
    clear eF eN
    rintro ⟨rows, oS, oI, nT⟩ u9 h9 tk9 ⟨hP1, _⟩ F9 N9
    dsimp only [List.cons_append, List.nil_append] at hP1 F9 N9 ⊢
    have hrl63 : rows.length = 64 := by rw [hP1.1, tabF_len]
    have hix : 63 < rows.length := by omega
    try k_fold
    k_steps
    refine Stop.go ?_
    (rename Fr _ _ _ _ => eF); (rename News _ _ _ _ => eN)
    have hmt : ((rows[63]'hix).1, listOf (rows[63]'hix).2.1.toArray (rows[63]'hix).2.2) ∈ LS.tail ⟨rows, oS, oI, nT⟩ := List.mem_map.mpr ⟨_, List.getElem_mem hix, rfl⟩
    have hmm := eN _ (.tail _ (.tail _ (.tail _ hmt)))
    refine item_at (v := .ref (rows[63]'hix).1) (isList_at (eN.get (by k_mem))) (by omega) (by omega) (by rw [List.getElem?_map, show Int.toNat 63 = 63 from rfl, List.getElem?_eq_getElem hix]; rfl) ?_
    k_steps
    exact ret _ _ _ _ _ (hP1.2 63 hix) (fun b o e n => eF.keep b o (hg b o e (by simp))) (fresh_of0 hg hmm.2.2) hmm.1
  case gT =>
    clear eF eN
    rintro I k t ⟨rows, oS, oI, nT⟩ u9 s9 o9 hI9 hk9 hP F9 N9
    refine tabE hP fun hP1 xS hS xI hI hT1 hT2 hT3 hT4 => ?_
    clear hP
    have hT4 : ∀ p ∈ LS.tail ⟨rows, oS, oI, nT⟩, p.1 ≠ I := fun p hp => hI9 ▸ hT4 p hp
    have hIne : @Ne Nat I TT ∧ @Ne Nat I (L' + 1 + 1) ∧ @Ne Nat I (L' + 1) := by
      rw [hI9]
      exact ⟨Nat.ne_of_gt hszT, Nat.ne_of_gt hszI, Nat.ne_of_gt hszS⟩
    have hIne2 : @Ne Nat TT (L' + 1 + 1) ∧ @Ne Nat TT (L' + 1) := by clear hI9 hszT hszI hszS hIne hsz0; omega
    have hIe := Stop.go (show @Eq Nat I hN.objs.size from hI9)
    clear hI9 hsz0 hszT hszI hszS dI dS hRg q0 qT
    dsimp only [List.cons_append, List.nil_append] at hP1 hS hI hT1 hT2 hT3 hT4 F9 N9 ⊢
    generalize htl : LS.tail _ = tl at *
    refine gen_postT fun FP hFP => ?_
    try k_fold
    k_steps
    refine Stop.go ?_
    (rename Fr _ _ _ _ => eF); (rename News _ _ _ _ => eN)
    k_dflt (refine LCt.ListComp_T (F₀ := eF) (by with_unfolding_all rfl) (by decide) (by rfl) (by decide) (by rfl) ?_)
    k_steps
    refine Stop.go ?_
    (rename IsRange _ _ _ _ _ _ _ _ => hRg); (rename Fr _ _ _ _ => eF); (rename News _ _ _ _ => eN)
    refine LCt.CompSrcT.range (n := 6) (by rfl) eF eN hRg (by decide) (by decide) (by first | size_fits | exact Nat.le_of_ble_eq_true rfl) ?_
    intro g'
    refine filt_all [0, 1, 2, 3, 4, 5] (insB (1 + (k : Int) * 1)) (fun n => n) rfl trivial six_src ?cT ?cF
    case cT =>
      clear eF eN
      intro n hn
      have hn0 : 0 ≤ n ∧ n < 6 := six_mem hn
      intro t I oI C oC Dd ys m₂ h tk E' hC hx F8 N8 off ne
      dsimp only [insB]
      k_steps
      · exact compSame_of F8 N8 fun _ h => h
      · exact compSame_of F8 N8 fun _ h => h
    case cF =>
      clear eF eN hRg
      intro ys hys Di h8 tk8 F8 N8 off8
      rw [List.map_id'] at hys
      replace hys : IntsAre ys (insI (1 + (k : Int) * 1)) := hys
      have hins6 : (insI (1 + (k : Int) * 1)).length ≤ 6 := List.length_filter_le _ _
      simp only [LCg.Off1] at off8
      dsimp only
      k_steps
      refine Stop.go ?_
      (rename Fr _ _ _ _ => eF); (rename News _ _ _ _ => eN)
      refine For_invV g rfl rfl ?_ (by intro _; rfl) PassesOwn.never
      k_steps
      refine Stop.go ?_
      (rename Fr _ _ _ _ => eF); (rename News _ _ _ _ => eN)
      refine ex_le2 eN fun b0 oI' oS' hB hX1 hX2 hX3 hX4 => ?_
      subst hX1 hX2 hX3 hX4
      (rename (Obj.data oI' = _) => dI'); (rename (Obj.data oS' = _) => dS'); (rename (@LT.lt Nat _ Di b0 ∧ _) => l1)
      have hszD := ltN (Heap.lt_size (eN.get (.tail _ (.head _))))
      have hszb := ltN (Heap.lt_size (eN.get (.head _)))
      have hoD := off1_ne off8.2.2.2.2
      have hlens := hys.length
      refine for_listN (σ := IS) (l := Di) (items := ys.toArray) (nl := ys.length) rfl (fun c => (c.b, listOf c.vs.toArray c.n) :: (Di, listOf ys.toArray ys.length) :: (I, o9) :: (TT, listOf (rows.map fun r => Value.ref r.1).toArray nT) :: (L' + 1 + 1, oI') :: (L' + 1, oS') :: tl) (fun c => [(Str.ofString "best", .ref c.b)]) [Str.ofString "way"]
        (fun i c => IntsAre c.vs c.ns ∧ c.ns = ((insI (1 + (k : Int) * 1)).take i).foldl (bestF R (tabF R k) (1 + (k : Int) * 1) (insI (1 + (k : Int) * 1))) [] ∧ (∀ p ∈ tl, p.1 ≠ c.b) ∧ (@Ne Nat c.b Di ∧ @Ne Nat c.b I ∧ @Ne Nat c.b TT ∧ @Ne Nat c.b (L' + 1 + 1) ∧ @Ne Nat c.b (L' + 1) ∧ @Ne Nat c.b hB.objs.size)) ⟨b0, [], [], 0⟩ (fun c => .tail _ (.head _)) eF eN ?gI ?gk ?gP ?gT ?gE
      case gk => exact List.forall_mem_cons.mpr ⟨by rfl, List.forall_mem_nil _⟩
      case gP => exact ⟨.nil, by simp, allLt_ne l1.2.2.2.2.2, Nat.ne_of_gt l1.1, Nat.ne_of_gt l1.2.1, Nat.ne_of_gt l1.2.2.1, Nat.ne_of_gt l1.2.2.2.1, Nat.ne_of_gt l1.2.2.2.2.1, Nat.ne_of_lt hszb⟩
      case gI =>
        rintro i c ⟨_, _, _, hcb⟩ p hp
        rcases List.mem_cons.mp hp with rfl | hp
        · exact hcb.2.2.2.2.2
        · exact Nat.ne_of_lt (Heap.lt_size (eN.get (.tail _ hp)))
      case gE =>
        have hszl : ∀ p ∈ tl, p.1 ≠ hB.objs.size := fun p hp => Nat.ne_of_lt (Heap.lt_size (eN.get (.tail _ (.tail _ (.tail _ (.tail _ (.tail _ (.tail _ hp))))))))
        clear eF eN
        rintro ⟨b, bvs, bns, bn⟩ u7 h7 tk7 hP F7 N7
        refine and4E hP fun hbi hbf hbt hbn => ?_
        clear hP
        dsimp only at hbi hbf hbt hbn F7 N7 ⊢
        rw [List.size_toArray, hlens, List.take_length] at hbf
        have hbf : bns = rowF R (tabF R k) (1 + (k : Int) * 1) := hbf
        have hb6 := rowF_len hG hk9 (tabF_len R k) (tabF_six hG k (by omega))
        rw [← hbf] at hb6
        have hrl63 : rows.length = k + 1 := by rw [hP1.1, tabF_len]
        have hrl64 : (rows.map fun r => Value.ref r.1).length = k + 1 := by rw [List.length_map]; exact hrl63
        try k_fold
        k_steps
        (rename Fr _ _ _ _ => eF); (rename News _ _ _ _ => eN)
        try simp only [List.push_toArray] at eN
        have htl' : (rows.map fun r => (r.1, listOf r.2.1.toArray r.2.2)) = tl := htl
        have htail : ∀ p ∈ LS.tail ⟨rows ++ [(b, bvs, bn)], oS', oI', nT + 1⟩, p ∈ tl ∨ p = (b, listOf bvs.toArray bn) := fun p hp => by
          simp only [LS.tail, List.map_append, List.map_cons, List.map_nil, List.mem_append, List.mem_singleton] at hp
          rw [htl'] at hp
          exact hp
        refine hFP _ _ ?_
        refine for_endT ⟨rows ++ [(b, bvs, bn)], oS', oI', nT + 1⟩ eF eN ?e1 (fun _ h => nomatch h) ?e3 ?e4
        case e1 =>
          intro p hp
          rcases List.mem_cons.mp hp with rfl | hp
          · k_mem
          · simp only [List.map_append, List.map_cons, List.map_nil, List.mem_cons] at hp
            rcases hp with rfl | rfl | rfl | hp
            · k_mem
            · k_mem
            · k_mem
            · rcases htail p hp with h | rfl
              · repeat (first | exact h | apply List.Mem.tail)
              · k_mem
        case e3 =>
          intro z h2 h3
          simp only [List.contains_cons, List.contains_nil, Bool.or_false, Bool.or_eq_false_iff, beq_eq_false_iff_ne, ne_eq] at h3
          simp [kstB, h3]
        case e4 =>
          refine ⟨?_, ⟨_, dS'⟩, ⟨_, dI'⟩, ?_, ?_, ?_, ?_⟩
          · rw [tabF]
            exact hP1.snoc (hbf ▸ hbi)
          all_goals
            intro p hp
            rcases htail p hp with h | rfl
          · exact hT1 p h
          · exact hbn.2.2.1
          · exact hT2 p h
          · exact hbn.2.2.2.1
          · exact hT3 p h
          · exact hbn.2.2.2.2.1
          · exact hIe.go' ▸ hT4 p h
          · exact hIe.go' ▸ hbn.2.1
      case gT =>
        have hszl : ∀ p ∈ tl, p.1 ≠ hB.objs.size := fun p hp => Nat.ne_of_lt (Heap.lt_size (eN.get (.tail _ (.tail _ (.tail _ (.tail _ (.tail _ (.tail _ hp))))))))
        have hszT := ltN (Heap.lt_size (eN.get (.tail _ (.tail _ (.tail _ (.head _))))))
        have hszI := ltN (Heap.lt_size (eN.get (.tail _ (.tail _ (.head _)))))
        have hszL := ltN (Heap.lt_size (eN.get (.tail _ (.tail _ (.tail _ (.tail _ (.head _)))))))
        clear eF eN
        rintro J i vv ⟨b, bvs, bns, bn⟩ u7 h7 tk7 o7 hJ hi7 hv7 hP F7 N7
        refine and4E hP fun hbi hbf hbt hbn => ?_
        clear hP
        have hJb : @Ne Nat b J ∧ @Ne Nat Di J ∧ @Ne Nat I J ∧ @Ne Nat TT J ∧ @Ne Nat (L' + 1 + 1) J ∧ @Ne Nat (L' + 1) J := by
          rw [hJ]; exact ⟨hbn.2.2.2.2.2, Nat.ne_of_lt hszD, Nat.ne_of_lt hszI, Nat.ne_of_lt hszT, Nat.ne_of_lt hszL, Nat.ne_of_lt (Nat.lt_trans (Nat.lt_succ_self _) hszL)⟩
        have hJl : ∀ p ∈ tl, p.1 ≠ J := fun p hp => hJ ▸ hszl p hp
        have hnm : b ≠ hB.objs.size := hbn.2.2.2.2.2
        have hbn : @Ne Nat b Di ∧ @Ne Nat b I ∧ @Ne Nat b TT ∧ @Ne Nat b (L' + 1 + 1) ∧ @Ne Nat b (L' + 1) := ⟨hbn.1, hbn.2.1, hbn.2.2.1, hbn.2.2.2.1, hbn.2.2.2.2.1⟩
        dsimp only at hbi hbf hbt hbn hnm F7 N7 hv7 ⊢
        rw [List.size_toArray, hlens] at hi7
        obtain ⟨te, hte⟩ := ints_at hys i hi7
        obtain rfl : vv = .int ((insI (1 + (k : Int) * 1))[i]'hi7) te := by
          have e : ys[i]? = some vv := by simpa using hv7
          exact Option.some.inj (e.symm.trans hte)
        have htm : (insI (1 + (k : Int) * 1))[i]'hi7 ∈ insI (1 + (k : Int) * 1) := List.getElem_mem hi7
        have hstep : ∀ f : List Int → Int → List Int, ((insI (1 + (k : Int) * 1)).take (i + 1)).foldl f [] = f (((insI (1 + (k : Int) * 1)).take i).foldl f []) ((insI (1 + (k : Int) * 1))[i]'hi7) := fun f => by
          rw [List.take_add_one, List.getElem?_eq_getElem hi7, List.foldl_append]; rfl
        have hJ' := Stop.go (show @Eq Nat J hB.objs.size from hJ)
        generalize (insI (1 + (k : Int) * 1))[i]'hi7 = th at htm hte hv7 F7 hstep
        have ht6 := insI_six htm
        refine hR.rowE th.toNat (by omega) fun ra rvs hra hrl hri => ?_
        refine gen_post fun FP hFP => ?_
        try k_fold
        k_steps
        refine Stop.go ?_
        (rename Fr _ _ _ _ => eF); (rename News _ _ _ _ => eN)
        k_dflt (refine LCt.ListComp_T (F₀ := eF) (by with_unfolding_all rfl) (by decide) (by rfl) (by decide) (by rfl) ?_)
        k_steps
        refine Stop.go ?_
        have hrlen := hri.length
        have hR60 := hL th.toNat (by omega)
        refine LCt.CompSrcT.base (by rfl) eF eN hrl (by rw [List.size_toArray, sizeLine_eq]; omega) ?_
        intro g'
        refine filt_all (R.getD th.toNat []) (fun one => (insI (1 + (k : Int) * 1)).any fun x => x == one) (fun n => n) (by rw [List.size_toArray]; exact hrlen) (.inl hrl) (ints_src hri) ?cT ?cF
        case cT =>
          clear eF eN
          intro n hn
          intro t I oI C oC Dd ys m₂ h tk E' hC hx F8 N8 off ne
          dsimp only
          k_steps
          · exact compSame_of F8 N8 fun _ h => h
          · exact compSame_of F8 N8 fun _ h => h
        case cF =>
          clear eF eN
          intro ys2 hys2 D2 h6 tk6 F6 N6 off6
          rw [List.map_id'] at hys2
          simp only [LCg.Off1] at off6
          dsimp only
          k_steps
          · refine Stop.go ?_
            (rename Fr _ _ _ _ => eF); (rename News _ _ _ _ => eN); (rename (decide _ = true) => hfree); (rename (@LT.lt Nat _ D2 _ ∧ _) => lE)
            have hfB : frB R (insI (1 + (k : Int) * 1)) th = true := by unfold frB; simpa using hfree
            have hidx := (insI_facts ⟨k, hk9⟩).2 th htm
            dsimp only at hidx
            have hrl63 : rows.length = k + 1 := by rw [hP1.1, tabF_len]
            have hix : ((1 + (k : Int) * 1) - 2 ^ th.toNat).toNat < rows.length := by omega
            have htab := hP1.2 _ hix
            have hlt6 := getD_len6 (tabF_six hG k (by omega)) (i := ((1 + (k : Int) * 1) - 2 ^ th.toNat).toNat) (by rw [tabF_len]; omega)
            have hvl6 := htab.length
            have hmt : ((rows[((1 + (k : Int) * 1) - 2 ^ th.toNat).toNat]'hix).1, listOf (rows[((1 + (k : Int) * 1) - 2 ^ th.toNat).toNat]'hix).2.1.toArray (rows[((1 + (k : Int) * 1) - 2 ^ th.toNat).toNat]'hix).2.2) ∈ tl := htl ▸ List.mem_map.mpr ⟨_, List.getElem_mem hix, rfl⟩
            refine item_at (v := .ref (rows[((1 + (k : Int) * 1) - 2 ^ th.toNat).toNat]'hix).1) (isList_at (eN.get (by k_mem))) hidx.1 (by omega) (by rw [List.getElem?_map, List.getElem?_eq_getElem hix]; rfl) ?_
            generalize (rows[((1 + (k : Int) * 1) - 2 ^ th.toNat).toNat]'hix).1 = ta at hmt ⊢
            generalize hwv : (rows[((1 + (k : Int) * 1) - 2 ^ th.toNat).toNat]'hix).2.1 = wvs at hmt htab hvl6
            generalize hwn : (tabF R k).getD ((1 + (k : Int) * 1) - 2 ^ th.toNat).toNat [] = wns at htab hvl6 hlt6
            k_steps
            refine Stop.go ?_
            refine list_copyK eF eN (isList_at (eN.get (.tail _ (.tail _ (.tail _ (.tail _ (.tail _ (.tail _ (.tail _ (.tail _ (.tail _ hmt))))))))))) ?_ (by rw [List.size_toArray, sizeLine_eq]; omega)
            intro W cW hW FW NW lW
            have hWl : ∀ p ∈ tl, p.1 ≠ W := fun p hp => Nat.ne_of_lt (lW p (.tail _ (.tail _ (.tail _ (.tail _ (.tail _ (.tail _ (.tail _ (.tail _ (.tail _ hp))))))))))
            have lW := allLt_of lW
            simp only [AllLt] at lW
            have hWc : @Ne Nat W Di ∧ @Ne Nat W I ∧ @Ne Nat W TT ∧ @Ne Nat W (L' + 1 + 1) ∧ @Ne Nat W (L' + 1) ∧ @Ne Nat W hB.objs.size := ⟨Nat.ne_of_gt lW.2.2.2.2.1, Nat.ne_of_gt lW.2.2.2.2.2.1, Nat.ne_of_gt lW.2.2.2.2.2.2.1, Nat.ne_of_gt lW.2.2.2.2.2.2.2.1, Nat.ne_of_gt lW.2.2.2.2.2.2.2.2.1, hJ'.go' ▸ Nat.ne_of_gt lW.2.2.1⟩
            clear eF eN
            dsimp only
            k_steps
            · (rename Fr _ _ _ _ => eF); (rename News _ _ _ _ => eN); (rename (decide _ = true) => hnil)
              refine hFP _ _ ?_
              dsimp only [ForPost]
              refine for_end ⟨W, _, _, cW⟩ eF eN (List.forall_mem_cons.mpr ⟨by k_mem, List.forall_mem_cons.mpr ⟨by k_mem, List.forall_mem_cons.mpr ⟨by k_mem, List.forall_mem_cons.mpr ⟨by k_mem, List.forall_mem_cons.mpr ⟨by k_mem, List.forall_mem_cons.mpr ⟨by k_mem, List.forall_mem_cons.mpr ⟨by k_mem, fun p hp => by repeat (first | exact hp | apply List.Mem.tail)⟩⟩⟩⟩⟩⟩⟩) (List.forall_mem_cons.mpr ⟨by rfl, List.forall_mem_nil _⟩) (by intro z h1 h2 h3; (simp only [List.forall_mem_cons, List.not_mem_nil, false_implies, implies_true, and_true, ne_eq] at h2); (simp only [List.contains_cons, List.contains_nil, Bool.or_false, Bool.or_eq_false_iff, beq_eq_false_iff_ne, ne_eq] at h3); simp [kstB, h1, h2, h3]) ⟨by assumption, ?_, hWl, hWc⟩
              dsimp only
              rw [hstep, ← hbf]
              exact best_take hfB hwn (.inl (by simpa using hnil))
            · refine Stop.go ?_
              (rename Fr _ _ _ _ => eF); (rename News _ _ _ _ => eN); (rename (decide _ = false) => hnil); (rename (IntsAre (List.set _ _ _) _) => hwi)
              have hnil : bns ≠ [] := by simpa using hnil
              have hb6 : bns.length = 6 := by
                rcases bestF_len (R := R) (tab := tabF R k) (sm := 1 + (k : Int) * 1) (ins := insI (1 + (k : Int) * 1)) (fun t ht _ => by
                  unfold wayF
                  rw [List.length_set]
                  have := (insI_facts ⟨k, hk9⟩).2 t ht
                  dsimp only at this
                  exact getD_len6 (tabF_six hG k (by omega)) (by rw [tabF_len]; omega)) ((insI (1 + (k : Int) * 1)).take i) [] (fun _ h => List.mem_of_mem_take h) (.inl rfl) with ⟨h, _, _⟩ | h
                · exact absurd (hbf.trans h) hnil
                · rw [hbf]; exact h
              refine list_lt (eN.get (by k_mem)) (eN.get (by k_mem)) hwi hbi (by rw [List.length_set]; omega) (by dsimp only [ktrTop]; first | exact room64 hun (by decide) | omega) ?_
              (try dsimp only)
              k_steps
              · (rename Fr _ _ _ _ => eF); (rename News _ _ _ _ => eN); (rename (lexLt _ _ = true) => hlx)
                refine hFP _ _ ?_
                dsimp only [ForPost]
                refine for_end ⟨W, _, _, cW⟩ eF eN (List.forall_mem_cons.mpr ⟨by k_mem, List.forall_mem_cons.mpr ⟨by k_mem, List.forall_mem_cons.mpr ⟨by k_mem, List.forall_mem_cons.mpr ⟨by k_mem, List.forall_mem_cons.mpr ⟨by k_mem, List.forall_mem_cons.mpr ⟨by k_mem, List.forall_mem_cons.mpr ⟨by k_mem, fun p hp => by repeat (first | exact hp | apply List.Mem.tail)⟩⟩⟩⟩⟩⟩⟩) (List.forall_mem_cons.mpr ⟨by rfl, List.forall_mem_nil _⟩) (by intro z h1 h2 h3; (simp only [List.forall_mem_cons, List.not_mem_nil, false_implies, implies_true, and_true, ne_eq] at h2); (simp only [List.contains_cons, List.contains_nil, Bool.or_false, Bool.or_eq_false_iff, beq_eq_false_iff_ne, ne_eq] at h3); simp [kstB, h1, h2, h3]) ⟨hwi, ?_, hWl, hWc⟩
                dsimp only
                rw [hstep, ← hbf]
                exact best_take hfB hwn (.inr hlx)
              · (rename Fr _ _ _ _ => eF); (rename News _ _ _ _ => eN); (rename (lexLt _ _ = false) => hlx)
                refine hFP _ _ ?_
                dsimp only [ForPost]
                refine for_end ⟨b, bvs, bns, bn⟩ eF eN (List.forall_mem_cons.mpr ⟨by k_mem, List.forall_mem_cons.mpr ⟨by k_mem, List.forall_mem_cons.mpr ⟨by k_mem, List.forall_mem_cons.mpr ⟨by k_mem, List.forall_mem_cons.mpr ⟨by k_mem, List.forall_mem_cons.mpr ⟨by k_mem, List.forall_mem_cons.mpr ⟨by k_mem, fun p hp => by repeat (first | exact hp | apply List.Mem.tail)⟩⟩⟩⟩⟩⟩⟩) (List.forall_mem_cons.mpr ⟨by rfl, List.forall_mem_nil _⟩) (by intro z h1 h2 h3; (simp only [List.forall_mem_cons, List.not_mem_nil, false_implies, implies_true, and_true, ne_eq] at h2); (simp only [List.contains_cons, List.contains_nil, Bool.or_false, Bool.or_eq_false_iff, beq_eq_false_iff_ne, ne_eq] at h3); simp [kstB, h1, h2, h3]) ⟨hbi, ?_, hbt, hbn.1, hbn.2.1, hbn.2.2.1, hbn.2.2.2.1, hbn.2.2.2.2, hnm⟩
                dsimp only
                rw [hstep, ← hbf]
                exact best_keep hfB hwn (fun q => by rcases q with q | q; exact hnil q; rw [hlx] at q; cases q)
          · (rename Fr _ _ _ _ => eF); (rename News _ _ _ _ => eN); (rename (decide _ = false) => hfree)
            refine hFP _ _ ?_
            dsimp only [ForPost]
            refine for_end ⟨b, bvs, bns, bn⟩ eF eN (List.forall_mem_cons.mpr ⟨by k_mem, List.forall_mem_cons.mpr ⟨by k_mem, List.forall_mem_cons.mpr ⟨by k_mem, List.forall_mem_cons.mpr ⟨by k_mem, List.forall_mem_cons.mpr ⟨by k_mem, List.forall_mem_cons.mpr ⟨by k_mem, List.forall_mem_cons.mpr ⟨by k_mem, fun p hp => by repeat (first | exact hp | apply List.Mem.tail)⟩⟩⟩⟩⟩⟩⟩) (List.forall_mem_cons.mpr ⟨by rfl, List.forall_mem_nil _⟩) (by intro z h1 h2 h3; (simp only [List.forall_mem_cons, List.not_mem_nil, false_implies, implies_true, and_true, ne_eq] at h2); (simp only [List.contains_cons, List.contains_nil, Bool.or_false, Bool.or_eq_false_iff, beq_eq_false_iff_ne, ne_eq] at h3); simp [kstB, h1, h2, h3]) ⟨hbi, ?_, hbt, hbn.1, hbn.2.1, hbn.2.2.1, hbn.2.2.2.1, hbn.2.2.2.2, hnm⟩
            dsimp only
            rw [hstep, ← hbf]
            refine best_off (fun q => ?_)
            unfold frB at q
            rw [decide_eq_false_iff_not] at hfree
            exact hfree (by simpa using q)
end Mine
end
-- NbMap
section
open PySem PySem.W PySem.Calls PyProof.Rows PyProof.Rows.LCg
namespace Mine
set_option maxRecDepth 100000
set_option maxHeartbeats 8000000
section
variable {prog : Program} {w : World} {A : Around} {E : Value → Shared → Prop} {s : Shared} {h₀ : Heap} {L : Addr} {m : Str → Option Value} {env : Env}
/-- a turn of [elt for x in ..] at the value v gives the int y -/
noncomputable def MapTurn (prog : Program) (w : World) (A : Around) (h₀ : Heap) (L : Addr) (m : Str → Option Value) (env : Env) (elt : Expr) (x : Str) (scope : Scope) (cl : List (Str × Addr)) (s : Shared) (news : List (Addr × Obj)) (v : Value) (y : Int) : Prop :=
  ∀ I oI C oC D ys m₂ h tk (E' : Value → Shared → Prop), NsObj oC m₂ → m₂ x = some v → Fr h₀ L h m → News h₀ L h ((I, oI) :: (C, oC) :: (D, lst ys) :: news) → Off3 I C D news → ((@Ne Nat I C) ∧ (@Ne Nat I D) ∧ (@Ne Nat C D)) →
    wpAny (model prog w) A (eval elt (compEnvC scope cl C env)) (fun v s'' => (∃ t', v = .int y t') ∧ CompSame h₀ L m { s with heap := h, toks := tk } ((I, oI) :: (C, oC) :: (D, lst ys) :: news) s'') E' { s with heap := h, toks := tk }
theorem map_rest {elt : Expr} {x : Str} {scope : Scope} {cl : List (Str × Addr)} {S : List (Addr × Obj) → Prop} {P : Nat → Value → Prop} {Fin : List Value → List (Addr × Obj) → Prop} {news : List (Addr × Obj)} {out : List Int} (hS : S news)
    (turn : ∀ i (hi : i < out.length) v, P i v → MapTurn prog w A h₀ L m env elt x scope cl s news v out[i])
    (hF : ∀ ys, IntsAre ys out → Fin ys news) :
    ∀ k i ys, i + k = out.length → IntsAre ys (out.take i) → CompRest prog w A h₀ L m env elt x scope cl s S P Fin k i ys news := by
  intro k
  induction k with
  | zero =>
    intro i ys hi hy
    refine CompRest.zero (hF ys ?_)
    rwa [List.take_of_length_le (by omega)] at hy
  | succ k ih =>
    intro i ys hi hy
    refine CompRest.succ ?_
    intro v I oI C oC D m₂ h tk E' hPv hC hx F N off ne
    have hlt : i < out.length := by omega
    have e : (out.take (i + 1)) = out.take i ++ [out[i]] := by simp
    refine wpAny_mono (turn i hlt v hPv I oI C oC D ys m₂ h tk E' hC hx F N off ne) (fun v s'' q => ?_) fun _ _ x => x
    obtain ⟨⟨t', rfl⟩, h', tk', rfl, F', N'⟩ := q
    refine CompEnd.intro F' N' news (fun p hp => hp) off hS (ih (i + 1) (ys ++ [.int out[i] t']) (by omega) ?_)
    rw [e]
    exact hy.append (.cons _ _ .nil)
theorem map_all {elt : Expr} {x : Str} {scope : Scope} {cl : List (Str × Addr)} {S : List (Addr × Obj) → Prop} {P : Nat → Value → Prop} {Fin : List Value → List (Addr × Obj) → Prop} {news : List (Addr × Obj)} (out : List Int) {n : Nat} (hn : n = out.length) (hS : S news)
    (turn : ∀ i (hi : i < out.length) v, P i v → MapTurn prog w A h₀ L m env elt x scope cl s news v out[i])
    (hF : ∀ ys, IntsAre ys out → Fin ys news) : CompRest prog w A h₀ L m env elt x scope cl s S P Fin n 0 [] news :=
  map_rest hS turn hF n 0 [] (by omega) (by simpa using IntsAre.nil)
end
/-- a contract's new object joins the ledger -/
theorem kept_fr {g h h' : Heap} {L : Addr} {m : Str → Option Value} (k : Kept h h' []) (F : Fr g L h m) : Fr g L h' m := k.fr F (by simp) (fun b hb => by simp at hb)
theorem kept_news {g h h' : Heap} {L r : Addr} {o : Obj} {m : Str → Option Value} {news : List (Addr × Obj)} (k : Kept h h' []) (F : Fr g L h m) (N : News g L h news) (hr : h.get? r = none) (e : h'.get? r = some o) : News g L h' ((r, o) :: news) := by
  intro p hp
  rcases List.mem_cons.mp hp with rfl | hp
  · refine ⟨e, fun q => ?_, ?_⟩
    · obtain ⟨oL, _, _, hg, _⟩ := F.ns
      dsimp only at q
      rw [q, hg] at hr; cases hr
    · cases q : g.get? r with
      | none => rfl
      | some o' => rw [F.keep r o' q] at hr; cases hr
  · exact ⟨k p.1 p.2 (N p hp).1 (by simp), (N p hp).2⟩
theorem fresh_ne {g h : Heap} {L r : Addr} {news : List (Addr × Obj)} (N : News g L h news) (hr : h.get? r = none) : ∀ p ∈ news, @Ne Nat p.1 r := fun p hp q => by
  have := (N p hp).1
  rw [show p.1 = r from q, hr] at this; cases this
end Mine
end
-- NbHeap
section
open PySem PySem.W PySem.Calls PyProof.Rows
namespace Mine
noncomputable def HeapOk (ns : List Int) : Prop := ∀ i, 0 < i → i < ns.length → ns.getD ((i - 1) / 2) 0 ≤ ns.getD i 0
noncomputable def popF (ns : List Int) : List Int := if ns.length = 1 then [] else suF (ns.dropLast.set 0 (ns.getLastD 0))
theorem getD_set_eq {l : List Int} {i : Nat} {v : Int} (h : i < l.length) : (l.set i v).getD i 0 = v := by
  rw [List.getD_eq_getElem?_getD, List.getElem?_set_self h]; rfl
theorem getD_set_ne {l : List Int} {i j : Nat} {v : Int} (h : i ≠ j) : (l.set i v).getD j 0 = l.getD j 0 := by
  rw [List.getD_eq_getElem?_getD, List.getElem?_set_ne h, ← List.getD_eq_getElem?_getD]
/-- a heap but for the place p, whose children bear its parent -/
structure Hole (ns : List Int) (p : Nat) : Prop where
  ok : ∀ i, 0 < i → i < ns.length → i ≠ p → (i - 1) / 2 ≠ p → ns.getD ((i - 1) / 2) 0 ≤ ns.getD i 0
  up : ∀ i, 0 < i → i < ns.length → (i - 1) / 2 = p → 0 < p → ns.getD ((p - 1) / 2) 0 ≤ ns.getD i 0
theorem set_swap_perm {l : List Int} {p c : Nat} (x : Int) (hp : p < l.length) (hc : c < l.length) (hne : p ≠ c) : ((l.set p (l.getD c 0)).set c x).Perm (l.set p x) := by
  have h1 : p < (l.set p x).length := by rw [List.length_set]; exact hp
  have h2 : c < (l.set p x).length := by rw [List.length_set]; exact hc
  have := List.set_set_perm (as := l.set p x) h1 h2
  have e1 : (l.set p x)[c] = l.getD c 0 := by rw [List.getElem_set_ne hne]; simp [hc]
  have e2 : (l.set p x)[p] = x := List.getElem_set_self _
  rw [e1, e2, List.set_set] at this
  exact this
theorem sdF_ok (x : Int) : ∀ (p : Nat) (ns : List Int), p < ns.length → Hole ns p → (∀ i, 0 < i → i < ns.length → (i - 1) / 2 = p → x ≤ ns.getD i 0) → HeapOk (sdF x ns p) ∧ (sdF x ns p).Perm (ns.set p x) := by
  intro p
  induction p using Nat.strongRecOn with
  | ind p ih =>
    intro ns hp H hx
    rw [sdF]
    have fin : (p = 0 ∨ ns.getD ((p - 1) / 2) 0 ≤ x) → HeapOk (ns.set p x) := by
      intro hpx i h0 hi
      rw [List.length_set] at hi
      by_cases e1 : i = p
      · subst e1
        rw [getD_set_eq hp, getD_set_ne (by omega)]
        rcases hpx with h | h
        · omega
        · exact h
      · rw [getD_set_ne (Ne.symm e1)]
        by_cases e2 : (i - 1) / 2 = p
        · rw [e2, getD_set_eq hp]
          exact hx i h0 hi e2
        · rw [getD_set_ne (Ne.symm e2)]
          exact H.ok i h0 hi e1 e2
    by_cases h0 : 0 < p
    · rw [dif_pos h0]
      by_cases hlt : x < ns.getD ((p - 1) / 2) 0
      · rw [if_pos hlt]
        have hq : (p - 1) / 2 < p := by omega
        have hqp : (p - 1) / 2 ≠ p := by omega
        have hl : (ns.set p (ns.getD ((p - 1) / 2) 0)).length = ns.length := List.length_set
        have hab := ih ((p - 1) / 2) hq (ns.set p (ns.getD ((p - 1) / 2) 0)) (by rw [hl]; omega) ⟨?_, ?_⟩ ?_
        · obtain ⟨a, b⟩ := hab
          refine ⟨a, b.trans (set_swap_perm x hp (by omega) (by omega))⟩
        · intro i hi0 hi h1 h2
          rw [hl] at hi
          have e1 : i ≠ p := fun e => h2 (by rw [e])
          rw [getD_set_ne (Ne.symm e1)]
          by_cases e2 : (i - 1) / 2 = p
          · rw [e2, getD_set_eq hp]
            exact H.up i hi0 hi e2 h0
          · rw [getD_set_ne (Ne.symm e2)]
            exact H.ok i hi0 hi e1 e2
        · intro i hi0 hi h1 h2
          rw [hl] at hi
          rw [getD_set_ne (i := p) (by omega)]
          have hpar := H.ok ((p - 1) / 2) h2 (by omega) hqp (by omega)
          by_cases e1 : i = p
          · subst e1
            rw [getD_set_eq hp]
            exact hpar
          · rw [getD_set_ne (Ne.symm e1)]
            have := H.ok i hi0 hi e1 (by omega)
            rw [h1] at this
            exact Int.le_trans hpar this
        · intro i hi0 hi h1
          rw [hl] at hi
          by_cases e1 : i = p
          · subst e1
            rw [getD_set_eq hp]
            exact Int.le_of_lt hlt
          · rw [getD_set_ne (Ne.symm e1)]
            have := H.ok i hi0 hi e1 (by omega)
            rw [h1] at this
            exact Int.le_trans (Int.le_of_lt hlt) this
      · rw [if_neg hlt]
        exact ⟨fin (.inr (by omega)), List.Perm.refl _⟩
    · rw [dif_neg h0]
      exact ⟨fin (.inl (by omega)), List.Perm.refl _⟩
theorem push_ok {ns : List Int} (x : Int) (h : HeapOk ns) : HeapOk (sdF x (ns ++ [x]) ns.length) ∧ (sdF x (ns ++ [x]) ns.length).Perm (x :: ns) := by
  have hl : (ns ++ [x]).length = ns.length + 1 := by simp
  have hg : ∀ i, i < ns.length → (ns ++ [x]).getD i 0 = ns.getD i 0 := fun i hi => by
    rw [List.getD_eq_getElem?_getD, List.getElem?_append_left hi, ← List.getD_eq_getElem?_getD]
  have hab := sdF_ok x ns.length (ns ++ [x]) (by omega) ⟨fun i h0 hi h1 h2 => ?_, fun i h0 hi h1 h2 => ?_⟩ (fun i h0 hi h1 => ?_)
  · obtain ⟨a, b⟩ := hab
    refine ⟨a, b.trans ?_⟩
    have : (ns ++ [x]).set ns.length x = ns ++ [x] := by simp
    rw [this]
    exact List.perm_append_singleton x ns
  · rw [hg i (by omega), hg _ (by omega)]
    exact h i h0 (by omega)
  · omega
  · omega
theorem child_gt {p c : Nat} (h : c = 2 * p + 1 ∨ c = 2 * p + 2) : p < c := by omega
theorem child_par {p c : Nat} (h : c = 2 * p + 1 ∨ c = 2 * p + 2) : (c - 1) / 2 = p := by omega
theorem kids {p i : Nat} (h0 : 0 < i) (h : (i - 1) / 2 = p) : i = 2 * p + 1 ∨ i = 2 * p + 2 := by omega
theorem half_lt {i c : Nat} (h0 : 0 < i) (h : (i - 1) / 2 = c) : c < i := h ▸ Nat.lt_of_le_of_lt (Nat.div_le_self _ _) (Nat.sub_lt h0 Nat.one_pos)
theorem sub_step {n p c k : Nat} (hk : n - p ≤ k + 1) (hp : p < n) (hc : p < c) : n - c ≤ k := by omega
theorem suL_ok (x : Int) : ∀ (k : Nat) (ns : List Int) (p : Nat), ns.length - p ≤ k → p < ns.length → Hole ns p → Hole (suL ns p).1 (suL ns p).2 ∧ (suL ns p).2 < ns.length ∧ ¬ (2 * (suL ns p).2 + 1 < ns.length) ∧ (suL ns p).1.length = ns.length ∧ ((suL ns p).1.set (suL ns p).2 x).Perm (ns.set p x) := by
  intro k
  induction k with
  | zero => intro ns p h hp; omega
  | succ k ih =>
    intro ns p hk hp H
    rw [suL]
    have step : ∀ c, (c = 2 * p + 1 ∨ c = 2 * p + 2) → c < ns.length → (∀ i, 0 < i → i < ns.length → (i - 1) / 2 = p → ns.getD c 0 ≤ ns.getD i 0) →
        Hole (suL (ns.set p (ns.getD c 0)) c).1 (suL (ns.set p (ns.getD c 0)) c).2 ∧ (suL (ns.set p (ns.getD c 0)) c).2 < ns.length ∧ ¬ (2 * (suL (ns.set p (ns.getD c 0)) c).2 + 1 < ns.length) ∧ (suL (ns.set p (ns.getD c 0)) c).1.length = ns.length ∧ ((suL (ns.set p (ns.getD c 0)) c).1.set (suL (ns.set p (ns.getD c 0)) c).2 x).Perm (ns.set p x) := by
      intro c hc hcl hmin
      have hpc := child_gt hc
      have hcp := child_par hc
      clear hc
      have hc0 := Nat.lt_of_le_of_lt (Nat.zero_le _) hpc
      have hl : (ns.set p (ns.getD c 0)).length = ns.length := List.length_set
      have hab := ih (ns.set p (ns.getD c 0)) c (by rw [hl]; exact sub_step hk hp hpc) (by rw [hl]; exact hcl) ⟨?_, ?_⟩
      · obtain ⟨a, b, d, e, f⟩ := hab
        rw [hl] at b d e
        exact ⟨a, b, d, e, f.trans (set_swap_perm x hp hcl (Nat.ne_of_lt hpc))⟩
      · intro i h0 hi h1 h2
        rw [hl] at hi
        by_cases e1 : i = p
        · subst e1
          rw [getD_set_eq hp, getD_set_ne (Nat.ne_of_gt (half_lt h0 rfl))]
          exact H.up c hc0 hcl hcp h0
        · rw [getD_set_ne (Ne.symm e1)]
          by_cases e2 : (i - 1) / 2 = p
          · rw [e2, getD_set_eq hp]
            exact hmin i h0 hi e2
          · rw [getD_set_ne (Ne.symm e2)]
            exact H.ok i h0 hi e1 e2
      · intro i h0 hi h1 h2
        rw [hl] at hi
        have hpi := Nat.lt_trans hpc (half_lt h0 h1)
        rw [hcp, getD_set_eq hp, getD_set_ne (Nat.ne_of_lt hpi)]
        have := H.ok i h0 hi (Nat.ne_of_gt hpi) (fun e => Nat.ne_of_lt hpc (e.symm.trans h1))
        rw [h1] at this
        exact this
    by_cases h1 : 2 * p + 1 < ns.length
    · rw [dif_pos h1]
      by_cases h2 : 2 * p + 2 < ns.length ∧ ¬ ns.getD (2 * p + 1) 0 < ns.getD (2 * p + 2) 0
      · rw [if_pos h2]
        refine step (2 * p + 2) (.inr rfl) h2.1 (fun i h0 hi hpi => ?_)
        rcases kids h0 hpi with rfl | rfl
        · exact Int.not_lt.mp h2.2
        · exact Int.le_refl _
      · rw [if_neg h2]
        refine step (2 * p + 1) (.inl rfl) h1 (fun i h0 hi hpi => ?_)
        rcases kids h0 hpi with rfl | rfl
        · exact Int.le_refl _
        · omega
    · rw [dif_neg h1]
      exact ⟨H, hp, h1, rfl, List.Perm.refl _⟩
theorem suF_ok {ns : List Int} (hp : 0 < ns.length) (H : Hole ns 0) : HeapOk (suF ns) ∧ (suF ns).Perm ns := by
  obtain ⟨a, b, d, e, f⟩ := suL_ok (ns.getD 0 0) ns.length ns 0 (by omega) hp H
  unfold suF
  have hl : ((suL ns 0).1.set (suL ns 0).2 (ns.getD 0 0)).length = ns.length := by rw [List.length_set]; exact e
  have hab := sdF_ok (ns.getD 0 0) (suL ns 0).2 ((suL ns 0).1.set (suL ns 0).2 (ns.getD 0 0)) (by rw [hl]; exact b) ⟨fun i h0 hi h1 h2 => ?_, fun i h0 hi h1 h2 => ?_⟩ (fun i h0 hi h1 => ?_)
  · obtain ⟨u, v⟩ := hab
    refine ⟨u, v.trans ?_⟩
    rw [List.set_set]
    refine f.trans ?_
    have : ns.set 0 (ns.getD 0 0) = ns := by
      cases ns with
      | nil => rfl
      | cons y r => rfl
    rw [this]
  · rw [hl] at hi
    rw [getD_set_ne (Ne.symm h1), getD_set_ne (Ne.symm h2)]
    exact a.ok i h0 (by rw [e]; exact hi) h1 h2
  · rw [hl] at hi; omega
  · rw [hl] at hi; omega
theorem pop_ok {ns : List Int} (h : HeapOk ns) (hp : 0 < ns.length) : HeapOk (popF ns) ∧ (ns.getD 0 0 :: popF ns).Perm ns := by
  unfold popF
  by_cases h1 : ns.length = 1
  · rw [if_pos h1]
    refine ⟨fun i h0 hi => absurd hi (Nat.not_lt_zero _), ?_⟩
    match ns, h1 with
    | [x], _ => exact List.Perm.refl _
  · rw [if_neg h1]
    have hne : ns ≠ [] := fun e => by rw [e] at hp; exact absurd hp (Nat.lt_irrefl 0)
    have hd : ns.dropLast.length = ns.length - 1 := List.length_dropLast
    have hl : (ns.dropLast.set 0 (ns.getLastD 0)).length = ns.length - 1 := by rw [List.length_set, hd]
    have hg : ∀ i, i < ns.length - 1 → ns.dropLast.getD i 0 = ns.getD i 0 := fun i hi => by
      rw [List.getD_eq_getElem?_getD, List.getD_eq_getElem?_getD, List.getElem?_dropLast, if_pos (by omega)]
    have hab := suF_ok (ns := ns.dropLast.set 0 (ns.getLastD 0)) (by omega) ⟨fun i h0 hi h2 h3 => ?_, fun i h0 hi h2 h3 => ?_⟩
    · obtain ⟨a, b⟩ := hab
      refine ⟨a, (List.Perm.cons _ b).trans ?_⟩
      have e1 : ns = ns.dropLast ++ [ns.getLastD 0] := by
        have := (List.dropLast_concat_getLast hne).symm
        have e : ns.getLast hne = ns.getLastD 0 := by
          cases ns with
          | nil => exact absurd rfl hne
          | cons y r => rfl
        rw [e] at this
        exact this
      match hdl : ns.dropLast, hd with
      | [], hd => simp at hd; omega
      | y :: r, _ =>
        have ey : ns.getD 0 0 = y := by rw [e1, hdl]; rfl
        rw [ey]
        conv => rhs; rw [e1, hdl]
        show (y :: ns.getLastD 0 :: r).Perm (y :: (r ++ [ns.getLastD 0]))
        exact List.Perm.cons y (List.perm_append_singleton _ _).symm
    · rw [hl] at hi
      rw [getD_set_ne (by omega), getD_set_ne (by omega), hg i hi, hg _ (by omega)]
      exact h i h0 (by omega)
    · omega
theorem heap_min {ns : List Int} (h : HeapOk ns) : ∀ x ∈ ns, ns.getD 0 0 ≤ x := by
  have key : ∀ i, i < ns.length → ns.getD 0 0 ≤ ns.getD i 0 := by
    intro i
    induction i using Nat.strongRecOn with
    | ind i ih =>
      intro hi
      by_cases h0 : i = 0
      · subst h0; exact Int.le_refl _
      · exact Int.le_trans (ih ((i - 1) / 2) (by omega) (by omega)) (h i (by omega) hi)
  intro x hx
  obtain ⟨i, hi, rfl⟩ := List.getElem_of_mem hx
  have := key i hi
  have e : ns.getD i 0 = ns[i] := by simp [hi]
  rw [e] at this
  exact this
end Mine
end
-- NbGreedy
section
open PySem PySem.W PySem.Calls PyProof.Rows
namespace Mine
noncomputable def six : List Int := [0, 1, 2, 3, 4, 5]
noncomputable def topI (R : List (List Int)) (sm : Int) : Option Int := ((insI sm).filter (frB R (insI sm))).getLast?
/-- greedy: the greatest free thing gets the greatest label -/
noncomputable def greedy (R : List (List Int)) : Nat → Int → List Int
  | 0, _ => [0, 0, 0, 0, 0, 0]
  | n + 1, sm => match topI R sm with
    | none => [0, 0, 0, 0, 0, 0]
    | some m => (greedy R n (sm - 2 ^ m.toNat)).set m.toNat ((n : Int) + 1)
theorem mem_six {x : Int} : x ∈ six ↔ 0 ≤ x ∧ x < 6 := by
  unfold six
  simp only [List.mem_cons, List.not_mem_nil, or_false]
  omega
theorem mem_insI {sm x : Int} : x ∈ insI sm ↔ x ∈ six ∧ insB sm x = true := List.mem_filter
theorem bits_fin : ∀ s : Fin 64, ∀ m ∈ six, insB (s.val : Int) m = true → (0 ≤ (s.val : Int) - 2 ^ m.toNat ∧ (s.val : Int) - 2 ^ m.toNat < 64 ∧ (insI ((s.val : Int) - 2 ^ m.toNat)).length + 1 = (insI (s.val : Int)).length) ∧ ∀ x ∈ six, insB ((s.val : Int) - 2 ^ m.toNat) x = (insB (s.val : Int) x && !(x == m)) := by decide +kernel
theorem bits {sm m : Int} (h0 : 0 ≤ sm) (h1 : sm < 64) (hm : m ∈ six) (hb : insB sm m = true) : (0 ≤ sm - 2 ^ m.toNat ∧ sm - 2 ^ m.toNat < 64 ∧ (insI (sm - 2 ^ m.toNat)).length + 1 = (insI sm).length) ∧ ∀ x ∈ six, insB (sm - 2 ^ m.toNat) x = (insB sm x && !(x == m)) := by
  have e : sm = ((⟨sm.toNat, by omega⟩ : Fin 64).val : Int) := by show sm = (sm.toNat : Int); omega
  rw [e] at hb ⊢
  exact bits_fin _ m hm hb
theorem bit_in {sm m x : Int} (h0 : 0 ≤ sm) (h1 : sm < 64) (hm : m ∈ six) (hb : insB sm m = true) (hx : x ∈ six) : insB (sm - 2 ^ m.toNat) x = true ↔ insB sm x = true ∧ x ≠ m := by
  rw [(bits h0 h1 hm hb).2 x hx, Bool.and_eq_true]
  simp
theorem frB_iff {R : List (List Int)} {ins : List Int} {t : Int} : frB R ins t = true ↔ ∀ j ∈ R.getD t.toNat [], j ∉ ins := by
  unfold frB
  rw [beq_iff_eq, List.filter_eq_nil_iff]
  constructor
  · intro h j hj hm
    exact h j hj (List.any_eq_true.mpr ⟨j, hm, by simp⟩)
  · intro h j hj hc
    obtain ⟨x, hx, e⟩ := List.any_eq_true.mp hc
    have e : x = j := by simpa using e
    exact h j hj (e ▸ hx)
/-- the lexical order -/
theorem lex_irrefl : ∀ a : List Int, lexLt a a = false
  | [] => rfl
  | x :: r => by rw [lexLt, if_pos rfl]; exact lex_irrefl r
theorem lex_asymm : ∀ {a b : List Int}, lexLt a b = true → lexLt b a = false
  | [], [], h => by cases h
  | [], _ :: _, _ => rfl
  | _ :: _, [], h => by cases h
  | x :: r, y :: t, h => by
    rw [lexLt] at h ⊢
    by_cases e : x = y
    · rw [if_pos e] at h
      rw [if_pos e.symm]
      exact lex_asymm h
    · rw [if_neg e] at h
      rw [if_neg (Ne.symm e)]
      have := of_decide_eq_true h
      exact decide_eq_false (by omega)
theorem lex_trans : ∀ {a b c : List Int}, lexLt a b = true → lexLt b c = true → lexLt a c = true
  | [], [], _, h, _ => by cases h
  | _ :: _, [], _, h, _ => by cases h
  | [], _ :: _, [], _, h => by cases h
  | [], _ :: _, _ :: _, _, _ => rfl
  | _ :: _, _ :: _, [], _, h => by cases h
  | x :: r, y :: t, z :: u, h1, h2 => by
    rw [lexLt] at h1 h2 ⊢
    by_cases e1 : x = y
    · subst e1
      rw [if_pos rfl] at h1
      by_cases e2 : x = z
      · rw [if_pos e2] at h2 ⊢
        exact lex_trans h1 h2
      · rw [if_neg e2] at h2 ⊢
        exact h2
    · rw [if_neg e1] at h1
      have d1 := of_decide_eq_true h1
      by_cases e2 : y = z
      · subst e2
        rw [if_neg e1]
        exact h1
      · rw [if_neg e2] at h2
        have d2 := of_decide_eq_true h2
        rw [if_neg (by omega)]
        exact decide_eq_true (by omega)
theorem lex_first : ∀ {a b : List Int} (i : Nat), a.length = b.length → i < a.length → (∀ j, j < i → a.getD j 0 = b.getD j 0) → a.getD i 0 < b.getD i 0 → lexLt a b = true
  | [], _, i, _, h, _, _ => absurd h (Nat.not_lt_zero _)
  | _ :: _, [], _, h, _, _, _ => by cases h
  | x :: r, y :: t, i, hl, hi, he, hlt => by
    rw [lexLt]
    match i with
    | 0 =>
      have hlt : x < y := hlt
      rw [if_neg (by omega)]
      exact decide_eq_true hlt
    | i + 1 =>
      have e0 : x = y := he 0 (by omega)
      rw [if_pos e0]
      exact lex_first i (by simpa using hl) (by simpa using hi) (fun j hj => he (j + 1) (by omega)) hlt
theorem lex_set : ∀ {a b : List Int} (m : Nat) (v : Int), a.getD m 0 = b.getD m 0 → a.length = b.length → lexLt a b = true → lexLt (a.set m v) (b.set m v) = true
  | [], [], _, _, _, _, h => by cases h
  | [], _ :: _, _, _, _, hl, _ => by cases hl
  | _ :: _, [], _, _, _, hl, _ => by cases hl
  | x :: r, y :: t, 0, v, he, hl, h => by
    have he : x = y := he
    rw [lexLt, if_pos he] at h
    show lexLt (v :: r) (v :: t) = true
    rw [lexLt, if_pos rfl]
    exact h
  | x :: r, y :: t, m + 1, v, he, hl, h => by
    show lexLt (x :: r.set m v) (y :: t.set m v) = true
    rw [lexLt] at h ⊢
    by_cases e : x = y
    · rw [if_pos e] at h ⊢
      exact lex_set m v he (by simpa using hl) h
    · rw [if_neg e] at h ⊢
      exact h
noncomputable def LexLe (a b : List Int) : Prop := a = b ∨ lexLt a b = true
theorem LexLe.trans {a b c : List Int} (h1 : LexLe a b) (h2 : LexLe b c) : LexLe a c := by
  rcases h1 with rfl | h1
  · exact h2
  · rcases h2 with rfl | h2
    · exact .inr h1
    · exact .inr (lex_trans h1 h2)
theorem LexLe.not {a b : List Int} (h : LexLe a b) : lexLt b a = false := by
  rcases h with rfl | h
  · exact lex_irrefl _
  · exact lex_asymm h
theorem LexLe.set {a b : List Int} (h : LexLe a b) (m : Nat) (v : Int) (he : a.getD m 0 = b.getD m 0) (hl : a.length = b.length) : LexLe (a.set m v) (b.set m v) := by
  rcases h with rfl | h
  · exact .inl rfl
  · exact .inr (lex_set m v he hl h)
theorem ext_six {a b : List Int} (ha : a.length = 6) (hb : b.length = 6) (h : ∀ x ∈ six, a.getD x.toNat 0 = b.getD x.toNat 0) : a = b := by
  refine List.ext_getElem (by omega) fun i h1 h2 => ?_
  have := h (i : Int) (mem_six.mpr (by omega))
  simpa [h1, h2] using this
theorem le_first : ∀ (n : Nat) (P : Nat → Prop), P n → ∃ i, i ≤ n ∧ P i ∧ ∀ j, j < i → ¬ P j := by
  intro n
  induction n using Nat.strongRecOn with
  | ind n ih =>
    intro P hP
    by_cases h : ∃ j, j < n ∧ P j
    · obtain ⟨j, hj, hPj⟩ := h
      obtain ⟨i, h1, h2, h3⟩ := ih j hj P hPj
      exact ⟨i, by omega, h2, h3⟩
    · exact ⟨n, Nat.le_refl _, hP, fun j hj hPj => h ⟨j, hj, hPj⟩⟩
end Mine
end
-- NbGreedy2
section
open PySem PySem.W PySem.Calls PyProof.Rows
namespace Mine
structure Valid (R : List (List Int)) (sm : Int) (n : Nat) (L : List Int) : Prop where
  len : L.length = 6
  inr : ∀ x ∈ six, insB sm x = true → 1 ≤ L.getD x.toNat 0 ∧ L.getD x.toNat 0 ≤ n
  out : ∀ x ∈ six, insB sm x = false → L.getD x.toNat 0 = 0
  inj : ∀ x ∈ six, ∀ y ∈ six, insB sm x = true → insB sm y = true → L.getD x.toNat 0 = L.getD y.toNat 0 → x = y
  sur : ∀ l : Int, 1 ≤ l → l ≤ n → ∃ x ∈ six, insB sm x = true ∧ L.getD x.toNat 0 = l
  ord : ∀ x ∈ six, insB sm x = true → ∀ j ∈ R.getD x.toNat [], insB sm j = true → L.getD x.toNat 0 < L.getD j.toNat 0
theorem getD_set6 {L : List Int} {t x : Int} {v : Int} (hl : L.length = 6) (ht : t ∈ six) (hx : x ∈ six) : (L.set t.toNat v).getD x.toNat 0 = if x = t then v else L.getD x.toNat 0 := by
  rw [mem_six] at ht hx
  by_cases e : x = t
  · subst e
    rw [if_pos rfl]
    exact getD_set_eq (by omega)
  · rw [if_neg e]
    exact getD_set_ne (by omega)
theorem rows6 {rk : Int → Int} {R : List (List Int)} (hG : GoodRk rk R) {x j : Int} (hx : x ∈ six) (hj : j ∈ R.getD x.toNat []) : j ∈ six := by
  rw [mem_six] at hx ⊢
  have := (hG x.toNat (by omega)).2 j hj
  omega
theorem valid_add {rk : Int → Int} {R : List (List Int)} (hG : GoodRk rk R) {sm t : Int} {n : Nat} {L : List Int} (h0 : 0 ≤ sm) (h1 : sm < 64) (ht : t ∈ six) (hb : insB sm t = true) (hf : frB R (insI sm) t = true)
    (V : Valid R (sm - 2 ^ t.toNat) n L) : Valid R sm (n + 1) (L.set t.toNat ((n : Int) + 1)) := by
  have bi : ∀ x ∈ six, (insB (sm - 2 ^ t.toNat) x = true ↔ insB sm x = true ∧ x ≠ t) := fun x hx => bit_in h0 h1 ht hb hx
  have hn1 : ((n + 1 : Nat) : Int) = (n : Int) + 1 := by omega
  refine ⟨by rw [List.length_set]; exact V.len, fun x hx hbx => ?_, fun x hx hbx => ?_, fun x hx y hy hbx hby he => ?_, fun l hl1 hl2 => ?_, fun x hx hbx j hj hbj => ?_⟩
  · rw [getD_set6 V.len ht hx]
    by_cases e : x = t
    · rw [if_pos e]; omega
    · rw [if_neg e]
      have := V.inr x hx ((bi x hx).mpr ⟨hbx, e⟩)
      omega
  · rw [getD_set6 V.len ht hx]
    have e : x ≠ t := fun e => by rw [e, hb] at hbx; cases hbx
    rw [if_neg e]
    refine V.out x hx ?_
    cases q : insB (sm - 2 ^ t.toNat) x with
    | false => rfl
    | true => rw [((bi x hx).mp q).1] at hbx; cases hbx
  · rw [getD_set6 V.len ht hx, getD_set6 V.len ht hy] at he
    by_cases e1 : x = t
    · by_cases e2 : y = t
      · rw [e1, e2]
      · rw [if_pos e1, if_neg e2] at he
        have := V.inr y hy ((bi y hy).mpr ⟨hby, e2⟩)
        omega
    · by_cases e2 : y = t
      · rw [if_neg e1, if_pos e2] at he
        have := V.inr x hx ((bi x hx).mpr ⟨hbx, e1⟩)
        omega
      · rw [if_neg e1, if_neg e2] at he
        exact V.inj x hx y hy ((bi x hx).mpr ⟨hbx, e1⟩) ((bi y hy).mpr ⟨hby, e2⟩) he
  · by_cases e : l = n + 1
    · exact ⟨t, ht, hb, by rw [getD_set6 V.len ht ht, if_pos rfl, e]⟩
    · obtain ⟨x, hx, hbx, hlx⟩ := V.sur l hl1 (by omega)
      have hx2 := (bi x hx).mp hbx
      exact ⟨x, hx, hx2.1, by rw [getD_set6 V.len ht hx, if_neg hx2.2]; exact hlx⟩
  · have hj6 := rows6 hG hx hj
    rw [getD_set6 V.len ht hx, getD_set6 V.len ht hj6]
    by_cases e1 : x = t
    · rw [e1] at hj
      exact absurd (mem_insI.mpr ⟨hj6, hbj⟩) (frB_iff.mp hf j hj)
    · rw [if_neg e1]
      have hxs := (bi x hx).mpr ⟨hbx, e1⟩
      by_cases e2 : j = t
      · rw [if_pos e2]
        have := V.inr x hx hxs
        omega
      · rw [if_neg e2]
        exact V.ord x hx hxs j hj ((bi j hj6).mpr ⟨hbj, e2⟩)
/-- the thing m is moved to the end -/
noncomputable def exch (L : List Int) (m : Int) : List Int := six.map fun x => if x = m then 0 else if L.getD m.toNat 0 < L.getD x.toNat 0 then L.getD x.toNat 0 - 1 else L.getD x.toNat 0
theorem exch_at {L : List Int} {m x : Int} (hx : x ∈ six) : (exch L m).getD x.toNat 0 = if x = m then 0 else if L.getD m.toNat 0 < L.getD x.toNat 0 then L.getD x.toNat 0 - 1 else L.getD x.toNat 0 := by
  have : x = 0 ∨ x = 1 ∨ x = 2 ∨ x = 3 ∨ x = 4 ∨ x = 5 := by rw [mem_six] at hx; omega
  rcases this with rfl | rfl | rfl | rfl | rfl | rfl <;> rfl
theorem exch_valid {rk : Int → Int} {R : List (List Int)} (hG : GoodRk rk R) {sm m : Int} {n : Nat} {L : List Int} (h0 : 0 ≤ sm) (h1 : sm < 64) (hm : m ∈ six) (hb : insB sm m = true)
    (V : Valid R sm (n + 1) L) : Valid R (sm - 2 ^ m.toNat) n (exch L m) := by
  have bi : ∀ x ∈ six, (insB (sm - 2 ^ m.toNat) x = true ↔ insB sm x = true ∧ x ≠ m) := fun x hx => bit_in h0 h1 hm hb hx
  have hMm := V.inr m hm hb
  have hn1 : ((n + 1 : Nat) : Int) = (n : Int) + 1 := by omega
  rw [hn1] at hMm
  have hne : ∀ x ∈ six, insB sm x = true → x ≠ m → L.getD x.toNat 0 ≠ L.getD m.toNat 0 := fun x hx hbx e q => e (V.inj x hx m hm hbx hb q)
  refine ⟨rfl, fun x hx hbx => ?_, fun x hx hbx => ?_, fun x hx y hy hbx hby he => ?_, fun l hl1 hl2 => ?_, fun x hx hbx j hj hbj => ?_⟩
  · obtain ⟨hbx, e⟩ := (bi x hx).mp hbx
    rw [exch_at hx, if_neg e]
    have h2 := V.inr x hx hbx
    have h3 := hne x hx hbx e
    rw [hn1] at h2
    split <;> omega
  · rw [exch_at hx]
    by_cases e : x = m
    · rw [if_pos e]
    · rw [if_neg e]
      have hbx2 : insB sm x = false := by
        cases q : insB sm x with
        | false => rfl
        | true => rw [(bi x hx).mpr ⟨q, e⟩] at hbx; cases hbx
      have := V.out x hx hbx2
      rw [if_neg (by omega)]
      exact this
  · obtain ⟨hbx, e1⟩ := (bi x hx).mp hbx
    obtain ⟨hby, e2⟩ := (bi y hy).mp hby
    rw [exch_at hx, exch_at hy, if_neg e1, if_neg e2] at he
    have h3 := hne x hx hbx e1
    have h4 := hne y hy hby e2
    refine V.inj x hx y hy hbx hby ?_
    split at he <;> split at he <;> omega
  · by_cases hlm : l < L.getD m.toNat 0
    · obtain ⟨x, hx, hbx, hlx⟩ := V.sur l hl1 (by omega)
      have e : x ≠ m := fun e => by rw [e] at hlx; omega
      refine ⟨x, hx, (bi x hx).mpr ⟨hbx, e⟩, ?_⟩
      rw [exch_at hx, if_neg e, if_neg (by omega)]
      exact hlx
    · obtain ⟨x, hx, hbx, hlx⟩ := V.sur (l + 1) (by omega) (by omega)
      have e : x ≠ m := fun e => by rw [e] at hlx; omega
      refine ⟨x, hx, (bi x hx).mpr ⟨hbx, e⟩, ?_⟩
      rw [exch_at hx, if_neg e, if_pos (by omega)]
      omega
  · obtain ⟨hbx, e1⟩ := (bi x hx).mp hbx
    have hj6 := rows6 hG hx hj
    obtain ⟨hbj, e2⟩ := (bi j hj6).mp hbj
    rw [exch_at hx, exch_at hj6, if_neg e1, if_neg e2]
    have h3 := hne x hx hbx e1
    have h4 := hne j hj6 hbj e2
    have h5 := V.ord x hx hbx j hj hbj
    split <;> split <;> omega
theorem top_facts {R : List (List Int)} {sm m : Int} (h : topI R sm = some m) : m ∈ six ∧ insB sm m = true ∧ frB R (insI sm) m = true ∧ ∀ z ∈ six, insB sm z = true → frB R (insI sm) z = true → z ≤ m := by
  unfold topI at h
  have hm := List.mem_filter.mp (List.mem_of_getLast? h)
  have hi := mem_insI.mp hm.1
  refine ⟨hi.1, hi.2, hm.2, fun z hz hbz hfz => ?_⟩
  have hzm : z ∈ (insI sm).filter (frB R (insI sm)) := List.mem_filter.mpr ⟨mem_insI.mpr ⟨hz, hbz⟩, hfz⟩
  have hpw : ((insI sm).filter (frB R (insI sm))).Pairwise (· < ·) := List.Pairwise.filter _ (List.Pairwise.filter _ (by decide))
  obtain ⟨l0, e⟩ := List.getLast?_eq_some_iff.mp h
  rw [e] at hzm hpw
  rcases List.mem_append.mp hzm with q | q
  · exact Int.le_of_lt ((List.pairwise_append.mp hpw).2.2 z q m (.head _))
  · rw [List.mem_singleton.mp q]; exact Int.le_refl _
theorem valid_free {rk : Int → Int} {R : List (List Int)} (hG : GoodRk rk R) {sm : Int} {n : Nat} {L : List Int} (V : Valid R sm (n + 1) L) {z : Int} (hz : z ∈ six) (hl : L.getD z.toNat 0 = (n : Int) + 1) : frB R (insI sm) z = true := by
  by_cases hbz : insB sm z = true
  · rw [frB_iff]
    intro j hj hji
    have hj6 := rows6 hG hz hj
    have h1 := V.ord z hz hbz j hj (mem_insI.mp hji).2
    have h2 := V.inr j hj6 (mem_insI.mp hji).2
    omega
  · have := V.out z hz (by simpa using hbz)
    omega
theorem exch_le {rk : Int → Int} {R : List (List Int)} (hG : GoodRk rk R) {sm m : Int} {n : Nat} {L : List Int} (ht : topI R sm = some m) (V : Valid R sm (n + 1) L) : LexLe ((exch L m).set m.toNat ((n : Int) + 1)) L := by
  obtain ⟨hm, hb, hf, hmax⟩ := top_facts ht
  have hMm := V.inr m hm hb
  have hn1 : ((n + 1 : Nat) : Int) = (n : Int) + 1 := by omega
  rw [hn1] at hMm
  have el : (exch L m).length = 6 := rfl
  have at_ : ∀ x ∈ six, ((exch L m).set m.toNat ((n : Int) + 1)).getD x.toNat 0 = if x = m then (n : Int) + 1 else if L.getD m.toNat 0 < L.getD x.toNat 0 then L.getD x.toNat 0 - 1 else L.getD x.toNat 0 := fun x hx => by
    rw [getD_set6 el hm hx]
    by_cases e : x = m
    · rw [if_pos e, if_pos e]
    · rw [if_neg e, if_neg e, exch_at hx, if_neg e]
  by_cases hlast : L.getD m.toNat 0 = (n : Int) + 1
  · refine .inl (ext_six (by rw [List.length_set]; rfl) V.len fun x hx => ?_)
    rw [at_ x hx]
    by_cases e : x = m
    · rw [if_pos e, e, hlast]
    · rw [if_neg e]
      by_cases hbx : insB sm x = true
      · have := V.inr x hx hbx
        rw [if_neg (by omega)]
      · have := V.out x hx (by simpa using hbx)
        rw [if_neg (by omega)]
  · obtain ⟨z, hz, hbz, hlz⟩ := V.sur ((n : Int) + 1) (by omega) (by omega)
    have hzm := hmax z hz hbz (valid_free hG V hz hlz)
    have hne : z ≠ m := fun e => hlast (by rw [← e]; exact hlz)
    have hz6 := mem_six.mp hz
    have hm6 := mem_six.mp hm
    obtain ⟨i, hi1, hi2, hi3⟩ := le_first z.toNat (fun i => i < 6 ∧ L.getD m.toNat 0 < L.getD i 0) ⟨by omega, by rw [hlz]; omega⟩
    have eqv : ∀ j : Nat, j < 6 → ((j : Int)).toNat = j := fun j _ => by omega
    refine .inr (lex_first i (by rw [List.length_set, V.len]; rfl) (by rw [List.length_set]; exact hi2.1) (fun j hj => ?_) ?_)
    · have hj6 : (j : Int) ∈ six := mem_six.mpr (by omega)
      have := at_ j hj6
      rw [eqv j (by omega)] at this
      rw [this, if_neg (by omega), if_neg (fun q => hi3 j hj ⟨by omega, q⟩)]
    · have hi6 : (i : Int) ∈ six := mem_six.mpr (by omega)
      have := at_ i hi6
      rw [eqv i hi2.1] at this
      rw [this, if_neg (by omega), if_pos hi2.2]
      omega
theorem greedy_main {rk : Int → Int} {R : List (List Int)} (hG : GoodRk rk R) : ∀ (n : Nat) (sm : Int) (L : List Int), 0 ≤ sm → sm < 64 → Valid R sm n L → Valid R sm n (greedy R n sm) ∧ LexLe (greedy R n sm) L := by
  intro n
  induction n with
  | zero =>
    intro sm L h0 h1 V
    have hz : L = [0, 0, 0, 0, 0, 0] := ext_six V.len rfl fun x hx => by
      have e : ([0, 0, 0, 0, 0, 0] : List Int).getD x.toNat 0 = 0 := by
        have : x = 0 ∨ x = 1 ∨ x = 2 ∨ x = 3 ∨ x = 4 ∨ x = 5 := by rw [mem_six] at hx; omega
        rcases this with rfl | rfl | rfl | rfl | rfl | rfl <;> rfl
      rw [e]
      by_cases hbx : insB sm x = true
      · have := V.inr x hx hbx
        omega
      · exact V.out x hx (by simpa using hbx)
    have : greedy R 0 sm = L := hz.symm
    rw [this]
    exact ⟨V, .inl rfl⟩
  | succ n ih =>
    intro sm L h0 h1 V
    obtain ⟨z, hz, hbz, hlz⟩ := V.sur ((n : Int) + 1) (by omega) (by omega)
    have hzf := valid_free hG V hz hlz
    obtain ⟨m, ht⟩ : ∃ m, topI R sm = some m := by
      cases e : topI R sm with
      | some m => exact ⟨m, rfl⟩
      | none =>
        unfold topI at e
        rw [List.getLast?_eq_none_iff, List.filter_eq_nil_iff] at e
        exact absurd hzf (e z (mem_insI.mpr ⟨hz, hbz⟩))
    obtain ⟨hm, hb, hf, _⟩ := top_facts ht
    have hbits := (bits h0 h1 hm hb).1
    have V2 := exch_valid hG h0 h1 hm hb V
    obtain ⟨VG, hle⟩ := ih (sm - 2 ^ m.toNat) (exch L m) hbits.1 hbits.2.1 V2
    have eg : greedy R (n + 1) sm = (greedy R n (sm - 2 ^ m.toNat)).set m.toNat ((n : Int) + 1) := by rw [greedy, ht]
    rw [eg]
    refine ⟨valid_add hG h0 h1 hm hb hf VG, (hle.set m.toNat _ ?_ (by rw [VG.len]; rfl)).trans (exch_le hG ht V)⟩
    have hoff : insB (sm - 2 ^ m.toNat) m = false := by
      cases q : insB (sm - 2 ^ m.toNat) m with
      | false => rfl
      | true => exact absurd rfl ((bit_in h0 h1 hm hb hm).mp q).2
    rw [VG.out m hm hoff, V2.out m hm hoff]
theorem valid_zero {R : List (List Int)} {sm : Int} (h : insI sm = []) : Valid R sm 0 [0, 0, 0, 0, 0, 0] := by
  have hno : ∀ x ∈ six, ¬ insB sm x = true := fun x hx q => by
    have := mem_insI.mpr ⟨hx, q⟩
    rw [h] at this; cases this
  refine ⟨rfl, fun x hx q => absurd q (hno x hx), fun x hx _ => ?_, fun x hx _ _ q => absurd q (hno x hx), fun l h1 h2 => by omega, fun x hx q => absurd q (hno x hx)⟩
  have : x = 0 ∨ x = 1 ∨ x = 2 ∨ x = 3 ∨ x = 4 ∨ x = 5 := by rw [mem_six] at hx; omega
  rcases this with rfl | rfl | rfl | rfl | rfl | rfl <;> rfl
theorem ex_valid {rk : Int → Int} {R : List (List Int)} (hG : GoodRk rk R) : ∀ (n : Nat) (sm : Int), 0 ≤ sm → sm < 64 → (insI sm).length = n → ∃ L, Valid R sm n L := by
  intro n
  induction n with
  | zero => intro sm _ _ h; exact ⟨_, valid_zero (List.length_eq_zero_iff.mp h)⟩
  | succ n ih =>
    intro sm h0 h1 h
    obtain ⟨t, ht, hf⟩ := free_of hG (fun t ht => insI_six ht) (fun e => by rw [e] at h; cases h)
    obtain ⟨ht6, hbt⟩ := mem_insI.mp ht
    have hb := (bits h0 h1 ht6 hbt).1
    obtain ⟨L, V⟩ := ih (sm - 2 ^ t.toNat) hb.1 hb.2.1 (by omega)
    exact ⟨_, valid_add hG h0 h1 ht6 hbt hf V⟩
theorem greedy_valid {rk : Int → Int} {R : List (List Int)} (hG : GoodRk rk R) {n : Nat} {sm : Int} (h0 : 0 ≤ sm) (h1 : sm < 64) (h : (insI sm).length = n) : Valid R sm n (greedy R n sm) := by
  obtain ⟨L, V⟩ := ex_valid hG n sm h0 h1 h
  exact (greedy_main hG n sm L h0 h1 V).1
theorem greedy_top {rk : Int → Int} {R : List (List Int)} (hG : GoodRk rk R) {n : Nat} {sm : Int} (h0 : 0 ≤ sm) (h1 : sm < 64) (h : (insI sm).length = n + 1) : ∃ m, topI R sm = some m ∧ greedy R (n + 1) sm = (greedy R n (sm - 2 ^ m.toNat)).set m.toNat ((n : Int) + 1) := by
  obtain ⟨t, ht, hf⟩ := free_of hG (fun t ht => insI_six ht) (fun e => by rw [e] at h; cases h)
  cases e : topI R sm with
  | some m => exact ⟨m, rfl, by rw [greedy, e]⟩
  | none =>
    unfold topI at e
    rw [List.getLast?_eq_none_iff, List.filter_eq_nil_iff] at e
    exact absurd hf (e t ht)
end Mine
end
-- NbTab
section
open PySem PySem.W PySem.Calls PyProof.Rows
namespace Mine
theorem tab_is {rk : Int → Int} {R : List (List Int)} (hG : GoodRk rk R) : ∀ k, k ≤ 63 → ∀ s : Nat, s ≤ k → (tabF R k).getD s [] = greedy R (insI (s : Int)).length s := by
  intro k
  induction k with
  | zero =>
    intro _ s hs
    obtain rfl : s = 0 := by omega
    rfl
  | succ k ih =>
    intro hk s hs
    rw [tabF, List.getD_eq_getElem?_getD]
    by_cases hsk : s ≤ k
    · rw [List.getElem?_append_left (by rw [tabF_len]; omega), ← List.getD_eq_getElem?_getD]
      exact ih (by omega) s hsk
    · obtain rfl : s = k + 1 := by omega
      rw [List.getElem?_append_right (by rw [tabF_len]; omega), tabF_len]
      have e1 : ((k + 1 : Nat) : Int) = 1 + (k : Int) * 1 := by omega
      rw [e1]
      show (([rowF R (tabF R k) (1 + (k : Int) * 1)] : List (List Int))[k + 1 - (k + 1)]?).getD [] = _
      rw [Nat.sub_self]
      show rowF R (tabF R k) (1 + (k : Int) * 1) = _
      have hf := insI_facts ⟨k, by omega⟩
      dsimp only at hf
      generalize hsm : 1 + (k : Int) * 1 = sm at hf
      have h0 : 0 ≤ sm := by omega
      have h1 : sm < 64 := by omega
      obtain ⟨n, hn⟩ : ∃ n, (insI sm).length = n + 1 := by
        cases e : insI sm with
        | nil => exact absurd e hf.1
        | cons a r => exact ⟨r.length, rfl⟩
      rw [hn]
      obtain ⟨m, ht, eg⟩ := greedy_top hG h0 h1 hn
      obtain ⟨hm, hb, hfm, _⟩ := top_facts ht
      have hway : ∀ t ∈ insI sm, wayF (tabF R k) sm (insI sm).length t = (greedy R n (sm - 2 ^ t.toNat)).set t.toNat ((n : Int) + 1) := by
        intro t hti
        obtain ⟨ht6, hbt⟩ := mem_insI.mp hti
        have hbi := (bits h0 h1 ht6 hbt).1
        have hfb := hf.2 t hti
        unfold wayF
        rw [ih (by omega) (sm - 2 ^ t.toNat).toNat (by omega), hn]
        have e2 : (((sm - 2 ^ t.toNat).toNat : Nat) : Int) = sm - 2 ^ t.toNat := by omega
        rw [e2, show (insI (sm - 2 ^ t.toNat)).length = n by omega]
        have e3 : ((n + 1 : Nat) : Int) = (n : Int) + 1 := by omega
        rw [e3]
      generalize hGr : greedy R (n + 1) sm = Gr at eg
      have hVal : ∀ t ∈ insI sm, frB R (insI sm) t = true → LexLe Gr (wayF (tabF R k) sm (insI sm).length t) := by
        intro t hti hft
        obtain ⟨ht6, hbt⟩ := mem_insI.mp hti
        have hbi := (bits h0 h1 ht6 hbt).1
        rw [hway t hti, ← hGr]
        exact (greedy_main hG (n + 1) sm _ h0 h1 (valid_add hG h0 h1 ht6 hbt hft (greedy_valid hG hbi.1 hbi.2.1 (by omega)))).2
      have hmi : m ∈ insI sm := mem_insI.mpr ⟨hm, hb⟩
      have hwm : wayF (tabF R k) sm (insI sm).length m = Gr := by rw [hway m hmi, ← eg]
      have hGne : Gr ≠ [] := fun e => by
        have := (greedy_valid hG h0 h1 hn).len
        rw [hGr, e] at this; cases this
      have fold : ∀ (l : List Int) (b : List Int), (∀ t ∈ l, t ∈ insI sm) → (b = [] ∨ LexLe Gr b) → (b = Gr ∨ m ∈ l) → l.foldl (bestF R (tabF R k) sm (insI sm)) b = Gr := by
        intro l
        induction l with
        | nil =>
          intro b _ _ h
          rcases h with h | h
          · exact h
          · cases h
        | cons t r ihl =>
          intro b hl hbb hor
          rw [List.foldl_cons]
          have hti := hl t (.head _)
          have hr : ∀ t ∈ r, t ∈ insI sm := fun u hu => hl u (.tail _ hu)
          have key : (bestF R (tabF R k) sm (insI sm) b t = [] ∨ LexLe Gr (bestF R (tabF R k) sm (insI sm) b t)) ∧ (b = Gr → bestF R (tabF R k) sm (insI sm) b t = Gr) ∧ (t = m → bestF R (tabF R k) sm (insI sm) b t = Gr) := by
            unfold bestF
            by_cases hft : frB R (insI sm) t = true
            · rw [if_pos hft]
              have hle := hVal t hti hft
              refine ⟨?_, fun e => ?_, fun e => ?_⟩
              · split
                · exact .inr hle
                · exact hbb
              · subst e
                rw [if_neg (fun q => by
                  rcases q with q | q
                  · exact hGne q
                  · rw [hle.not] at q; cases q)]
              · subst e
                rw [hwm]
                split
                · rfl
                · rename_i hc
                  rcases hbb with hbb | hbb
                  · exact absurd (.inl hbb) hc
                  · rcases hbb with hbb | hbb
                    · exact hbb.symm
                    · exact absurd (.inr hbb) hc
            · rw [if_neg hft]
              exact ⟨hbb, fun e => e, fun e => absurd (e ▸ hfm) hft⟩
          refine ihl _ hr key.1 ?_
          rcases hor with h | h
          · exact .inl (key.2.1 h)
          · rcases List.mem_cons.mp h with h | h
            · exact .inl (key.2.2 h.symm)
            · exact .inr h
      exact fold (insI sm) [] (fun _ h => h) (.inl rfl) (.inr hmi)
theorem tab63 {rk : Int → Int} {R : List (List Int)} (hG : GoodRk rk R) : (tabF R 63).getD 63 [] = greedy R 6 63 := tab_is hG 63 (by omega) 63 (by omega)
end Mine
end
-- NbRun0
section
open PySem PySem.W PySem.Calls PyProof.Rows
namespace Mine
noncomputable def negs (l : List Int) : List Int := l.map fun x => -x
noncomputable def freeP (od lb : List Int) (x : Int) : Bool := od.getD x.toNat 0 == 0 && lb.getD x.toNat 0 == 0
noncomputable def freeL (od lb : List Int) : List Int := [0, 1, 2, 3, 4, 5].filter (freeP od lb)
/-- the labelled and the unlabelled things: the set sm has no label yet -/
structure Lab (R : List (List Int)) (j : Nat) (sm : Int) (lb : List Int) : Prop where
  llb : lb.length = 6
  sm0 : 0 ≤ sm
  sm1 : sm < 64
  bits : ∀ x ∈ six, (lb.getD x.toNat 0 == 0) = insB sm x
  card : (insI sm).length + j = 6
  over : ∀ x ∈ six, (if insB sm x = true then (greedy R (6 - j) sm).getD x.toNat 0 else lb.getD x.toNat 0) = (greedy R 6 63).getD x.toNat 0
  up : ∀ x ∈ six, insB sm x = false → frB R (insI sm) x = true
noncomputable def owesF (R : List (List Int)) (sm : Int) (x : Int) : Int := (((R.getD x.toNat []).filter fun y => insB sm y).length : Int)
structure Run (R : List (List Int)) (j : Nat) (od lb hp : List Int) : Prop where
  lod : od.length = 6
  lab : ∃ sm, Lab R j sm lb ∧ ∀ x ∈ six, od.getD x.toNat 0 = owesF R sm x
  heap : HeapOk hp
  perm : hp.Perm (negs (freeL od lb))
/-- what is owed when the things below i have been told of top's label -/
noncomputable def owesM (R : List (List Int)) (sm top : Int) (i : Nat) (x : Int) : Int := if x < (i : Int) then owesF R (sm - 2 ^ top.toNat) x else owesF R sm x
noncomputable def freeM (R : List (List Int)) (sm top : Int) (i : Nat) : List Int := six.filter fun x => insB (sm - 2 ^ top.toNat) x && owesM R sm top i x == 0
structure Mid (R : List (List Int)) (j : Nat) (lb : List Int) (top : Int) (i : Nat) (od hp : List Int) : Prop where
  lod : od.length = 6
  lab : ∃ sm, Lab R j sm lb ∧ topI R sm = some top ∧ (∀ x ∈ six, od.getD x.toNat 0 = owesM R sm top i x) ∧ hp.Perm (negs (freeM R sm top i))
  heap : HeapOk hp
theorem owes_zero {rk : Int → Int} {R : List (List Int)} (hG : GoodRk rk R) {sm x : Int} (hx : x ∈ six) : owesF R sm x = 0 ↔ frB R (insI sm) x = true := by
  rw [frB_iff]
  unfold owesF
  constructor
  · intro h j hj hji
    have h0 : ((R.getD x.toNat []).filter fun y => insB sm y).length = 0 := by omega
    have := List.length_eq_zero_iff.mp h0
    rw [List.filter_eq_nil_iff] at this
    exact this j hj (mem_insI.mp hji).2
  · intro h
    have : ((R.getD x.toNat []).filter fun y => insB sm y) = [] := by
      rw [List.filter_eq_nil_iff]
      intro j hj hbj
      exact h j hj (mem_insI.mpr ⟨rows6 hG hx hj, hbj⟩)
    rw [this]; rfl
theorem free_eq {rk : Int → Int} {R : List (List Int)} (hG : GoodRk rk R) {j : Nat} {sm : Int} {od lb : List Int} (hL : Lab R j sm lb) (ho : ∀ x ∈ six, od.getD x.toNat 0 = owesF R sm x) : freeL od lb = (insI sm).filter (frB R (insI sm)) := by
  unfold freeL insI
  rw [List.filter_filter]
  refine List.filter_congr fun x hx => ?_
  unfold freeP
  rw [hL.bits x hx, ho x hx, Bool.and_comm, Bool.and_comm (frB _ _ _)]
  congr 1
  by_cases h : owesF R sm x = 0
  · have h2 : frB R (List.filter (insB sm) [0, 1, 2, 3, 4, 5]) x = true := (owes_zero hG hx).mp h
    rw [h2, h]; rfl
  · have h2 : frB R (insI sm) x = false := by
      cases q : frB R (insI sm) x with
      | false => rfl
      | true => exact absurd ((owes_zero hG hx).mpr q) h
    have h3 : frB R (List.filter (insB sm) [0, 1, 2, 3, 4, 5]) x = false := h2
    rw [h3, beq_eq_false_iff_ne]
    exact h
theorem bit63 : ∀ x ∈ six, insB 63 x = true := by decide +kernel
theorem run_start {rk : Int → Int} {R : List (List Int)} (hG : GoodRk rk R) (hR : R.length = 6) {hp : List Int} (h : HeapOk hp) (hp0 : hp.Perm (negs ([0, 1, 2, 3, 4, 5].filter fun x => (R.map fun r => (r.length : Int)).getD x.toNat 0 == 0))) : Run R 0 (R.map fun r => (r.length : Int)) [0, 0, 0, 0, 0, 0] hp := by
  have hz : ∀ x ∈ six, ([0, 0, 0, 0, 0, 0] : List Int).getD x.toNat 0 = 0 := by decide
  refine ⟨by rw [List.length_map]; exact hR, ⟨63, ⟨rfl, by decide, by decide, fun x hx => ?_, rfl, fun x hx => ?_, fun x hx q => ?_⟩, fun x hx => ?_⟩, h, ?_⟩
  · rw [hz x hx, bit63 x hx]; rfl
  · rw [if_pos (bit63 x hx)]
  · rw [bit63 x hx] at q; cases q
  · unfold owesF
    have hx6 := mem_six.mp hx
    have e : (R.map fun r => (r.length : Int)).getD x.toNat 0 = ((R.getD x.toNat []).length : Int) := by
      simp [show x.toNat < R.length by omega]
    rw [e, List.filter_eq_self.mpr fun y hy => bit63 y (rows6 hG hx hy)]
  · refine hp0.trans ?_
    unfold freeL
    rw [List.filter_congr (q := freeP (R.map fun r => (r.length : Int)) [0, 0, 0, 0, 0, 0]) fun x hx => ?_]
    unfold freeP
    rw [hz x hx]
    simp
theorem run_free {rk : Int → Int} {R : List (List Int)} (hG : GoodRk rk R) {j : Nat} {od lb hp : List Int} (h : Run R j od lb hp) (hj : j < 6) : freeL od lb ≠ [] := by
  obtain ⟨sm, hL, ho⟩ := h.lab
  rw [free_eq hG hL ho]
  have hc := hL.card
  obtain ⟨t, ht, hf⟩ := free_of hG (fun t ht => insI_six ht) (fun e => by rw [e] at hc; simp at hc; omega : insI sm ≠ [])
  intro e
  rw [List.filter_eq_nil_iff] at e
  exact e t ht hf
theorem nodup_six : six.Nodup := by decide
theorem negs_cons_perm {x : Int} {l l' : List Int} (h : l.Perm (x :: l')) : (negs l).Perm (-x :: negs l') := h.map _
theorem run_mid {rk : Int → Int} {R : List (List Int)} (hG : GoodRk rk R) {j : Nat} {od lb hp hp2 : List Int} (h : Run R j od lb hp) (hj0 : j < 6) {top : Int} (ht : (freeL od lb).getLast? = some top) (h2 : HeapOk hp2) (hp2p : (-top :: hp2).Perm hp) : Mid R j lb top 0 od hp2 := by
  obtain ⟨sm, hL, ho⟩ := h.lab
  have hfe := free_eq hG hL ho
  have htop : topI R sm = some top := by unfold topI; rw [← hfe]; exact ht
  obtain ⟨hm, hb, hf, _⟩ := top_facts htop
  have hM : ∀ x ∈ six, owesM R sm top 0 x = owesF R sm x := fun x hx => by
    have := mem_six.mp hx
    unfold owesM
    rw [if_neg (by omega)]
  refine ⟨h.lod, ⟨sm, hL, htop, fun x hx => by rw [hM x hx]; exact ho x hx, ?_⟩, h2⟩
  have hp3 : (freeL od lb).Perm (top :: freeM R sm top 0) := by
    rw [hfe]
    refine (List.perm_ext_iff_of_nodup ?_ ?_).mpr fun x => ?_
    · exact (nodup_six.filter _).filter _
    · refine List.nodup_cons.mpr ⟨fun q => ?_, nodup_six.filter _⟩
      have := (List.mem_filter.mp q).2
      rw [Bool.and_eq_true] at this
      exact ((bit_in hL.sm0 hL.sm1 hm hb hm).mp this.1).2 rfl
    · constructor
      · intro q
        obtain ⟨q1, q2⟩ := List.mem_filter.mp q
        obtain ⟨q3, q4⟩ := mem_insI.mp q1
        by_cases e : x = top
        · rw [e]; exact .head _
        · refine .tail _ (List.mem_filter.mpr ⟨q3, ?_⟩)
          rw [Bool.and_eq_true]
          exact ⟨(bit_in hL.sm0 hL.sm1 hm hb q3).mpr ⟨q4, e⟩, by rw [hM x q3, beq_iff_eq]; exact (owes_zero hG q3).mpr q2⟩
      · intro q
        rcases List.mem_cons.mp q with rfl | q
        · exact List.mem_filter.mpr ⟨mem_insI.mpr ⟨hm, hb⟩, hf⟩
        · obtain ⟨q3, q4⟩ := List.mem_filter.mp q
          rw [Bool.and_eq_true, hM x q3, beq_iff_eq] at q4
          exact List.mem_filter.mpr ⟨mem_insI.mpr ⟨q3, ((bit_in hL.sm0 hL.sm1 hm hb q3).mp q4.1).1⟩, (owes_zero hG q3).mp q4.2⟩
  exact List.Perm.cons_inv ((hp2p.trans h.perm).trans (negs_cons_perm hp3))
theorem any_mem {l : List Int} {x : Int} : l.any (fun y => y == x) = true ↔ x ∈ l := by
  rw [List.any_eq_true]
  constructor
  · rintro ⟨y, hy, e⟩
    have e : y = x := by simpa using e
    exact e ▸ hy
  · intro h; exact ⟨x, h, by simp⟩
theorem owesM_step {R : List (List Int)} {sm top : Int} {i : Nat} {x : Int} : owesM R sm top (i + 1) x = if x = (i : Int) then owesF R (sm - 2 ^ top.toNat) x else owesM R sm top i x := by
  unfold owesM
  by_cases e : x = (i : Int)
  · rw [if_pos e, if_pos (by omega)]
  · rw [if_neg e]
    by_cases h : x < (i : Int)
    · rw [if_pos h, if_pos (by omega)]
    · rw [if_neg h, if_neg (by omega)]
theorem owesM_self {R : List (List Int)} {sm top : Int} {i : Nat} : owesM R sm top i (i : Int) = owesF R sm (i : Int) := by
  unfold owesM
  rw [if_neg (by omega)]
theorem owes_skip {rk : Int → Int} {R : List (List Int)} (hG : GoodRk rk R) {sm top : Int} (h0 : 0 ≤ sm) (h1 : sm < 64) (hm : top ∈ six) (hb : insB sm top = true) {x : Int} (hx : x ∈ six) (hn : top ∉ R.getD x.toNat []) : owesF R (sm - 2 ^ top.toNat) x = owesF R sm x := by
  unfold owesF
  rw [List.filter_congr fun y hy => ?_]
  have hy6 := rows6 hG hx hy
  have hne : y ≠ top := fun e => hn (e ▸ hy)
  rw [(bits h0 h1 hm hb).2 y hy6]
  simp [hne]
theorem filter_drop {p q : Int → Bool} {t : Int} : ∀ {l : List Int}, l.Nodup → t ∈ l → p t = true → q t = false → (∀ y ∈ l, y ≠ t → q y = p y) → (l.filter q).length + 1 = (l.filter p).length
  | [], _, h, _, _, _ => nomatch h
  | y :: r, hnd, hm, hp, hq, he => by
    obtain ⟨hn, hnd⟩ := List.nodup_cons.mp hnd
    by_cases e : y = t
    · subst e
      rw [List.filter_cons_of_pos hp, List.filter_cons_of_neg (by rw [hq]; exact Bool.false_ne_true), List.length_cons]
      rw [List.filter_congr fun z hz => he z (.tail _ hz) (fun e => hn (e ▸ hz))]
    · have hm' : t ∈ r := by
        rcases List.mem_cons.mp hm with h | h
        · exact absurd h.symm e
        · exact h
      have ih := filter_drop hnd hm' hp hq (fun z hz => he z (.tail _ hz))
      have hy := he y (.head _) e
      by_cases hpy : p y = true
      · rw [List.filter_cons_of_pos hpy, List.filter_cons_of_pos (hy.trans hpy), List.length_cons, List.length_cons]
        omega
      · rw [List.filter_cons_of_neg hpy, List.filter_cons_of_neg (by rw [hy]; exact hpy)]
        exact ih
theorem owes_drop {rk : Int → Int} {R : List (List Int)} (hG : GoodRk rk R) {sm top : Int} (h0 : 0 ≤ sm) (h1 : sm < 64) (hm : top ∈ six) (hb : insB sm top = true) {x : Int} (hx : x ∈ six) (hn : top ∈ R.getD x.toNat []) : owesF R (sm - 2 ^ top.toNat) x + 1 = owesF R sm x := by
  unfold owesF
  have hx6 := mem_six.mp hx
  have hoff : insB (sm - 2 ^ top.toNat) top = false := by
    cases q : insB (sm - 2 ^ top.toNat) top with
    | false => rfl
    | true => exact absurd rfl ((bit_in h0 h1 hm hb hm).mp q).2
  have := filter_drop (p := fun y => insB sm y) (q := fun y => insB (sm - 2 ^ top.toNat) y) ((hG x.toNat (by omega)).1) hn hb hoff (fun y hy e => by
    show insB (sm - 2 ^ top.toNat) y = insB sm y
    rw [(bits h0 h1 hm hb).2 y (rows6 hG hx hy)]
    simp [e])
  omega
theorem getD_setI {od : List Int} (hl : od.length = 6) {i : Nat} (hi : i < 6) {v x : Int} (hx : x ∈ six) : (od.set i v).getD x.toNat 0 = if x = (i : Int) then v else od.getD x.toNat 0 := by
  have := getD_set6 (t := (i : Int)) (v := v) hl (mem_six.mpr (by omega)) hx
  rwa [show ((i : Int)).toNat = i by omega] at this
theorem mid_skip {rk : Int → Int} {R : List (List Int)} (hG : GoodRk rk R) {j i : Nat} {od lb hp : List Int} {top : Int} (h : Mid R j lb top i od hp) (hi : i < 6) (hn : (R.getD i []).any (fun x => x == top) = false) : Mid R j lb top (i + 1) od hp := by
  obtain ⟨sm, hL, ht, ho, hp1⟩ := h.lab
  obtain ⟨hm, hb, _, _⟩ := top_facts ht
  have hi6 : (i : Int) ∈ six := mem_six.mpr (by omega)
  have hni : top ∉ R.getD ((i : Int)).toNat [] := by
    rw [show ((i : Int)).toNat = i by omega]
    intro q
    rw [any_mem.mpr q] at hn; cases hn
  have hM : ∀ x ∈ six, owesM R sm top (i + 1) x = owesM R sm top i x := fun x hx => by
    rw [owesM_step]
    by_cases e : x = (i : Int)
    · rw [if_pos e, e, owesM_self, owes_skip hG hL.sm0 hL.sm1 hm hb hi6 hni]
    · rw [if_neg e]
  refine ⟨h.lod, ⟨sm, hL, ht, fun x hx => by rw [hM x hx]; exact ho x hx, ?_⟩, h.heap⟩
  have : freeM R sm top (i + 1) = freeM R sm top i := List.filter_congr fun x hx => by rw [hM x hx]
  rw [this]; exact hp1
theorem mid_set {rk : Int → Int} {R : List (List Int)} (hG : GoodRk rk R) {j i : Nat} {od lb hp : List Int} {top sm : Int} (h : Mid R j lb top i od hp) (hi : i < 6) (hL : Lab R j sm lb) (ht : topI R sm = some top) (ho : ∀ x ∈ six, od.getD x.toNat 0 = owesM R sm top i x) (hn : (R.getD i []).any (fun x => x == top) = true) :
    (∀ x ∈ six, (od.set i (od.getD i 0 - 1)).getD x.toNat 0 = owesM R sm top (i + 1) x) ∧ owesF R (sm - 2 ^ top.toNat) (i : Int) = od.getD i 0 - 1 ∧ owesF R sm (i : Int) = od.getD i 0 := by
  obtain ⟨hm, hb, _, _⟩ := top_facts ht
  have hi6 : (i : Int) ∈ six := mem_six.mpr (by omega)
  have hni : top ∈ R.getD ((i : Int)).toNat [] := by
    rw [show ((i : Int)).toNat = i by omega]
    exact any_mem.mp hn
  have hd := owes_drop hG hL.sm0 hL.sm1 hm hb hi6 hni
  have hoi := ho (i : Int) hi6
  rw [owesM_self, show ((i : Int)).toNat = i by omega] at hoi
  refine ⟨fun x hx => ?_, by omega, hoi.symm⟩
  rw [getD_setI h.lod hi hx, owesM_step]
  by_cases e : x = (i : Int)
  · rw [if_pos e, if_pos e, e]; omega
  · rw [if_neg e, if_neg e]; exact ho x hx
theorem mid_dec {rk : Int → Int} {R : List (List Int)} (hG : GoodRk rk R) {j i : Nat} {od lb hp : List Int} {top : Int} (h : Mid R j lb top i od hp) (hi : i < 6) (hn : (R.getD i []).any (fun x => x == top) = true) (h0 : od.getD i 0 - 1 ≠ 0) : Mid R j lb top (i + 1) (od.set i (od.getD i 0 - 1)) hp := by
  obtain ⟨sm, hL, ht, ho, hp1⟩ := h.lab
  obtain ⟨a, b, c⟩ := mid_set hG h hi hL ht ho hn
  refine ⟨by rw [List.length_set]; exact h.lod, ⟨sm, hL, ht, a, ?_⟩, h.heap⟩
  have hc1 : 0 ≤ owesF R (sm - 2 ^ top.toNat) (i : Int) := by unfold owesF; omega
  have : freeM R sm top (i + 1) = freeM R sm top i := List.filter_congr fun x hx => by
    congr 1
    rw [owesM_step]
    by_cases e : x = (i : Int)
    · rw [if_pos e, e, owesM_self, beq_eq_false_iff_ne.mpr (by omega), beq_eq_false_iff_ne.mpr (by omega)]
    · rw [if_neg e]
  rw [this]; exact hp1
theorem mid_push {rk : Int → Int} {R : List (List Int)} (hG : GoodRk rk R) {j i : Nat} {od lb hp hp2 : List Int} {top : Int} (h : Mid R j lb top i od hp) (hi : i < 6) (hn : (R.getD i []).any (fun x => x == top) = true) (h0 : od.getD i 0 - 1 = 0) (h2 : HeapOk hp2) (hp2p : hp2.Perm (-(i : Int) :: hp)) : Mid R j lb top (i + 1) (od.set i (od.getD i 0 - 1)) hp2 := by
  obtain ⟨sm, hL, ht, ho, hp1⟩ := h.lab
  obtain ⟨a, b, c⟩ := mid_set hG h hi hL ht ho hn
  obtain ⟨hm, hb, _, _⟩ := top_facts ht
  have hi6 : (i : Int) ∈ six := mem_six.mpr (by omega)
  have hti : top ∈ R.getD i [] := any_mem.mp hn
  have hbi : insB sm (i : Int) = true := by
    cases q : insB sm (i : Int) with
    | true => rfl
    | false =>
      have := frB_iff.mp (hL.up (i : Int) hi6 q) top (by rw [show ((i : Int)).toNat = i by omega]; exact hti)
      exact absurd (mem_insI.mpr ⟨hm, hb⟩) this
  have hne : (i : Int) ≠ top := fun e => by
    have := ((hG i hi).2 top hti).2.2
    rw [e] at this
    omega
  have hbs : insB (sm - 2 ^ top.toNat) (i : Int) = true := (bit_in hL.sm0 hL.sm1 hm hb hi6).mpr ⟨hbi, hne⟩
  refine ⟨by rw [List.length_set]; exact h.lod, ⟨sm, hL, ht, a, hp2p.trans ?_⟩, h2⟩
  have hp3 : (freeM R sm top (i + 1)).Perm ((i : Int) :: freeM R sm top i) := by
    refine (List.perm_ext_iff_of_nodup (nodup_six.filter _) ?_).mpr fun x => ?_
    · refine List.nodup_cons.mpr ⟨fun q => ?_, nodup_six.filter _⟩
      have := (List.mem_filter.mp q).2
      rw [Bool.and_eq_true, beq_iff_eq, owesM_self] at this
      omega
    · constructor
      · intro q
        obtain ⟨q3, q4⟩ := List.mem_filter.mp q
        rw [owesM_step] at q4
        by_cases e : x = (i : Int)
        · rw [e]; exact .head _
        · rw [if_neg e] at q4
          exact .tail _ (List.mem_filter.mpr ⟨q3, q4⟩)
      · intro q
        rcases List.mem_cons.mp q with rfl | q
        · refine List.mem_filter.mpr ⟨hi6, ?_⟩
          rw [owesM_step, if_pos rfl, hbs, Bool.true_and, beq_iff_eq]
          omega
        · obtain ⟨q3, q4⟩ := List.mem_filter.mp q
          have e : x ≠ (i : Int) := fun e => by
            rw [e, owesM_self, Bool.and_eq_true, beq_iff_eq] at q4
            omega
          refine List.mem_filter.mpr ⟨q3, ?_⟩
          rw [owesM_step, if_neg e]
          exact q4
  exact (List.Perm.cons _ hp1).trans (negs_cons_perm hp3).symm
theorem mid_end {rk : Int → Int} {R : List (List Int)} (hG : GoodRk rk R) {j : Nat} {od lb hp : List Int} {top : Int} (h : Mid R j lb top 6 od hp) (hj : j < 6) : Run R (j + 1) od (lb.set top.toNat (6 - (j : Int))) hp := by
  obtain ⟨sm, hL, ht, ho, hp1⟩ := h.lab
  obtain ⟨hm, hb, hf, _⟩ := top_facts ht
  have hbi := (bits hL.sm0 hL.sm1 hm hb).1
  have bi : ∀ x ∈ six, (insB (sm - 2 ^ top.toNat) x = true ↔ insB sm x = true ∧ x ≠ top) := fun x hx => bit_in hL.sm0 hL.sm1 hm hb hx
  have hM : ∀ x ∈ six, owesM R sm top 6 x = owesF R (sm - 2 ^ top.toNat) x := fun x hx => by
    have := mem_six.mp hx
    unfold owesM
    rw [if_pos (by omega)]
  have hlb := hL.llb
  have at_ : ∀ x ∈ six, (lb.set top.toNat (6 - (j : Int))).getD x.toNat 0 = if x = top then 6 - (j : Int) else lb.getD x.toNat 0 := fun x hx => getD_set6 hlb hm hx
  have hoff : insB (sm - 2 ^ top.toNat) top = false := by
    cases q : insB (sm - 2 ^ top.toNat) top with
    | false => rfl
    | true => exact absurd rfl ((bi top hm).mp q).2
  have hsame : ∀ x ∈ six, x ≠ top → insB (sm - 2 ^ top.toNat) x = insB sm x := fun x hx e => by
    rw [(bits hL.sm0 hL.sm1 hm hb).2 x hx]
    simp [e]
  have hbits : ∀ x ∈ six, ((lb.set top.toNat (6 - (j : Int))).getD x.toNat 0 == 0) = insB (sm - 2 ^ top.toNat) x := fun x hx => by
    rw [at_ x hx]
    by_cases e : x = top
    · rw [if_pos e, e, hoff, beq_eq_false_iff_ne]
      omega
    · rw [if_neg e, hsame x hx e]
      exact hL.bits x hx
  have hcard := hL.card
  obtain ⟨n, hn⟩ : ∃ n, 6 - j = n + 1 := ⟨6 - (j + 1), (Nat.succ_pred_eq_of_pos (Nat.sub_pos_of_lt hj)).symm⟩
  obtain ⟨m2, ht2, eg⟩ := greedy_top hG hL.sm0 hL.sm1 (show (insI sm).length = n + 1 by omega)
  obtain rfl : top = m2 := Option.some.inj (ht.symm.trans ht2)
  have hgl := (greedy_valid hG hbi.1 hbi.2.1 (show (insI (sm - 2 ^ top.toNat)).length = n by omega)).len
  refine ⟨h.lod, ⟨sm - 2 ^ top.toNat, ⟨by rw [List.length_set]; exact hlb, hbi.1, hbi.2.1, hbits, by omega, fun x hx => ?_, fun x hx q => ?_⟩, fun x hx => by rw [ho x hx, hM x hx]⟩, h.heap, hp1.trans ?_⟩
  · have hov := hL.over x hx
    rw [hn, eg, getD_set6 hgl hm hx] at hov
    rw [show 6 - (j + 1) = n from (congrArg Nat.pred hn : _), at_ x hx]
    by_cases e : x = top
    · rw [e] at hov ⊢
      rw [if_pos hb, if_pos rfl] at hov
      rw [hoff, if_neg (by exact Bool.false_ne_true), if_pos rfl, ← hov]
      omega
    · rw [if_neg e] at hov ⊢
      rw [hsame x hx e]
      exact hov
  · rw [frB_iff]
    have sub : ∀ y ∈ insI (sm - 2 ^ top.toNat), y ∈ insI sm := fun y hy => by
      obtain ⟨h1, h2⟩ := mem_insI.mp hy
      exact mem_insI.mpr ⟨h1, ((bi y h1).mp h2).1⟩
    by_cases e : x = top
    · rw [e]
      exact fun y hy hyi => frB_iff.mp hf y hy (sub y hyi)
    · rw [hsame x hx e] at q
      exact fun y hy hyi => frB_iff.mp (hL.up x hx q) y hy (sub y hyi)
  · have : freeM R sm top 6 = freeL od (lb.set top.toNat (6 - (j : Int))) := by
      unfold freeM freeL
      refine List.filter_congr fun x hx => ?_
      unfold freeP
      rw [hbits x hx, ho x hx, Bool.and_comm]
    rw [this]
theorem run_end {rk : Int → Int} {R : List (List Int)} (hG : GoodRk rk R) {od lb hp : List Int} (h : Run R 6 od lb hp) : hp = [] ∧ lb = (tabF R 63).getD 63 [] := by
  obtain ⟨sm, hL, ho⟩ := h.lab
  have hc := hL.card
  have hnil : insI sm = [] := List.length_eq_zero_iff.mp (by omega)
  constructor
  · have hp1 := h.perm
    rw [free_eq hG hL ho, hnil] at hp1
    exact List.Perm.eq_nil hp1
  · rw [tab63 hG]
    refine ext_six hL.llb (greedy_valid hG (n := 6) (sm := 63) (by decide) (by decide) rfl).len fun x hx => ?_
    have := hL.over x hx
    rw [if_neg (fun q => by
      have := mem_insI.mpr ⟨hx, q⟩
      rw [hnil] at this; cases this)] at this
    exact this
end Mine
end
-- NbTwo
section
open PySem PySem.W PySem.Calls PyProof.Rows
namespace Mine
theorem eq_of_asc {l1 l2 : List Int} (hp : l1.Perm l2) (h1 : l1.Pairwise (· ≤ ·)) (h2 : l2.Pairwise (· ≤ ·)) : l1 = l2 :=
  List.Perm.eq_of_pairwise (fun a b _ _ h h' => Int.le_antisymm h h') h1 h2 hp
theorem eq_of_desc {l1 l2 : List Int} (hp : l1.Perm l2) (h1 : l1.Pairwise (· ≥ ·)) (h2 : l2.Pairwise (· ≥ ·)) : l1 = l2 :=
  List.Perm.eq_of_pairwise (fun a b _ _ h h' => Int.le_antisymm h' h) h1 h2 hp
theorem ex_desc : ∀ l : List Int, ∃ l' : List Int, l'.Perm l ∧ l'.Pairwise (· ≥ ·) := by
  have ins : ∀ (x : Int) (l : List Int), l.Pairwise (· ≥ ·) → ∃ l' : List Int, l'.Perm (x :: l) ∧ l'.Pairwise (· ≥ ·) := by
    intro x l
    induction l with
    | nil => intro _; exact ⟨[x], List.Perm.refl _, by simp⟩
    | cons y r ih =>
      intro h
      obtain ⟨h1, h2⟩ := List.pairwise_cons.mp h
      by_cases hxy : x ≥ y
      · refine ⟨x :: y :: r, List.Perm.refl _, List.pairwise_cons.mpr ⟨fun z hz => ?_, h⟩⟩
        rcases List.mem_cons.mp hz with rfl | hz
        · exact hxy
        · have := h1 z hz; omega
      · obtain ⟨l', p, s⟩ := ih h2
        refine ⟨y :: l', (List.Perm.cons y p).trans (List.Perm.swap x y r), List.pairwise_cons.mpr ⟨fun z hz => ?_, s⟩⟩
        rcases List.mem_cons.mp (p.mem_iff.mp hz) with rfl | hz
        · omega
        · exact h1 z hz
  intro l
  induction l with
  | nil => exact ⟨[], List.Perm.refl _, List.Pairwise.nil⟩
  | cons x r ih =>
    obtain ⟨l', p, s⟩ := ih
    obtain ⟨l'', p', s'⟩ := ins x l' s
    exact ⟨l'', p'.trans (List.Perm.cons x p), s'⟩
theorem top2_is {l out : List Int} (hl : l.Pairwise (· < ·)) (h : Top2 true l out) : out = l.reverse.take 2 := by
  obtain ⟨hlen, rest, hp, ho, hr⟩ := h
  obtain ⟨rest', p, s⟩ := ex_desc rest
  have ho : out.Pairwise (· ≥ ·) := ho
  have e : out ++ rest' = l.reverse := by
    refine eq_of_desc (((List.Perm.append_left out p).trans hp).trans (List.reverse_perm l).symm) ?_ ?_
    · rw [List.pairwise_append]
      refine ⟨ho, s, fun x hx y hy => ?_⟩
      have := hr x hx y (p.mem_iff.mp hy)
      simpa using this
    · rw [List.pairwise_reverse]
      exact hl.imp fun h => Int.le_of_lt h
  rw [← e]
  have hl2 := hp.length_eq
  rw [List.length_append] at hl2
  by_cases h2 : 2 ≤ l.length
  · have : out.length = 2 := by omega
    rw [List.take_append_of_le_length (by omega), List.take_of_length_le (by omega)]
  · have h0 : rest.length = 0 := by omega
    have : rest' = [] := List.length_eq_zero_iff.mp (by rw [p.length_eq]; exact h0)
    rw [this, List.append_nil, List.take_of_length_le (by omega)]
theorem negs_negs (l : List Int) : negs (negs l) = l := by unfold negs; rw [List.map_map]; have : ((fun x : Int => -x) ∘ fun x => -x) = id := funext fun x => Int.neg_neg x; rw [this, List.map_id]
theorem negs_perm {l l' : List Int} (h : l.Perm l') : (negs l).Perm (negs l') := h.map _
theorem top2_negs {l hp out : List Int} (hperm : hp.Perm (negs l)) (h : Top2 false hp out) : Top2 true l (negs out) := by
  obtain ⟨hlen, rest, hp', ho, hr⟩ := h
  have hl : hp.length = l.length := by rw [hperm.length_eq]; unfold negs; rw [List.length_map]
  refine ⟨by unfold negs; rw [List.length_map, hlen, hl], negs rest, ?_, ?_, ?_⟩
  · have := negs_perm (hp'.trans hperm)
    rw [negs_negs] at this
    unfold negs at this ⊢
    rwa [List.map_append] at this
  · have ho : out.Pairwise (· ≤ ·) := ho
    show (negs out).Pairwise (· ≥ ·)
    unfold negs
    rw [List.pairwise_map]
    exact ho.imp fun h => by omega
  · intro x hx y hy
    obtain ⟨x', hx', rfl⟩ := List.mem_map.mp hx
    obtain ⟨y', hy', rfl⟩ := List.mem_map.mp hy
    have := hr x' hx' y' hy'
    simp only [if_true, Bool.false_eq_true, if_false] at this ⊢
    omega
theorem freeL_asc (od lb : List Int) : (freeL od lb).Pairwise (· < ·) := List.Pairwise.filter _ (by decide)
theorem sorted_free {ns9 hp l : List Int} (hl : l.Pairwise (· < ·)) (h9 : ns9.Perm (negs hp)) (ho : Ordered false ns9) (hp' : hp.Perm (negs l)) : ns9 = l := by
  refine eq_of_asc (h9.trans ?_) ho (hl.imp fun h => Int.le_of_lt h)
  have := negs_perm hp'
  rwa [negs_negs] at this
/-- the greatest: the last of the free ones, the heap's first with the other sign -/
theorem top_is {l hp : List Int} (hl : l.Pairwise (· < ·)) (hne : l ≠ []) (hh : HeapOk hp) (hp' : hp.Perm (negs l)) : ∃ top, l.getLast? = some top ∧ hp.getD 0 0 = -top ∧ (l.reverse.take 2).getD 0 0 = top ∧ top ∈ l ∧ 0 < (l.reverse.take 2).length := by
  obtain ⟨top, ht⟩ : ∃ t, l.getLast? = some t := by
    cases e : l.getLast? with
    | none => exact absurd (List.getLast?_eq_none_iff.mp e) hne
    | some t => exact ⟨t, rfl⟩
  have hm : top ∈ l := List.mem_of_getLast? ht
  obtain ⟨l0, rfl⟩ : ∃ l0, l = l0 ++ [top] := by
    obtain ⟨l0, e⟩ := List.getLast?_eq_some_iff.mp ht
    exact ⟨l0, e⟩
  have hlen : 0 < hp.length := by rw [hp'.length_eq]; unfold negs; simp
  have hmem : hp.getD 0 0 ∈ hp := by
    have e : hp.getD 0 0 = hp[0] := by simp [hlen]
    rw [e]; exact List.getElem_mem hlen
  refine ⟨top, ht, ?_, by simp, hm, by simp⟩
  obtain ⟨y, hy, e⟩ := List.mem_map.mp (hp'.mem_iff.mp hmem)
  have h1 : hp.getD 0 0 ≤ -top := heap_min hh _ (hp'.mem_iff.mpr (List.mem_map.mpr ⟨top, hm, rfl⟩))
  have h2 : y ≤ top := by
    rcases List.mem_append.mp hy with h | h
    · exact Int.le_of_lt ((List.pairwise_append.mp hl).2.2 y h top (.head _))
    · rw [List.mem_singleton.mp h]; exact Int.le_refl _
  omega
end Mine
end
-- NbPo
section
open PySem PySem.W PySem.Calls PyProof.Rows
namespace Mine
theorem reset_NbPo : True := by
  w_top off
  trivial
set_option maxRecDepth 100000
set_option maxHeartbeats 8000000
section
variable {prog : Program} {w : World} {p : Program} {loose : List Str} {mean : ExcName → Option Value} {mg mb : Str → Option Value} {dp un : Nat} {gd : Option (List Code)} {cn : Str} {cs : Scope} {a : Addr} {ccd : Value} {cl : List (Str × Addr)} {outer : List Env}
  {A₀ : Around} {base h₀ : Heap} {L : Addr} {m : Str → Option Value} {tch : List (Addr × Obj)} {s : Shared} {Q E : Value → Shared → Prop}
  {name qual : Str} {params : Arguments} {body : List Stmt} {scope : Scope} {dV kV doc pm cdv ct oc : Value} {an od : Option Addr} {osl : Array (Option Value)} {f : Addr} {vals : List Value} {binds : List (Str × Value)} {K : Frag}
/-- a def of the text is entered; it may raise -/
theorem enterE (B : Below A₀ base outer h₀) (F : Fr h₀ L s.heap m) (X : K.In h₀) (N : News h₀ L s.heap tch) (T : Top p loose mean mg mb h₀) (hk : cs.kind = .function)
    (ho : K.lookup f = some ⟨oc, od, .func (fnOf name qual params body scope dV kV doc pm an cdv ct), osl⟩) (hcd : codeIn K cdv qual = true) (hroom : dp < recursionLimit)
    (hbind : BindsTo s (fnOf name qual params body scope dV kV doc pm an cdv ct) ⟨vals, []⟩ binds) (hloc : ∀ y ∈ binds, scope.names.lookup y.1 = some .local)
    (hco : scope.isCoroutine = false) (hgen : scope.isGenerator = false) (hks : scope.kind = .function) (hcell : ∀ x ∈ scope.names, x.2 ≠ .cell)
    (h : ∀ g L' h₁ tk, Kept s.heap g (tch.map (·.1)) → Fr g L' h₁ (fun y => binds.reverse.lookup y) → News g L' h₁ tch → Below (ktrTop dp un gd cn cs L a ccd cl outer) base (envX cn cs L a ccd cl :: outer) g → K.In g → Top p loose mean mg mb g →
      wpAny (model prog w) (ktrTop (dp + 1) (un + 3) gd qual scope L' f cdv [] (envX cn cs L a ccd cl :: outer)) (execs body (envOf qual scope L' f cdv))
        (fun fl s' => Q (match fl with | .ret v => v | _ => .none) s')
        (fun e s' => wpAny (model prog w) ((ktrTop dp un gd cn cs L a ccd cl outer).deeper (envOf qual scope L' f cdv)) (leaving (envOf qual scope L' f cdv) e) (fun _ s'' => E e s'') (fun e' s'' => E e' s'') s') { s with heap := h₁, toks := tk }) :
    wpAny (model prog w) (ktrTop dp un gd cn cs L a ccd cl outer) (call (.ref f) vals) Q E s := by
  refine wpAny_call ?_
  obtain ⟨FG, BG, st, _⟩ := groundX (env := envX cn cs L a ccd cl) (A := ktrTop dp un gd cn cs L a ccd cl outer) (R := fun _ _ => True) B F N rfl rfl hk
  refine codeAny_call_def (fd := fnOf name qual params body scope dV kV doc pm an cdv ct) (body := body) (binds := binds) hroom ((X.keeps F.keep) _ _ ho) rfl (T.nolimit.keeps F.keep) (codeRec_of (X.keeps F.keep) hcd) rfl hbind hcell hloc (fun h₁ hns hk₁ => ?_) hco hgen hks
  have st' : ∀ b o, h₀.get? b = some o → (hideAll s.heap (tch.map (·.1))).get? b = some o := st
  refine wpAny_mono (h (hideAll s.heap (tch.map (·.1))) s.heap.objs.size h₁ _ (fun b o e n => hideAll_get _ e n) ⟨hns, fun b o e => hk₁ b o (of_hideAll _ e), Nat.le_of_eq (hideAll_size _ _)⟩
    (fun q hq => ⟨hk₁ _ _ (N q hq).1, Nat.ne_of_lt (Heap.lt_size (N q hq).1), hideAll_none _ (List.mem_map_of_mem hq)⟩) BG (X.keeps st') (T.keeps st')) (fun fl s' x => x) fun _ _ x => x
end
variable {w : World} {p : Program} {loose : List Str} {mean : ExcName → Option Value} {mg mb : Str → Option Value} {dp un : Nat} {gd : Option (List Code)} {cn : Str} {cs : Scope} {a : Addr} {ccd : Value} {cl : List (Str × Addr)} {outer : List Env} {A₀ : Around} {base h₀ : Heap} {L : Addr} {m : Str → Option Value} {s : Shared} {Q E : Value → Shared → Prop}

theorem heappop_nil {l : Addr} {n : Nat} (C : Cx w p loose mean mg mb dp un cs outer A₀ base h₀ L m s.heap 6) (N : News h₀ L s.heap [(l, listOf ([] : List Value).toArray n)])
    (hE : ∀ e g h' tk', Kept s.heap g [l] → RaisedSN base g (envX cn cs L a ccd cl :: outer) e (.type "IndexError") [(l, listOf ([] : List Value).toArray n)] h' → g.UpToSlots h' → E (.ref e) { s with heap := h', toks := tk' }) :
    wpAny (model Challenge.rw_nb0005_01.row.prog w) (ktrTop dp un gd cn cs L a ccd cl outer) (call (.ref 28) [.ref l]) Q E s := by
  obtain ⟨B, F, X, T, hk, hdp, hun⟩ := C
  refine enterE (binds := [(Str.ofString "heap", .ref l)]) B F X N T hk (by k_dflt k_is) (by k_dflt k_is) (room0 hdp) (BindsTo.of_eq (by rfl)) (locs rfl) rfl rfl rfl (by decide) ?_
  clear N F B X T
  intro g L' h₁ tk hg F N B X T
  simp only [List.map_cons, List.map_nil] at hg
  (try dsimp only); (try k_fold)
  k_steps
  (rename Fr _ _ _ _ => eF); (rename News _ _ _ _ => eN)
  refine call_meets F.slot_list_pop ⟨_, eN.get (.head _), rfl⟩ F.entry_list_pop (F.args_list_pop_1 _) (AutoSeq1.list_pop_list_0 l _ n rfl) ⟨eN.get (.head _), rfl, fun h' tk' e hx => ?_⟩
  dsimp only
  refine leave_newS B hx eF eN (fun h2 R1 _ U => ?_)
  exact hE e g _ _ hg R1 U
end Mine
end
-- NbCaught
section
open PySem PySem.W PySem.Calls PyProof.Rows
namespace Mine
set_option maxRecDepth 100000
set_option maxHeartbeats 8000000
section
variable {prog : Program} {w : World} {dp un : Nat} {gd : Option (List Code)} {cn : Str} {cs : Scope} {a : Addr} {ccd : Value} {cl : List (Str × Addr)} {outer : List Env}
  {base G h : Heap} {L e : Addr} {m : Str → Option Value} {s' : Shared} {E : Value → Shared → Prop} {X T' : String} {t : Expr} {b₀ : Stmt} {suite : List Stmt} {pos : Pos} {rest : List ExceptHandler} {Q : Flow → Shared → Prop} {news : List (Addr × Obj)}
theorem caughtX (F : Fr base L h m) (hsm : h.UpToSlots s'.heap) (R : RaisedSN base G (envX cn cs L a ccd cl :: outer) e (.type X) news s'.heap)
    (hexc : isSubtype (.type T') (.type "BaseException") = pure true) (hnt : isSubtype (.type ((Manifest.find? T').elim "type" fun y => y.metatype)) (.type "tuple") = pure false) (hsub : isSubtype (.type X) (.type T') = pure true)
    (hev : ∀ (s₅ : Shared) (Q' : Value → Shared → Prop) (E' : Value → Shared → Prop), Fr base L s₅.heap m → Q' (.type T') s₅ → wpAny (model prog w) ((ktrTop dp un gd cn cs L a ccd cl outer).mark (some (.ref e))) (eval t (envX cn cs L a ccd cl)) Q' E' s₅)
    (k : ∀ h₆, Fr base L h₆ m → (∀ b o, G.get? b = some o → b ∉ (envX cn cs L a ccd cl :: outer).filterMap (·.frame) → h₆.get? b = some o) → (∀ q ∈ news, h₆.get? q.1 = some q.2) → s'.heap.UpToSlots h₆ →
      wpAny (model prog w) ((ktrTop dp un gd cn cs L a ccd cl outer).mark (some (.ref e))) (execs (b₀ :: suite) (envX cn cs L a ccd cl)) Q E { s' with heap := h₆ })
    (hE : PassesOwnAt (model prog w) ((ktrTop dp un gd cn cs L a ccd cl outer).mark (some (.ref e))) (ktrTop dp un gd cn cs L a ccd cl outer) (envX cn cs L a ccd cl) E) :
    wpAny (model prog w) (ktrTop dp un gd cn cs L a ccd cl outer) (noteFrame (.ref e) (envX cn cs L a ccd cl))
      (fun _ s₂ => wpAny (model prog w) (ktrTop dp un gd cn cs L a ccd cl outer) (setFlight (.ref e) none) (fun _ s₃ =>
        wpAny (model prog w) (ktrTop dp un gd cn cs L a ccd cl outer) (handleBy (.ref e) (envX cn cs L a ccd cl) (.ExceptHandler (some t) none (b₀ :: suite) pos :: rest)) Q E s₃) E s₂) E s' := by
  obtain ⟨B, a0, hB, hBG, hl, hfl⟩ := R
  refine wpAny_looks_onW (L := L) rfl rfl hfl fun h₄ hheld₄ hsm₄ => ?_
  refine wpAny_landsW hheld₄ fun h₅ hheld hsm₅' => ?_
  have hsm₅ := hsm₄.trans hsm₅'
  have hheld' := flyingW_base hB hheld
  have F₅ := F.of_stays hheld'.1 (hsm.trans hsm₅)
  obtain ⟨ob, hob, hobc⟩ := hheld'.there
  refine wpAny_handleBy_builtin (X := X) (T := T') (b := true) hexc hnt hsub (hev _ _ _ F₅ ⟨rfl, ⟨ob, hob, hobc⟩, ?_⟩)
  refine lands_againW hheld fun h₆ hfl₆ hsm₆ => ?_
  have F₆ := F.of_stays (flyingW_base hB hfl₆).1 ((hsm.trans hsm₅).trans hsm₆)
  exact wpAny_passesOwnAt hE (k h₆ F₆ (fun b o q n => hfl₆.1 b o (hBG b o q n)) (fun q hq => hfl₆.1 _ _ (hl q hq).1) (hsm₅.trans hsm₆))
end
end Mine
end
-- NbRu
section
open PySem PySem.W PySem.Calls PyProof.Rows
namespace Mine
theorem reset_NbRu : True := by
  w_top off
  trivial
set_option maxRecDepth 100000
set_option maxHeartbeats 8000000
noncomputable def GoOn : Prop := True
local macro_rules | `(tactic| walk_at "subscriptTail Name Name ref int") => `(tactic| refine item_at (RowsAt.list (RowsAt.fr (by assumption) (by assumption))) (by omega) (by omega) (by simpa using by assumption) ?_)
local macro_rules | `(tactic| walk_at $s:str) => if ["call builtin:sorted", "compareOp NotEq ref ref", "exec For Name Call cons nil", "exec For Name Name cons nil", "eval ListComp", "CompSrcT", "CompSrc", "pyIter ref"].contains s.getString then `(tactic| refine stop ?_) else Lean.Macro.throwUnsupported
local macro_rules | `(tactic| walk_at "call ref") => `(tactic| ((fail_if_success (rename GoOn => zz9)); refine stop ?_))
local macro_rules | `(tactic| walk_at "call builtin:len") => `(tactic| (refine len_ints (by assumption) (by assumption) (by omega) ?_; intro _ _; (try dsimp only)))
variable {w : World} {p : Program} {loose : List Str} {mean : ExcName → Option Value} {mg mb : Str → Option Value} {dp un : Nat} {gd : Option (List Code)} {cn : Str} {cs : Scope} {a : Addr} {ccd : Value} {cl : List (Str × Addr)} {outer : List Env} {A₀ : Around} {base h₀ : Heap} {L : Addr} {m : Str → Option Value} {s : Shared} {Q E : Value → Shared → Prop}

theorem args_sorted_k0 (a : Value) : argsOk "sorted" ⟨[a], []⟩ := by unfold argsOk; kernel_rfl
theorem args_sort_k0 (a : Value) : argsOk "list.sort" ⟨[a], []⟩ := by unfold argsOk; kernel_rfl
theorem sort_kwN (x : Addr) : Builtin.«list.sort» ⟨[.ref x], []⟩ = Builtin.«list.sort» ⟨[.ref x], [(Str.ofString "reverse", .bool false)]⟩ := by rfl
theorem negs_nodup {l : List Int} (h : l.Nodup) : (negs l).Nodup := by
  unfold negs
  unfold List.Nodup at h ⊢
  rw [List.pairwise_map]
  exact h.imp fun h => by omega
structure MS where
  (ovs hvs : List Value) (od hp : List Int) (on hn : Nat)
theorem getD_set {l : List Int} {i : Nat} {v d : Int} (h : i < l.length) : (l.set i v).getD i d = v := by
  rw [List.getD_eq_getElem?_getD, List.getElem?_set_self h]; rfl
structure RS where
  (ovs lvs hvs : List Value) (od lb hp : List Int) (on ln hn : Nat)
theorem ex_ru {G : Prop} {g h : Heap} {L a b c d e : Addr} {oa oc od oe : Obj} {v1 v2 v3 v4 v5 : Value} {t : Tok} (_ : News g L h [(a, oa), (b, listOf #[Value.int 0 t, v1, v2, v3, v4, v5] 0), (c, oc), (d, od), (e, oe)])
    (k : ∀ a' b' od' oe' t' h', a' = a → b' = b → od' = od → oe' = oe → t' = t → h' = h → G) : G := k a b od oe t h rfl rfl rfl rfl rfl rfl
structure HS where
  (vs : List Value) (ns : List Int) (n : Nat)
theorem take_six {i : Nat} (hi : i < 6) : ([0, 1, 2, 3, 4, 5] : List Int).take (i + 1) = ([0, 1, 2, 3, 4, 5] : List Int).take i ++ [(0 + (i : Int) * 1)] := by
  have : i = 0 ∨ i = 1 ∨ i = 2 ∨ i = 3 ∨ i = 4 ∨ i = 5 := by omega
  rcases this with rfl | rfl | rfl | rfl | rfl | rfl <;> rfl
theorem len_negs_filter {i : Nat} {f : Int → Bool} : (negs ((([0, 1, 2, 3, 4, 5] : List Int).take i).filter f)).length ≤ 6 := by
  unfold negs
  rw [List.length_map]
  refine Nat.le_trans (List.length_filter_le _ _) ?_
  rw [List.length_take]
  exact Nat.min_le_right _ _
theorem take_pos {i : Nat} {f : Int → Bool} (hi : i < 6) (hf : f (0 + (i : Int) * 1) = true) : ((-(0 + (i : Int) * 1)) :: negs ((([0, 1, 2, 3, 4, 5] : List Int).take i).filter f)).Perm (negs ((([0, 1, 2, 3, 4, 5] : List Int).take (i + 1)).filter f)) := by
  rw [take_six hi, List.filter_append, List.filter_cons_of_pos hf]
  unfold negs
  rw [List.map_append]
  exact (List.perm_append_singleton _ _).symm
theorem take_neg {i : Nat} {f : Int → Bool} (hi : i < 6) (hf : f (0 + (i : Int) * 1) = false) : negs ((([0, 1, 2, 3, 4, 5] : List Int).take i).filter f) = negs ((([0, 1, 2, 3, 4, 5] : List Int).take (i + 1)).filter f) := by
  rw [take_six hi, List.filter_append, List.filter_cons_of_neg (by rw [hf]; exact Bool.false_ne_true)]
  simp
theorem run_int {D : Addr} {items : List Value} {R : List (List Int)} {rk : Int → Int} (C : Cx w p loose mean mg mb dp un cs outer A₀ base h₀ L m s.heap 12) (XB : (hd.heap_39 w.params).In base) (TB : Top p loose mean mg mb base) (hbs : base.objs.size ≤ L) (hR : RowsAt s.heap D items R) (hRl : items.length = 6) (hR6 : R.length = 6) (hG : GoodRk rk R) (hL : ∀ i, i < 6 → (R.getD i []).length < 60)
    (ret : ∀ r vs' n' h' tk', IntsAre vs' ((tabF R 63).getD 63 []) → Kept s.heap h' ((envX cn cs L a ccd cl :: outer).filterMap (·.frame)) → s.heap.UpToSlots h' → s.heap.get? r = none → h'.get? r = some (listOf vs'.toArray n') → Q (.ref r) {s with heap := h', toks := tk'}) :
    wpAny (model Challenge.rw_nb0005_01.row.prog w) (ktrTop dp un gd cn cs L a ccd cl outer) (call (.ref 111) [.ref D]) Q E s := by
  obtain ⟨B, F, X, T, hk, hdp, hun⟩ := C
  refine enterC (binds := [(Str.ofString "behind", .ref D)]) (tch := []) B F X (fun _ h => nomatch h) T hk (by k_dflt k_is) (by k_dflt k_is) (room0 hdp) (BindsTo.of_eq (by rfl)) rfl (by decide +kernel) rfl rfl rfl ?_
  have hF0 := F.ns
  clear F B X T
  intro g L' h₁ tk cells hg F N Y B X T
  have hRg := hR.kept hg
  k_cells Y
  simp only [List.cons_append, List.nil_append] at N
  simp only [List.map_nil] at hg
  (try dsimp only); (try k_fold)
  k_steps
  refine Stop.go ?_
  (rename Fr _ _ _ _ => eF); (rename News _ _ _ _ => eN)
  k_dflt (refine LCg.ListComp_U (F₀ := eF) (by with_unfolding_all rfl) (by decide) (by rfl) (by decide) (by rfl) ?_)
  k_steps
  refine Stop.go ?_
  refine LCg.CompSrc.base (by rfl) eF eN hRg.list (by rw [List.size_toArray, sizeLine_eq]; omega) ?_
  intro g'
  refine map_all (R.map fun r => (r.length : Int)) (by rw [List.size_toArray, List.length_map]; omega) (.inl hRg.list) ?cT ?cF
  case cT =>
    clear eF eN
    intro i hi v hv
    refine hRg.rowE i (by rw [List.length_map] at hi; omega) fun ra rvs hra hrl hri => ?_
    have hlen60 := hL i (by rw [List.length_map] at hi; omega)
    obtain rfl : v = .ref ra := by
      have e : items[i]? = some v := by simpa using hv
      exact Option.some.inj (e.symm.trans hra)
    intro I oI C oC Dd ys m₂ h tk E' hC hx F8 N8 off ne
    have hrlh : h.IsList ra rvs.toArray := hrl.at fun o e => F8.keep _ o e
    have e : (R.map fun r => (r.length : Int))[i] = ((R.getD i []).length : Int) := by
      rw [List.length_map] at hi
      simp [hi]
    rw [e]
    dsimp only
    k_steps
    exact compSame_of F8 N8 fun _ h => h
  case cF =>
    clear eF eN
    intro ys hys Ow h8 tk8 F8 N8 off8
    simp only [LCg.Off1] at off8
    have hysS := Stop.go hys
    clear hys
    dsimp only
    k_steps
    refine Stop.go ?_
    (rename Fr _ _ _ _ => eF); (rename News _ _ _ _ => eN)
    refine For_invV g rfl rfl ?_ (by intro _; rfl) PassesOwn.never
    k_steps
    refine Stop.go ?_
    (rename IsRange _ _ _ _ _ _ _ _ => hRg1); (rename Fr _ _ _ _ => eF); (rename News _ _ _ _ => eN)
    refine ex_ru eN fun H Lb oL oO tkL hH hX1 hX2 hX3 hX4 hX5 hX6 => ?_
    subst hX1 hX2 hX3 hX4 hX5 hX6
    have hodl : (R.map fun r => (r.length : Int)).length = 6 := by rw [List.length_map]; exact hR6
    have hszs : ∀ q ∈ [H, Lb, Ow, L' + 1 + 1, L' + 1], @LT.lt Nat _ q hH.objs.size := List.forall_mem_cons.mpr ⟨ltN (Heap.lt_size (eN.get (by k_mem))), List.forall_mem_cons.mpr ⟨ltN (Heap.lt_size (eN.get (by k_mem))), List.forall_mem_cons.mpr ⟨ltN (Heap.lt_size (eN.get (by k_mem))), List.forall_mem_cons.mpr ⟨ltN (Heap.lt_size (eN.get (by k_mem))), List.forall_mem_cons.mpr ⟨ltN (Heap.lt_size (eN.get (by k_mem))), List.forall_mem_nil _⟩⟩⟩⟩⟩
    have hys := hysS.go'
    clear hysS
    generalize hod : (R.map fun r => (r.length : Int)) = od at hys hodl
    refine for_range (σ := HS) 6 rfl hRg1 (by decide) (by decide) (fun c => [(H, listOf c.vs.toArray c.n), (Lb, listOf #[Value.int 0 tkL, Value.int 0 (tkL + 1), Value.int 0 (tkL + 1 + 1), Value.int 0 (tkL + 1 + 1 + 1), Value.int 0 (tkL + 1 + 1 + 1 + 1), Value.int 0 (tkL + 1 + 1 + 1 + 1 + 1)] 0), (Ow, listOf ys.toArray ys.length), (L' + 1 + 1, oL), (L' + 1, oO)]) (fun c => []) []
      (fun i c => IntsAre c.vs c.ns ∧ HeapOk c.ns ∧ c.ns.Perm (negs ((([0, 1, 2, 3, 4, 5] : List Int).take i).filter fun x => od.getD x.toNat 0 == 0))) ⟨[], [], 0⟩ eF eN ?gI (fun _ h => nomatch h) ?gP ?gT ?gE
    case gP => exact ⟨.nil, fun i h1 h2 => absurd h2 (Nat.not_lt_zero _), List.Perm.refl _⟩
    case gI =>
      intro i c _ p hp
      exact Nat.ne_of_lt (hszs p.1 (mem_fst rfl hp))
    case gE =>
      clear eF eN
      rintro ⟨hvs, hns, hn⟩ u9 h9 tk9 hP F9 N9
      refine and3E hP fun hP1 hP2 hP3 => ?_
      clear hP
      dsimp only at hP1 hP2 hP3 F9 N9 ⊢
      subst hod
      have hrun := run_start hG hR6 hP2 hP3
      try k_fold
      k_steps
      refine Stop.go ?_
      (rename Fr _ _ _ _ => eF); (rename News _ _ _ _ => eN)
      refine For_invV g rfl rfl ?_ (by intro _; rfl) PassesOwn.never
      k_steps
      refine Stop.go ?_
      (rename IsRange _ _ _ _ _ _ _ _ => hRg2); (rename Fr _ _ _ _ => eF); (rename News _ _ _ _ => eN)
      have hszs2 : ∀ q ∈ [H, Lb, Ow, L' + 1 + 1, L' + 1], @LT.lt Nat _ q _ := List.forall_mem_cons.mpr ⟨ltN (Heap.lt_size (eN.get (by k_mem))), List.forall_mem_cons.mpr ⟨ltN (Heap.lt_size (eN.get (by k_mem))), List.forall_mem_cons.mpr ⟨ltN (Heap.lt_size (eN.get (by k_mem))), List.forall_mem_cons.mpr ⟨ltN (Heap.lt_size (eN.get (by k_mem))), List.forall_mem_cons.mpr ⟨ltN (Heap.lt_size (eN.get (by k_mem))), List.forall_mem_nil _⟩⟩⟩⟩⟩
      refine for_range (σ := RS) 6 rfl hRg2 (by decide) (by decide) (fun c => [(H, listOf c.hvs.toArray c.hn), (Lb, listOf c.lvs.toArray c.ln), (Ow, listOf c.ovs.toArray c.on), (L' + 1 + 1, oL), (L' + 1, oO)]) (fun c => []) [Str.ofString "free", Str.ofString "two", Str.ofString "top", Str.ofString "other"]
        (fun j c => IntsAre c.ovs c.od ∧ IntsAre c.lvs c.lb ∧ IntsAre c.hvs c.hp ∧ Run R j c.od c.lb c.hp) ⟨ys, [Value.int 0 tkL, Value.int 0 (tkL + 1), Value.int 0 (tkL + 1 + 1), Value.int 0 (tkL + 1 + 1 + 1), Value.int 0 (tkL + 1 + 1 + 1 + 1), Value.int 0 (tkL + 1 + 1 + 1 + 1 + 1)], hvs, R.map fun r => (r.length : Int), [0, 0, 0, 0, 0, 0], hns, ys.length, 0, hn⟩ eF eN ?hI (fun _ h => nomatch h) ?hP ?hT ?hE
      case hP => exact ⟨hys, .cons _ _ (.cons _ _ (.cons _ _ (.cons _ _ (.cons _ _ (.cons _ _ .nil))))), hP1, hrun⟩
      case hI =>
        intro i c _ p hp
        exact Nat.ne_of_lt (hszs2 p.1 (mem_fst rfl hp))
      case hE =>
        clear eF eN hszs hszs2 hRg1 hRg2 hys hP1 hP2 hP3
        rintro ⟨ovs, lvs, hvs, od, lb, hp, on, ln, hn⟩ u8 h8 tk8 hP F8 N8
        refine and4E hP fun iO iL iH hrun => ?_
        clear hP
        dsimp only at iO iL iH hrun F8 N8 ⊢
        obtain ⟨hnil, hlb⟩ := run_end hG hrun
        subst hnil
        obtain rfl : hvs = [] := List.length_eq_zero_iff.mp iH.length
        try k_fold
        k_steps
        refine wpAny_Try_except ?_
        (try dsimp only); (try k_fold)
        k_steps
        refine Stop.go ?_
        (rename Fr _ _ _ _ => eF); (rename News _ _ _ _ => eN)
        refine heappop_nil ⟨B, eF, X, T, rfl, room1 hdp (by decide), room3 hun (by decide)⟩ (News.one eN (by k_mem)) ?_
        intro e g2 h2 tk2 hK2 R2 U2
        have hHg : g.get? H = none := (eN _ (by k_mem : (H, _) ∈ _)).2.2
        have hHL : @Ne Nat H L' := (eN _ (by k_mem : (H, _) ∈ _)).2.1
        have hLg : L < g.objs.size := by
          obtain ⟨oL, es, ep, hq, _⟩ := hF0
          exact Heap.lt_size (hg L oL hq (by simp))
        have hLL : base.objs.size ≤ L' := Nat.le_trans hbs (Nat.le_trans (Nat.le_of_lt hLg) eF.above)
        have hHb : base.get? H = none := fresh_of_stays B.stays hHg
        have F2 := hK2.fr (⟨eF.ns, fun b o q => eF.keep b o (B.stays b o q), hLL⟩ : Fr base L' _ _) (by rw [List.mem_singleton]; exact fun q => hHL q.symm) (fun b hb => by rw [List.mem_singleton.mp hb]; exact hHb)
        refine caughtX (T' := "IndexError") F2 U2 R2 PySem.F.isExc_IndexError PySem.F.notTuple_IndexError (by rw [isSubtype_type]; kernel_rfl) ?hev ?hk PassesOwnAt.never
        case hev =>
          intro s5 Q5 E5 F5 q5
          exact nameX_B F5 XB (topRead_of TB) (by k_dflt k_is) PyProof.Rows.Boot.«IndexError» (by decide) q5
        case hk =>
          intro h6 F6 kG kN U6
          have hnH : ∀ p ∈ [(Lb, listOf lvs.toArray ln), (Ow, listOf ovs.toArray on), (L' + 1 + 1, oL), (L' + 1, oO)], p.1 ≠ H := by k_all
          have hfrs : ∀ p ∈ [(Lb, listOf lvs.toArray ln), (Ow, listOf ovs.toArray on), (L' + 1 + 1, oL), (L' + 1, oO)], h6.get? p.1 = some p.2 ∧ p.1 ≠ L' ∧ base.get? p.1 = none := by
            intro p hp
            have hpn := eN p (.tail _ hp)
            refine ⟨kG p.1 p.2 (hK2 p.1 p.2 hpn.1 ?_) ?_, hpn.2.1, fresh_of_stays B.stays hpn.2.2⟩
            · rw [List.mem_singleton]
              exact hnH p hp
            · intro hm
              rcases List.mem_cons.mp hm with q | q
              · exact hpn.2.1 q
              · obtain ⟨o, ho, _⟩ := (B.frames.mem q).2
                rw [hpn.2.2] at ho; cases ho
          have N6 : News base L' h6 [(Lb, listOf lvs.toArray ln), (Ow, listOf ovs.toArray on), (L' + 1 + 1, oL), (L' + 1, oO)] := hfrs
          have keepS : ∀ b o, s.heap.get? b = some o → g2.get? b = some o := fun b o q => hK2 b o (eF.keep b o (hg b o q (by simp))) (by
            rw [List.mem_singleton]; rintro rfl
            rw [hg _ o q (by simp)] at hHg; cases hHg)
          have hLg0 : g.get? L' = none := kts_self eF
          have hLb0 := (eN _ (.tail _ (.head _))).2.2
          clear eF F2
          dsimp only
          k_steps
          refine ret Lb lvs ln _ _ (hlb ▸ iL) (fun b o q nb => kG b o (keepS b o q) (fun hm => ?_)) ((Heap.UpToSlots.of_keeps keepS).trans (U2.trans U6)) (fresh_of0 hg hLb0) (hfrs _ (.head _)).1
          rcases List.mem_cons.mp hm with z | z
          · rw [z] at q
            rw [hg _ o q (by simp)] at hLg0; cases hLg0
          · exact nb z
      case hT =>
        rintro I j t ⟨ovs, lvs, hvs, od, lb, hp, on, ln, hn⟩ u8 h8 tk8 o8 hI8 hj8 hP F8 N8
        refine and4E hP fun iO iL iH hrun => ?_
        clear hP
        have hne : @Ne Nat I H ∧ @Ne Nat I Lb ∧ @Ne Nat I Ow ∧ @Ne Nat I (L' + 1 + 1) ∧ @Ne Nat I (L' + 1) := by
          rw [hI8]
          exact ⟨(Nat.ne_of_lt (hszs2 H (.head _))).symm, (Nat.ne_of_lt (hszs2 Lb (.tail _ (.head _)))).symm, (Nat.ne_of_lt (hszs2 Ow (.tail _ (.tail _ (.head _))))).symm, (Nat.ne_of_lt (hszs2 (L' + 1 + 1) (.tail _ (.tail _ (.tail _ (.head _)))))).symm, (Nat.ne_of_lt (hszs2 (L' + 1) (.tail _ (.tail _ (.tail _ (.tail _ (.head _))))))).symm⟩
        clear eF eN hI8 hszs hszs2 hRg1 hRg2 hys hP1 hP2 hP3
        dsimp only at iO iL iH hrun F8 N8 ⊢
        have lod := hrun.lod
        have llb : lb.length = 6 := by obtain ⟨_, h, _⟩ := hrun.lab; exact h.llb
        have jO := iO.length
        have jL := iL.length
        have jH := iH.length
        have hpl : hp.length ≤ 6 := by
          have := hrun.perm.length_eq
          unfold negs freeL at this
          rw [List.length_map] at this
          rw [this]
          exact List.length_filter_le _ _
        refine gen_post fun FP hFP => ?_
        try k_fold
        k_steps
        refine Stop.go ?_
        (rename IsRange _ _ _ _ _ _ _ _ => hRg3); (rename Fr _ _ _ _ => eF); (rename News _ _ _ _ => eN)
        refine LCt.CompSrcT.range (n := 6) (by rfl) eF eN hRg3 (by decide) (by decide) (by first | size_fits | exact Nat.le_of_ble_eq_true rfl) ?_
        intro g'
        refine filt_all [0, 1, 2, 3, 4, 5] (freeP od lb) (fun n => n) rfl trivial six_src ?dT ?dF
        case dT =>
          clear eF eN
          intro n hn
          have hn0 : 0 ≤ n ∧ n < 6 := six_mem hn
          intro t I oI C oC Dd ys m₂ h tk E' hC hx F8 N8 off ne
          dsimp only [freeP]
          k_steps
          all_goals first
            | exact compSame_of F8 N8 fun _ h => h
            | exact ((Bool.and_eq_true _ _).mpr ⟨beq_iff_eq.mpr (by assumption), beq_iff_eq.mpr (by assumption)⟩).symm
            | exact (Bool.and_eq_false_iff.mpr (Or.inr (beq_eq_false_iff_ne.mpr (by assumption)))).symm
            | exact (Bool.and_eq_false_iff.mpr (Or.inl (beq_eq_false_iff_ne.mpr (by assumption)))).symm
        case dF =>
          clear eF eN hRg3
          intro ys hys Fr0 h7 tk7 F7 N7 off7
          rw [List.map_id'] at hys
          replace hys : IntsAre ys (freeL od lb) := hys
          simp only [LCg.Off1] at off7
          dsimp only
          k_steps
          refine Stop.go ?_
          (rename Fr _ _ _ _ => eF); (rename News _ _ _ _ => eN)
          k_dflt (refine LCg.ListComp_U (F₀ := eF) (by with_unfolding_all rfl) (by decide) (by rfl) (by decide) (by rfl) ?_)
          k_steps
          refine Stop.go ?_
          have hmH : (H, listOf hvs.toArray hn) ∈ [(Fr0, LCg.lst ys), (I, o8), (H, listOf hvs.toArray hn), (Lb, listOf lvs.toArray ln), (Ow, listOf ovs.toArray on), (L' + 1 + 1, oL), (L' + 1, oO)] := by k_mem
          refine LCg.CompSrc.ledger (by rfl) eF eN hmH (by rw [List.size_toArray, sizeLine_eq]; omega) ?_
          intro g'
          refine map_all (negs hp) (by unfold negs; rw [List.size_toArray, List.length_map]; exact jH) (.inr ⟨_, hmH, rfl, _, rfl⟩) ?eT ?eF
          case eT =>
            clear eF eN
            intro i hi v hv
            obtain ⟨tv, rfl⟩ := ints_src iH i (by unfold negs at hi; rw [List.length_map] at hi; exact hi) v hv
            rw [show (negs hp)[i] = -(hp[i]'(by unfold negs at hi; rw [List.length_map] at hi; exact hi)) by simp [negs]]
            intro I oI C oC Dd ys m₂ h tk E' hC hx F8 N8 off ne
            dsimp only
            k_steps
            exact compSame_of F8 N8 fun _ h => h
          case eF =>
            clear eF eN
            intro ys2 hys2 N0 h6 tk6 F6 N6 off6
            simp only [LCg.Off1] at off6
            dsimp only
            have hpn : (negs hp).length = hp.length := by unfold negs; rw [List.length_map]
            have hy2 := hys2.length
            have hfr6 : (freeL od lb).length ≤ 6 := List.length_filter_le _ _
            have hy1 := hys.length
            k_steps
            refine Stop.go ?_
            (rename Fr _ _ _ _ => eF); (rename News _ _ _ _ => eN)
            refine sorted_kw (b := false) (args_sorted_k0 _) (fun _ => args_sort_k0 _) (fun x => sort_kwN x) eF eN (isList_at (eN.get (by k_mem))) hys2 (by omega) ?_
            intro D9 h9 vs9 ns9 e9 F9 N9 hlt9 hI9 hp9 ho9
            have hns9 : ns9 = freeL od lb := sorted_free (freeL_asc od lb) hp9 ho9 hrun.perm
            have hlt9 := allLt_of hlt9
            simp only [AllLt] at hlt9
            clear eF eN
            dsimp only
            k_steps
            refine Stop.go ?_
            (rename Fr _ _ _ _ => eF); (rename News _ _ _ _ => eN)
            refine ke_ne_ints (isList_at (eN.get (by k_mem))) (isList_at (eN.get (by k_mem))) hI9 hys (by dsimp only [ktrTop]; first | exact room64 hun (by decide) | omega) ?_
            rw [show (!decide (ns9 = freeL od lb)) = false by simp [hns9]]
            k_steps
            refine Stop.go ?_
            (rename Fr _ _ _ _ => eF); (rename News _ _ _ _ => eN)
            have hnd : (freeL od lb).Nodup := (freeL_asc od lb).imp fun h => Int.ne_of_lt h
            refine nlargest_int ⟨B, eF, X, T, rfl, room1 hdp (by decide), room3 hun (by decide)⟩ (eN.get (by k_mem)) hys (by omega) hnd ?_
            intro r3 vs3 out3 n3 h3 tk3 hI3 hT3 hK3 hr3 hg3
            have e3 := top2_is (freeL_asc od lb) hT3
            have eF3 := kept_fr hK3 eF
            have eN3 := kept_news hK3 eF eN hr3 hg3
            have off3 := fresh_ne eN hr3
            simp only [List.forall_mem_cons, List.not_mem_nil, false_implies, implies_true, and_true] at off3
            clear eF eN
            dsimp only
            k_steps
            refine Stop.go ?_
            (rename Fr _ _ _ _ => eF); (rename News _ _ _ _ => eN); (rename (IntsAre _ (List.take 2 _)) => hI2)
            refine ke_ne_ints (isList_at (eN.get (by k_mem))) (isList_at (eN.get (by k_mem))) hI3 hI2 (by dsimp only [ktrTop]; first | exact room64 hun (by decide) | omega) ?_
            rw [show (!decide (out3 = List.take 2 (freeL od lb).reverse)) = false by simp [← e3]]
            have eN4 : News g L' _ [(r3, listOf vs3.toArray n3), (I, o8), (H, listOf hvs.toArray hn), (Lb, listOf lvs.toArray ln), (Ow, listOf ovs.toArray on), (L' + 1 + 1, oL), (L' + 1, oO)] := News.less eN (by lcg_sub)
            clear eN
            k_steps
            refine Stop.go ?_
            (rename Fr _ _ _ _ => eF); (rename News _ _ _ _ => eN)
            k_dflt (refine LCg.ListComp_U (F₀ := eF) (by with_unfolding_all rfl) (by decide) (by rfl) (by decide) (by rfl) ?_)
            k_steps
            refine Stop.go ?_
            have hpnd : hp.Nodup := (hrun.perm.nodup_iff).mpr (negs_nodup hnd)
            refine nsmallest_int ⟨B, eF, X, T, rfl, room1 hdp (by decide), room3 hun (by decide)⟩ (eN.get (by k_mem)) iH (by omega) hpnd ?_
            intro r4 vs4 out4 n4 h4 tk4 hI4 hT4 hK4 hr4 hg4
            have e4 : negs out4 = out3 := (top2_is (freeL_asc od lb) (top2_negs hrun.perm hT4)).trans e3.symm
            have eF4 := kept_fr hK4 eF
            have eN4 := kept_news hK4 eF eN hr4 hg4
            have off4 := fresh_ne eN hr4
            simp only [List.forall_mem_cons, List.not_mem_nil, false_implies, implies_true, and_true] at off4
            clear eF eN
            dsimp only
            k_steps
            refine Stop.go ?_
            (rename Fr _ _ _ _ => eF); (rename News _ _ _ _ => eN)
            have jv4 := hI4.length
            have jo4 := hT4.1
            refine LCg.CompSrc.ledger (by rfl) eF eN (List.Mem.head _ : (r4, listOf vs4.toArray n4) ∈ _) (by rw [List.size_toArray, sizeLine_eq]; omega) ?_
            intro g'
            refine map_all (negs out4) (by unfold negs; rw [List.size_toArray, List.length_map]; exact jv4) (.inr ⟨_, List.Mem.head _, rfl, _, rfl⟩) ?fT ?fF
            case fT =>
              clear eF eN
              intro i hi v hv
              obtain ⟨tv, rfl⟩ := ints_src hI4 i (by unfold negs at hi; rw [List.length_map] at hi; exact hi) v hv
              rw [show (negs out4)[i] = -(out4[i]'(by unfold negs at hi; rw [List.length_map] at hi; exact hi)) by simp [negs]]
              intro I oI C oC Dd ys m₂ h tk E' hC hx F8 N8 off ne
              dsimp only
              k_steps
              exact compSame_of F8 N8 fun _ h => h
            case fF =>
              clear eF eN
              intro ys5 hys5 N5 h5 tk5 F5 N5' off5
              simp only [LCg.Off1] at off5
              dsimp only
              k_steps
              refine Stop.go ?_
              (rename Fr _ _ _ _ => eF); (rename News _ _ _ _ => eN)
              refine ke_ne_ints (isList_at (eN.get (by k_mem))) (isList_at (eN.get (by k_mem))) hys5 hI3 (by dsimp only [ktrTop]; first | exact room64 hun (by decide) | omega) ?_
              rw [show (!decide (negs out4 = out3)) = false by simp [e4]]
              obtain ⟨top, htl, hth, ht2, htm, htp⟩ := top_is (freeL_asc od lb) (run_free hG hrun hj8) hrun.heap hrun.perm
              have ht6 : 0 ≤ top ∧ top < 6 := six_mem (List.mem_filter.mp htm).1
              rw [← e3] at ht2 htp
              have hpp : 0 < hp.length := by
                have := hrun.perm.length_eq
                unfold negs at this
                rw [List.length_map] at this
                have := List.length_pos_of_mem htm
                omega
              have jv3 := hI3.length
              have jo3 := hT3.1
              have eN6 : News g L' _ [(r3, listOf vs3.toArray n3), (I, o8), (H, listOf hvs.toArray hn), (Lb, listOf lvs.toArray ln), (Ow, listOf ovs.toArray on), (L' + 1 + 1, oL), (L' + 1, oO)] := News.less eN (by lcg_sub)
              clear eN
              k_steps
              · exfalso
                rename (-hp.getD _ _ ≠ _) => hbad
                rw [show Int.toNat 0 = 0 from rfl, hth, ht2] at hbad
                exact hbad (Int.neg_neg top)
              · refine Stop.go ?_
                (rename Fr _ _ _ _ => eF); (rename News _ _ _ _ => eN)
                have hth' : -hp.getD (Int.toNat 0) 0 = top := by rw [show Int.toNat 0 = 0 from rfl, hth]; exact Int.neg_neg top
                rw [hth'] at eF
                have eN7 : News g L' _ [(I, o8), (H, listOf hvs.toArray hn), (Lb, listOf lvs.toArray ln), (Ow, listOf ovs.toArray on), (L' + 1 + 1, oL), (L' + 1, oO)] := fun p hp => eN p (.tail _ hp)
                clear eN
                have eN := eN7
                clear eN7 off3 off4 off5 off6 off7 hlt9
                refine heappop_int ⟨B, eF, X, T, rfl, room1 hdp (by decide), room3 hun (by decide)⟩ (News.one eN (by k_mem)) iH hpp (by omega) ?_
                intro vs2 n2 h2 tk2 t2 hI2 hK2 hG2
                replace hI2 : IntsAre vs2 (popF hp) := hI2
                have hpop := pop_ok hrun.heap hpp
                have eF2 := hK2.frOf eF eN (by k_mem : (H, _) ∈ _)
                have eN2 := hK2.upd eN (o' := listOf vs2.toArray n2) (by k_upd) hG2
                clear eF eN
                rw [hth]
                dsimp only
                k_steps
                · exfalso
                  rename (-top ≠ -top) => hbad
                  exact hbad rfl
                · refine Stop.go ?_
                  (rename Fr _ _ _ _ => eF); (rename News _ _ _ _ => eN); (rename (IntsAre (List.set _ _ _) _) => iL2)
                  have hmid : Mid R j lb top 0 od (popF hp) := run_mid hG hrun hj8 htl hpop.1 (hth ▸ hpop.2)
                  refine For_invV g rfl rfl ?_ (by intro _; rfl) PassesOwn.never
                  k_steps
                  refine Stop.go ?_
                  (rename IsRange _ _ _ _ _ _ _ _ => hRg4); (rename Fr _ _ _ _ => eF); (rename News _ _ _ _ => eN)
                  have hszs3 : ∀ q ∈ [I, H, Lb, Ow, L' + 1 + 1, L' + 1], @LT.lt Nat _ q _ := List.forall_mem_cons.mpr ⟨ltN (Heap.lt_size (eN.get (by k_mem))), List.forall_mem_cons.mpr ⟨ltN (Heap.lt_size (eN.get (by k_mem))), List.forall_mem_cons.mpr ⟨ltN (Heap.lt_size (eN.get (by k_mem))), List.forall_mem_cons.mpr ⟨ltN (Heap.lt_size (eN.get (by k_mem))), List.forall_mem_cons.mpr ⟨ltN (Heap.lt_size (eN.get (by k_mem))), List.forall_mem_cons.mpr ⟨ltN (Heap.lt_size (eN.get (by k_mem))), List.forall_mem_nil _⟩⟩⟩⟩⟩⟩
                  generalize hlv : List.set lvs _ _ = lvs2 at eN iL2
                  refine for_range (σ := MS) 6 rfl hRg4 (by decide) (by decide) (fun c => [(I, o8), (H, listOf c.hvs.toArray c.hn), (Lb, listOf lvs2.toArray ln), (Ow, listOf c.ovs.toArray c.on), (L' + 1 + 1, oL), (L' + 1, oO)]) (fun c => []) []
                    (fun i c => IntsAre c.ovs c.od ∧ IntsAre c.hvs c.hp ∧ Mid R j lb top i c.od c.hp ∧ c.hp.length ≤ 6 + i) ⟨ovs, vs2, od, popF hp, on, n2⟩ eF eN ?iI (fun _ h => nomatch h) ?iP ?iT ?iE
                  case iP => exact ⟨iO, hI2, hmid, by have := hpop.2.length_eq; rw [List.length_cons] at this; dsimp only; omega⟩
                  case iI =>
                    intro i c _ p hp
                    exact Nat.ne_of_lt (hszs3 p.1 (mem_fst rfl hp))
                  case iE =>
                    clear eF eN hszs3 hRg4
                    rintro ⟨ovs, hvs, od, hp, on, hn⟩ u6 h6 tk6 hP F6 N6
                    refine and4E hP fun iO iH hmid hpl => ?_
                    clear hP
                    dsimp only at iO iH hmid hpl F6 N6 ⊢
                    have e6 : (6 + (j : Int) * -1) = 6 - (j : Int) := by omega
                    rw [e6] at iL2
                    have hrun2 := mid_end hG hmid hj8
                    try k_fold
                    k_steps
                    (rename Fr _ _ _ _ => eF); (rename News _ _ _ _ => eN)
                    refine hFP _ _ ?_
                    dsimp only [ForPost]
                    exact for_end ⟨ovs, lvs2, hvs, od, _, hp, on, ln, hn⟩ eF eN (List.forall_mem_cons.mpr ⟨by k_mem, List.forall_mem_cons.mpr ⟨by k_mem, List.forall_mem_cons.mpr ⟨by k_mem, List.forall_mem_cons.mpr ⟨by k_mem, List.forall_mem_cons.mpr ⟨by k_mem, List.forall_mem_cons.mpr ⟨by k_mem, List.forall_mem_nil _⟩⟩⟩⟩⟩⟩) (fun _ h => nomatch h) (by intro z h1 h2 h3; (simp only [List.contains_cons, List.contains_nil, Bool.or_false, Bool.or_eq_false_iff, beq_eq_false_iff_ne, ne_eq] at h3); simp [kstB, h1, h3]) ⟨iO, iL2, iH, hrun2⟩
                  case iT =>
                    rintro I3 i t ⟨ovs, hvs, od, hp, on, hn⟩ u6 h6 tk6 o6 hI6 hi6 hP F6 N6
                    refine and4E hP fun iO iH hmid hpl => ?_
                    clear hP
                    have hne3 : @Ne Nat I3 H ∧ @Ne Nat I3 Ow := by
                      rw [hI6]
                      exact ⟨(Nat.ne_of_lt (hszs3 H (.tail _ (.head _)))).symm, (Nat.ne_of_lt (hszs3 Ow (.tail _ (.tail _ (.tail _ (.head _)))))).symm⟩
                    clear eF eN hI6 hszs3 hRg4
                    dsimp only at iO iH hmid hpl F6 N6 ⊢
                    have lod := hmid.lod
                    have jO := iO.length
                    have jH := iH.length
                    refine hRg.rowE i hi6 fun ra rvs hra hrl hri => ?_
                    have hRi60 := hL i hi6
                    refine gen_post fun FP hFP => ?_
                    try k_fold
                    k_steps
                    · refine Stop.go ?_
                      (rename Fr _ _ _ _ => eF); (rename News _ _ _ _ => eN); (rename (IntsAre (List.set ovs _ _) _) => iO2); (rename (List.getD _ _ _ = 0) => hz)
                      have ei : (0 + (i : Int) * 1).toNat = i := turn1 i
                      have e0 : (0 + (i : Int) * 1) = i := turn0 i
                      rw [ei] at eN iO2 hz
                      rw [getD_set (by omega)] at hz
                      refine heappush_int ⟨B, eF, X, T, rfl, room1 hdp (by decide), room3 hun (by decide)⟩ (News.one eN (by k_mem)) iH (by omega) ?_
                      intro vs2 n2 h2 tk2 hI2 hK2 hG2
                      have hpsh := push_ok (-(0 + (i : Int) * 1)) hmid.heap
                      have hmid2 := mid_push hG hmid hi6 (by assumption) hz hpsh.1 (by rw [e0] at hpsh ⊢; exact hpsh.2)
                      have hl2 := hpsh.2.length_eq
                      rw [List.length_cons] at hl2
                      have eF2 := hK2.frOf eF eN (by k_mem : (H, _) ∈ _)
                      have eN2 := hK2.upd eN (o' := listOf vs2.toArray n2) (by k_upd) hG2
                      clear eF eN
                      dsimp only
                      k_steps
                      (rename Fr _ _ _ _ => eF); (rename News _ _ _ _ => eN)
                      refine hFP _ _ ?_
                      dsimp only [ForPost]
                      exact for_end ⟨_, vs2, _, _, _, n2⟩ eF eN (List.forall_mem_cons.mpr ⟨by k_mem, List.forall_mem_cons.mpr ⟨by k_mem, List.forall_mem_cons.mpr ⟨by k_mem, List.forall_mem_cons.mpr ⟨by k_mem, List.forall_mem_cons.mpr ⟨by k_mem, List.forall_mem_cons.mpr ⟨by k_mem, List.forall_mem_cons.mpr ⟨by k_mem, List.forall_mem_nil _⟩⟩⟩⟩⟩⟩⟩) (fun _ h => nomatch h) (by intro z h1 h2 h3; simp [kstB, h1]) ⟨iO2, hI2, hmid2, (by dsimp only; omega)⟩
                    · (rename Fr _ _ _ _ => eF); (rename News _ _ _ _ => eN); (rename (IntsAre (List.set ovs _ _) _) => iO2); (rename (List.getD _ _ _ ≠ 0) => hz)
                      have ei : (0 + (i : Int) * 1).toNat = i := turn1 i
                      rw [ei] at eN iO2 hz
                      rw [getD_set (by omega)] at hz
                      refine hFP _ _ ?_
                      dsimp only [ForPost]
                      exact for_end ⟨_, hvs, _, hp, _, hn⟩ eF eN (List.forall_mem_cons.mpr ⟨by k_mem, List.forall_mem_cons.mpr ⟨by k_mem, List.forall_mem_cons.mpr ⟨by k_mem, List.forall_mem_cons.mpr ⟨by k_mem, List.forall_mem_cons.mpr ⟨by k_mem, List.forall_mem_cons.mpr ⟨by k_mem, List.forall_mem_cons.mpr ⟨by k_mem, List.forall_mem_nil _⟩⟩⟩⟩⟩⟩⟩) (fun _ h => nomatch h) (by intro z h1 h2 h3; simp [kstB, h1]) ⟨iO2, iH, mid_dec hG hmid hi6 (by assumption) hz, (by dsimp only; omega)⟩
                    · (rename Fr _ _ _ _ => eF); (rename News _ _ _ _ => eN)
                      refine hFP _ _ ?_
                      dsimp only [ForPost]
                      exact for_end ⟨ovs, hvs, od, hp, on, hn⟩ eF eN (List.forall_mem_cons.mpr ⟨by k_mem, List.forall_mem_cons.mpr ⟨by k_mem, List.forall_mem_cons.mpr ⟨by k_mem, List.forall_mem_cons.mpr ⟨by k_mem, List.forall_mem_cons.mpr ⟨by k_mem, List.forall_mem_cons.mpr ⟨by k_mem, List.forall_mem_cons.mpr ⟨by k_mem, List.forall_mem_nil _⟩⟩⟩⟩⟩⟩⟩) (fun _ h => nomatch h) (by intro z h1 h2 h3; simp [kstB, h1]) ⟨iO, iH, mid_skip hG hmid hi6 (by assumption), (by dsimp only; omega)⟩
    case gT =>
      rintro I i t ⟨hvs, hns, hn⟩ u9 h9 tk9 o9 hI9 hi9 hP F9 N9
      refine and3E hP fun hP1 hP2 hP3 => ?_
      clear hP
      have hne : @Ne Nat I H ∧ @Ne Nat I Lb ∧ @Ne Nat I Ow ∧ @Ne Nat I (L' + 1 + 1) ∧ @Ne Nat I (L' + 1) := by
        rw [hI9]
        exact ⟨(Nat.ne_of_lt (hszs H (.head _))).symm, (Nat.ne_of_lt (hszs Lb (.tail _ (.head _)))).symm, (Nat.ne_of_lt (hszs Ow (.tail _ (.tail _ (.head _))))).symm, (Nat.ne_of_lt (hszs (L' + 1 + 1) (.tail _ (.tail _ (.tail _ (.head _)))))).symm, (Nat.ne_of_lt (hszs (L' + 1) (.tail _ (.tail _ (.tail _ (.tail _ (.head _))))))).symm⟩
      clear eF eN hI9 hszs
      dsimp only at hP1 hP2 hP3 F9 N9 ⊢
      have hlen := hP3.length_eq
      have hlen6 := @len_negs_filter i (fun x => od.getD x.toNat 0 == 0)
      have hyl := hys.length
      refine gen_post fun FP hFP => ?_
      try k_fold
      k_steps
      · refine Stop.go ?_
        (rename Fr _ _ _ _ => eF); (rename News _ _ _ _ => eN)
        refine heappush_int ⟨B, eF, X, T, rfl, room1 hdp (by decide), room3 hun (by decide)⟩ (News.one eN (by k_mem)) hP1 (by omega) ?_
        intro vs2 n2 h2 tk2 hI2 hK2 hG2
        have eF2 := hK2.frOf eF eN (by k_mem : (H, _) ∈ _)
        have eN2 := hK2.upd eN (o' := listOf vs2.toArray n2) (by k_upd) hG2
        clear eF eN
        dsimp only
        k_steps
        (rename Fr _ _ _ _ => eF); (rename News _ _ _ _ => eN)
        refine hFP _ _ ?_
        dsimp only [ForPost]
        refine for_end ⟨vs2, _, n2⟩ eF eN (List.forall_mem_cons.mpr ⟨by k_mem, List.forall_mem_cons.mpr ⟨by k_mem, List.forall_mem_cons.mpr ⟨by k_mem, List.forall_mem_cons.mpr ⟨by k_mem, List.forall_mem_cons.mpr ⟨by k_mem, List.forall_mem_cons.mpr ⟨by k_mem, List.forall_mem_nil _⟩⟩⟩⟩⟩⟩) (fun _ h => nomatch h) (by intro z h1 h2 h3; simp [kstB, h1]) ⟨hI2, (push_ok _ hP2).1, ?_⟩
        exact (push_ok _ hP2).2.trans ((List.Perm.cons _ hP3).trans (take_pos hi9 (beq_iff_eq.mpr (by assumption))))
      · (rename Fr _ _ _ _ => eF); (rename News _ _ _ _ => eN)
        refine hFP _ _ ?_
        dsimp only [ForPost]
        refine for_end ⟨hvs, hns, hn⟩ eF eN (List.forall_mem_cons.mpr ⟨by k_mem, List.forall_mem_cons.mpr ⟨by k_mem, List.forall_mem_cons.mpr ⟨by k_mem, List.forall_mem_cons.mpr ⟨by k_mem, List.forall_mem_cons.mpr ⟨by k_mem, List.forall_mem_cons.mpr ⟨by k_mem, List.forall_mem_nil _⟩⟩⟩⟩⟩⟩) (fun _ h => nomatch h) (by intro z h1 h2 h3; simp [kstB, h1]) ⟨hP1, hP2, ?_⟩
        dsimp only
        rw [← take_neg (f := fun x => od.getD x.toNat 0 == 0) hi9 (beq_eq_false_iff_ne.mpr (by assumption))]
        exact hP3
end Mine
end
-- NbLaw
section
open PySem PySem.W PySem.Calls PyProof.Rows
namespace Mine
theorem reset_NbLaw : True := by
  w_top off
  trivial
set_option maxRecDepth 100000
set_option maxHeartbeats 8000000
local macro_rules | `(tactic| walk_at $s:str) => if ["call ref", "compareOp Eq ref ref"].contains s.getString then `(tactic| refine stop ?_) else Lean.Macro.throwUnsupported

theorem news_fresh {g h h' : Heap} {L : Addr} {m : Str → Option Value} {news : List (Addr × Obj)} (F : Fr g L h m) (e : ∀ q ∈ news, h'.get? q.1 = some q.2 ∧ h.get? q.1 = none) : News g L h' news := by
  intro p hp
  obtain ⟨e1, e2⟩ := e p hp
  refine ⟨e1, fun q => ?_, ?_⟩
  · obtain ⟨oL, _, _, hg, _⟩ := F.ns
    rw [q, hg] at e2; cases e2
  · cases q : g.get? p.1 with
    | none => rfl
    | some o' => rw [F.keep p.1 o' q] at e2; cases e2
theorem fr_slots {g h h' : Heap} {L : Addr} {m : Str → Option Value} {fs : List Addr} (F : Fr g L h m) (k : Kept h h' fs) (u : h.UpToSlots h') (hf : ∀ b ∈ fs, b = L) : Fr g L h' m :=
  ⟨u.ns F.ns, fun b o e => k b o (F.keep b o e) (fun hm => by
    have := Heap.lt_size e
    rw [hf b hm] at this
    exact Nat.lt_irrefl _ (Nat.lt_of_lt_of_le this F.above)), F.above⟩
theorem news_slots {g h h' : Heap} {L r : Addr} {o : Obj} {m : Str → Option Value} {fs : List Addr} {news : List (Addr × Obj)} (F : Fr g L h m) (N : News g L h news) (k : Kept h h' fs) (hf : ∀ b ∈ fs, b = L) (hr : h.get? r = none) (e : h'.get? r = some o) : News g L h' ((r, o) :: news) := by
  intro p hp
  rcases List.mem_cons.mp hp with rfl | hp
  · refine ⟨e, fun q => ?_, ?_⟩
    · obtain ⟨oL, _, _, hg, _⟩ := F.ns
      dsimp only at q
      rw [q, hg] at hr; cases hr
    · cases q : g.get? r with
      | none => rfl
      | some o' => rw [F.keep r o' q] at hr; cases hr
  · exact ⟨k p.1 p.2 (N p hp).1 (fun hm => (N p hp).2.1 (hf _ hm)), (N p hp).2⟩
theorem law_holds : PySem.Challenge.rw_nb0005_01.Holds := hd (by
  k_go0
  (all_goals try k_fold)
  k_steps
  refine Stop.go ?_
  (rename Fr _ _ _ _ => eF); (rename News _ _ _ _ => eN); (rename (IntsAre _ ([5, 10, 20] ++ _)) => hI)
  refine behind_int (dp := 1 + claimMargin + 1) (un := 7) (gd := some []) (cl := []) (outer := []) ⟨by assumption, eF, by assumption, by assumption, rfl, by decide, by decide⟩ (eN.get (.head _)) hI (by rw [List.length_append, List.length_take]; simp only [List.length_cons, List.length_nil]; omega) ?_
  intro D as c k rk h' tk' h6 hOk hk60 hK hfr hD hrows
  have eF2 := kept_fr hK eF
  have eN2 : News _ _ h' ((D, LCg.lst (as.map Value.ref)) :: c.map Row.pr) := news_fresh eF (List.forall_mem_cons.mpr ⟨⟨hD, hfr⟩, hrows⟩)
  clear eF eN
  dsimp only
  k_steps
  refine Stop.go ?_
  (rename Fr _ _ _ _ => eF); (rename News _ _ _ _ => eN)
  have hRows := rows_of hOk h6 (eN.get (.head _)) (fun q hq => eN.get (.tail _ hq))
  have hL60 := rows_len hOk hk60
  have hGood := hOk.2.2
  refine run_int (dp := 1 + claimMargin + 1) (un := 7) (gd := some []) (cl := []) (outer := []) ⟨by assumption, eF, by assumption, by assumption, rfl, by decide, by decide⟩ (by assumption) (by assumption) eF.above hRows (by rw [List.length_map]; exact h6) (by rw [List.length_map, ← h6, ← hOk.1, List.length_map]) hGood hL60 ?_
  intro r vs n h4 tk4 hI4 hK4 hU4 hr4 hg4
  have eF4 := fr_slots eF hK4 hU4 (fun b hb => List.mem_singleton.mp hb)
  have eN4 := news_slots eF eN hK4 (fun b hb => List.mem_singleton.mp hb) hr4 hg4
  clear eF eN
  dsimp only
  k_steps
  refine Stop.go ?_
  (rename Fr _ _ _ _ => eF); (rename News _ _ _ _ => eN)
  have hRows2 := rows_of hOk h6 (eN.get (.tail _ (.head _))) (fun q hq => eN.get (.tail _ (.tail _ hq)))
  refine least_int (dp := 1 + claimMargin + 1) (un := 7) (gd := some []) (cl := []) (outer := []) ⟨by assumption, eF, by assumption, by assumption, rfl, by decide, by decide⟩ hRows2 hGood hL60 ?_
  intro r5' vs5 n5 h5 tk5 hI5 hK5 hr5 hg5
  have eF5 := kept_fr hK5 eF
  have eN5 := kept_news hK5 eF eN hr5 hg5
  clear eF eN
  dsimp only
  k_steps
  refine Stop.go ?_
  (rename Fr _ _ _ _ => eF); (rename News _ _ _ _ => eN)
  refine ke_eq_ints (isList_at (eN.get (.tail _ (.head _)))) (isList_at (eN.get (.head _))) hI4 hI5 (show 7 + 64 < cLine by decide) ?_
  rw [decide_eq_true rfl]
  k_steps)
end Mine
end
set_option maxRecDepth 100000 in
set_option maxHeartbeats 8000000 in
theorem PySem.Challenge.cw_nb0005_01_holds : PySem.Challenge.rw_nb0005_01.Holds := by
  exact Mine.law_holds
