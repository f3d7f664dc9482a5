import PyProof.Rows.All
import Wide.All
import OpenK.AllK
import Wide.FinOn
import PySem.Challenge.RW_pg0121_01
set_option Elab.async false
set_option compiler.extract_closed false
namespace Mine
/-- a part of a conjunction -/
inductive In (p : Prop) : Prop → Prop
  | here {q : Prop} : In p (p ∧ q)
  | there {q r : Prop} : In p q → In p (r ∧ q)
  | last : In p p
theorem In.get {p c : Prop} (d : In p c) : c → p := by
  induction d with
  | here => exact And.left
  | there _ ih => exact fun h => ih h.2
  | last => exact id
theorem zdig {x D y : Nat} {r : Prop} (hc : @LT.lt Nat _ y D ∧ r) (d : In (@LT.lt Nat _ x D) (@LT.lt Nat _ y D ∧ r)) : @LT.lt Nat _ x D := d.get hc
theorem zoff1 (L : Nat) : L < L+1 := Nat.le_add_right (L + 1) 0
theorem zoff2 (L : Nat) : L < L+1+1 := Nat.le_add_right (L + 1) 1
theorem zoff3 (L : Nat) : L < L+1+1+1 := Nat.le_add_right (L + 1) 2
theorem zoff4 (L : Nat) : L < L+1+1+1+1 := Nat.le_add_right (L + 1) 3
theorem zoff5 (L : Nat) : L < L+1+1+1+1+1 := Nat.le_add_right (L + 1) 4
theorem zup1 {x L : Nat} (h : x < L) : x < L+1 := Nat.lt_add_right 1 h
theorem zup2 {x L : Nat} (h : x < L) : x < L+1+1 := Nat.lt_add_right 2 h
theorem zup3 {x L : Nat} (h : x < L) : x < L+1+1+1 := Nat.lt_add_right 3 h
theorem zup4 {x L : Nat} (h : x < L) : x < L+1+1+1+1 := Nat.lt_add_right 4 h
theorem zup5 {x L : Nat} (h : x < L) : x < L+1+1+1+1+1 := Nat.lt_add_right 5 h
theorem zdown1 {L y : Nat} (h : L+1 < y) : L < y := Nat.lt_of_le_of_lt (Nat.le_add_right L 1) h
theorem zdown2 {L y : Nat} (h : L+1+1 < y) : L < y := Nat.lt_of_le_of_lt (Nat.le_add_right L 2) h
theorem zdown3 {L y : Nat} (h : L+1+1+1 < y) : L < y := Nat.lt_of_le_of_lt (Nat.le_add_right L 3) h
theorem zdown4 {L y : Nat} (h : L+1+1+1+1 < y) : L < y := Nat.lt_of_le_of_lt (Nat.le_add_right L 4) h
theorem z32 {L : Nat} (h : 81 < L) : 32 < L := Nat.lt_trans (by decide) h
theorem z25 {L : Nat} (h : 81 < L) : 25 < L := Nat.lt_trans (by decide) h
theorem zle_big {n k m : Nat} (h : n ≤ k) (e : Nat.ble k m = true) : n ≤ m := Nat.le_trans h (Nat.le_of_ble_eq_true e)
theorem zlt_big {n k m : Nat} (h : n ≤ k) (e : Nat.ble (k + 1) m = true) : n < m := Nat.lt_of_le_of_lt h (Nat.le_of_ble_eq_true e)
theorem zadd_le {n c k m : Nat} (h : n ≤ k) (e : Nat.ble (k + c) m = true) : n + c ≤ m := Nat.le_trans (Nat.add_le_add_right h c) (Nat.le_of_ble_eq_true e)
theorem zadd_lt {n c k m : Nat} (h : n ≤ k) (e : Nat.ble (k + c + 1) m = true) : n + c < m := Nat.lt_of_lt_of_le (Nat.lt_succ_of_le (Nat.add_le_add_right h c)) (Nat.le_of_ble_eq_true e)
theorem zeq_le {a b k m : Nat} (h : a = b) (h2 : b ≤ k) (e : Nat.ble k m = true) : a ≤ m := h ▸ Nat.le_trans h2 (Nat.le_of_ble_eq_true e)
theorem zeq_lt {a b k m : Nat} (h : a = b) (h2 : b ≤ k) (e : Nat.ble (k + 1) m = true) : a < m := h ▸ Nat.lt_of_le_of_lt h2 (Nat.le_of_ble_eq_true e)
theorem zlt_mono {n k m : Nat} (h : n < k) (e : Nat.ble k m = true) : n < m := Nat.lt_of_lt_of_le h (Nat.le_of_ble_eq_true e)
end Mine
namespace Mine
section
open PySem PySem.W PyProof.Rows
set_option maxRecDepth 100000
set_option maxHeartbeats 8000000
abbrev stmAt (i : Nat) : Stmt := PySem.Challenge.pw_pg0121_01.main.body.getD i (.Pass ⟨0, 0, 0, 0⟩)
def view : Program := { PySem.Challenge.pw_pg0121_01 with main := { PySem.Challenge.pw_pg0121_01.main with body := [stmAt 3, stmAt 4, stmAt 6, stmAt 8, stmAt 9, stmAt 10, stmAt 11, stmAt 12] } }
/-- the row's looks, by the library's twins, each look by itself -/
theorem law_said : OpenLaw.wellSaid PySem.Challenge.rw_pg0121_01 = true := by
  first
    | (rewrite [PySem.W.Fast.te9446332074065402090]
       repeat' (first | (with_reducible refine look_both ?_ ?_) | (unfold PySem.W.Fast.tw9446332074065402090) | (unfold PySem.W.Fast.tw17960256430627541270) | (unfold PySem.W.Fast.tw2436336058641802641) | (unfold PySem.W.Fast.tw12908688711261696721))
       all_goals as_aux_lemma => kernel_rfl)
    | kernel_rfl
local macro_rules | `(tactic| o_law) => `(tactic| (refine holds_law law_said fun said => ?_))
/-- the head, with the look at the top's end left open -/
theorem topR (H : Hook) (hl : LeftO (OpenLaw.row PySem.Challenge.rw_pg0121_01).prog view [Str.ofString "bisect_left"] (fun s => xlAt view [] s && recOk (RowW.records (OpenRow.toRowW (OpenLaw.row PySem.Challenge.rw_pg0121_01))) s) H.obs H.val 1354)
    (hw : (OpenLaw.row PySem.Challenge.rw_pg0121_01).toRowW.promised) {d : DefRec} {kwd : List (Str × Expr)} (hdef : defOf view (OpenLaw.row PySem.Challenge.rw_pg0121_01).name = some (d, kwd)) (hp : (OpenLaw.row PySem.Challenge.rw_pg0121_01).prog.theDef (OpenLaw.row PySem.Challenge.rw_pg0121_01).name = some (d.params, d.body, d.scope)) (hk : kwWritten? d.params.kwonlyargs d.params.kw_defaults = some kwd)
    (said : (OpenLaw.row PySem.Challenge.rw_pg0121_01).wellSaid = true) (hc : WalkO view [Str.ofString "bisect_left"] (XL view []) H.says (OpenLaw.row PySem.Challenge.rw_pg0121_01).toRowW d kwd fun f vs => PySem.call f vs) : (OpenLaw.row PySem.Challenge.rw_pg0121_01).Holds :=
  holds_open (q := view) (loose := [Str.ofString "bisect_left"]) (Xt := fun s => xlAt view [] s && recOk (RowW.records (OpenRow.toRowW (OpenLaw.row PySem.Challenge.rw_pg0121_01))) s) (XP := XL view []) (Yf := H.obs) (Ya := H.val) (YP := H.says) (N := 1354) hl H.of H.keeps (fun s e => xl_of s (Bool.and_eq_true_iff.mp e).1) XL.keeps hdef hp hk
    (fun s e => recFacts_of (Bool.and_eq_true_iff.mp e).2) (by rfl) said (by decide +kernel) ⟨rfl, rfl, rfl, rfl, rfl, by decide +kernel⟩ hw hc
local macro_rules | `(tactic| o_head $H) => `(tactic| (refine topR $H (by intro w; (try (delta openEnds topFrom fencedOpening; rewrite [PySem.W.Fast.te4187177175401517315, PySem.W.Fast.te5923862056798008813, PySem.W.Fast.te10274390034422433532, PySem.W.Fast.te14364793385576792824, PySem.W.Fast.te1435165496053646825, PySem.W.Fast.te14289696077712309145, PySem.W.Fast.te14082659384304107361, PySem.W.Fast.te8920871248978507458])); kernel_rfl) ?hw (by rfl) (by rfl) (by rfl) (by assumption) ?hc))
open_top hd for PySem.Challenge.rw_pg0121_01
end
end Mine
section
open PySem PySem.W PyProof.Rows Mine
local macro_rules | `(tactic| tb_start) => `(tactic| first | exact .here | exact .last | (refine .there ?_; tb_start))
local macro_rules | `(tactic| kbo_bools) => `(tactic| first | assumption | exact zdig (by assumption) (by tb_start) | exact z32 (by assumption) | exact z25 (by assumption))
local macro_rules | `(tactic| kxt_pos) => `(tactic| first | kbo_bools | exact zoff1 _ | exact zoff2 _ | exact zoff3 _ | exact zoff4 _ | exact zoff5 _ | (refine zup1 ?_; kbo_bools) | (refine zup2 ?_; kbo_bools) | (refine zup3 ?_; kbo_bools) | (refine zup4 ?_; kbo_bools) | (refine zup5 ?_; kbo_bools) | (refine zdown1 ?_; kbo_bools) | (refine zdown2 ?_; kbo_bools) | (refine zdown3 ?_; kbo_bools) | (refine zdown4 ?_; kbo_bools))
local macro_rules | `(tactic| kba_ints) => `(tactic| first | kxt_pos | (refine Nat.lt_trans ?_ (by assumption); first | kxt_pos | (refine Nat.lt_trans ?_ (by assumption); first | kxt_pos | (refine Nat.lt_trans ?_ (by assumption); first | kxt_pos | (refine Nat.lt_trans ?_ (by assumption); first | kxt_pos | (refine Nat.lt_trans ?_ (by assumption); kxt_pos))))))
local macro_rules | `(tactic| omega) => `(tactic| first
  | (with_reducible assumption)
  | (with_reducible exact Ne.symm (by assumption))
  | (with_reducible show @Ne Nat _ _; first | (with_reducible refine Nat.ne_of_gt ?_; with_reducible kba_ints) | (with_reducible refine Nat.ne_of_lt ?_; with_reducible kba_ints) | decide)
  | (with_reducible show @LT.lt Nat _ _ _; first | with_reducible kba_ints | with_reducible exact zlt_big (by assumption) (by with_unfolding_all rfl) | with_reducible exact zadd_lt (by assumption) (by with_unfolding_all rfl) | with_reducible exact zeq_lt (by assumption) (by assumption) (by with_unfolding_all rfl) | with_reducible exact zlt_mono (by assumption) (by with_unfolding_all rfl) | decide)
  | (with_reducible show @LE.le Nat _ _ _; first | with_reducible exact Nat.zero_le _ | (with_reducible refine Nat.le_of_lt ?_; with_reducible kba_ints) | with_reducible exact zle_big (by assumption) (by with_unfolding_all rfl) | with_reducible exact zadd_le (by assumption) (by with_unfolding_all rfl) | with_reducible exact zeq_le (by assumption) (by assumption) (by with_unfolding_all rfl) | decide)
  | (with_reducible show @LE.le Int _ _ _; first | with_reducible exact Int.natCast_nonneg _ | decide)
  | (with_reducible show @LT.lt Int _ _ _; decide)
  | omega (splitDisjunctions := true))
local macro_rules | `(tactic| k_room) => `(tactic| ((try simp only [depth_under_make, depth_under_kw, depth_in1, depth_deeper]); (simp only [recursionLimit] at *); omega))
local macro_rules | `(tactic| walk_at "In9") => `(tactic| (intros; rename_i l1; (try k_lt l1); (try k_sweep)))
local macro_rules | `(tactic| walk_at "ite") => `(tactic| (k_closed; k_dflt (first | (refine PySem.W.ite_pos ?h ?_; (case h => decide)) | (refine PySem.W.ite_neg ?h ?_; (case h => decide)))))

section
open PySem PySem.W PyProof.Rows
namespace Mine
theorem anew0 : True ∧ True := by
  walk1
  w_top off
  all_goals exact True.intro
end Mine
end

section
open PySem PySem.W PySem.Calls PyProof.Rows
set_option maxRecDepth 100000
namespace Mine


/-- `h'` bears what `h` bears, but at the addresses of `S` -/
noncomputable def Agree (S : List Addr) (h h' : Heap) : Prop := ∀ b o, h.get? b = some o → b ∉ S → h'.get? b = some o

/-- a frame from which a def of the text may be called -/
structure Cx (w : World) (A : Around) (h₀ : Heap) (L : Addr) (m : Str → Option Value) (h : Heap) : Prop where
  fr : Fr h₀ L h m
  kin : (hd.heap_1 w.params).In h₀
  rest : ∃ A₀ base outer env p loose mean mg mb, Below A₀ base outer h₀ ∧ Top p loose mean mg mb h₀ ∧ A.frames = some (env :: outer) ∧ env.frame = some L ∧ env.scope.kind = .function

section
variable {w : World} {A : Around} {h₀ : Heap} {L : Addr} {m : Str → Option Value} {s : Shared} {news : List (Addr × Obj)} {R : Result → Shared → Prop}
  {name qual : Str} {params : Arguments} {body : List Stmt} {scope : Scope} {dV kV doc pm cdv ct oc : Value} {an od : Option Addr} {osl : Array (Option Value)} {f : Addr} {args : Args} {binds : List (Str × Value)}

/-- the end of a call: what the callee has left alone is as it was -/
noncomputable def LeaveA (S : List Addr) (h : Heap) (h₀ : Heap) (L : Addr) (g : Heap) (R : Result → Shared → Prop) (v : Value) (s' : Shared) : Prop :=
  ∃ L' m' news', Fr g L' s'.heap m' ∧ News g L' s'.heap news' ∧ (Agree S h s'.heap → News h₀ L s'.heap news' → R (.ok (.ret v)) s')

theorem enter (C : Cx w A h₀ L m s.heap) (N : News h₀ L s.heap news)
    (ho : (hd.heap_1 w.params).lookup f = some ⟨oc, od, .func (fnOf name qual params body scope dV kV doc pm an cdv ct), osl⟩) (hcd : codeIn (hd.heap_1 w.params) cdv qual = true) (hroom : A.depth < recursionLimit)
    (hbind : BindsTo s (fnOf name qual params body scope dV kV doc pm an cdv ct) args binds) (hloc : ∀ y ∈ binds, scope.names.lookup y.1 = some .local)
    (h : ∀ base outer env L' h₁ p loose mean mg mb, Fr (hideAll s.heap (news.map (·.1))) L' h₁ (fun y => binds.reverse.lookup y) → News (hideAll s.heap (news.map (·.1))) L' h₁ news →
      Below A base (env :: outer) (hideAll s.heap (news.map (·.1))) → (hd.heap_1 w.params).In (hideAll s.heap (news.map (·.1))) → Top p loose mean mg mb (hideAll s.heap (news.map (·.1))) → (∀ p ∈ news, p.1 < L') →
      wpAny (model PySem.Challenge.rw_pg0121_01.row.prog w) (A.deeper (envOf qual scope L' f cdv)) (execs body (envOf qual scope L' f cdv))
        (fun fl s' => LeaveA (news.map (·.1)) s.heap h₀ L (hideAll s.heap (news.map (·.1))) R (match fl with | .ret v => v | _ => .none) s')
        (fun _ _ => False)
        { s with heap := h₁, toks := s.toks + binds.length })
    (hcell : ∀ x ∈ scope.names, x.2 ≠ .cell) (hco : scope.isCoroutine = false := by rfl) (hgen : scope.isGenerator = false := by rfl) (hk : scope.kind = .function := by rfl) :
    codeAny (model PySem.Challenge.rw_pg0121_01.row.prog w) A (.call (.ref f) args) R s := by
  obtain ⟨A₀, base, outer, env, p, loose, mean, mg, mb, B, T, hA, hf, hke⟩ := C.rest
  have F := C.fr
  obtain ⟨FG, BG, st, lv⟩ := groundX (R := R) B F N hA hf hke
  have X₀ := C.kin
  refine codeAny_call_def (fd := fnX name qual params body scope [] dV kV doc pm an cdv ct) (body := body) (binds := binds) hroom ((X₀.keeps F.keep) _ _ ho) rfl (T.nolimit.keeps F.keep) (codeRec_of (X₀.keeps F.keep) hcd) rfl hbind hcell hloc (fun h₁ hns hk₁ => ?_) hco hgen hk
  refine wpAny_mono (h base outer env s.heap.objs.size h₁ p loose mean mg mb ⟨hns, fun b o e => hk₁ b o (of_hideAll _ e), Nat.le_of_eq (hideAll_size _ _)⟩
    (fun p hp => ⟨hk₁ _ _ (N p hp).1, Nat.ne_of_lt (Heap.lt_size (N p hp).1), hideAll_none _ (List.mem_map_of_mem hp)⟩) BG (X₀.keeps st) (T.keeps st) (fun p hp => Heap.lt_size (N p hp).1)) (fun fl s' hl => ?_) fun _ _ y => y.elim
  obtain ⟨L', m', news', F', N', k⟩ := hl
  obtain ⟨oL, es, ep, hL, hLd, hLk, hLf⟩ := F.ns
  have nL : L ∉ news.map (·.1) := fun q => by
    obtain ⟨p, hp, e⟩ := List.mem_map.mp q
    exact (N p hp).2.1 e
  have hLg := hideAll_get (news.map (·.1)) hL nL
  refine k (fun b o e hb => F'.keep b o (hideAll_get _ e hb)) fun p hp => ⟨(N' p hp).1, fun q => ?_, ?_⟩
  · have := (N' p hp).2.2; rw [q, hLg] at this; cases this
  · cases q : h₀.get? p.1 with
    | none => rfl
    | some o => have := (N' p hp).2.2; rw [st _ _ q] at this; cases this
end

end Mine
end

section
open PySem PySem.W PyProof.Rows
namespace Mine
theorem anew1 : True ∧ True := by
  walk1
  w_top off
  all_goals exact True.intro
end Mine
end

section
open PySem PySem.W PySem.Calls PyProof.Rows
set_option maxRecDepth 100000
set_option maxHeartbeats 2000000
namespace Mine

/-- the iterator that iter(f, sentinel) makes -/
noncomputable abbrev citObj (f sent : Value) : Obj := { cls := .type "callable_iterator", data := .fields #[f, sent, .bool false] }
/-- the same, through -/
noncomputable abbrev citEnd : Obj := { cls := .type "callable_iterator", data := .fields #[.none, .none, .bool true] }

theorem slot_cit_iter : Slot "callable_iterator" "__iter__" "callable_iterator.__iter__" :=
  .of (owner := "callable_iterator") (n := "__iter__") (by rw [typeLookup_type, builtinLookup_eq_fast]; kernel_rfl) (by decide +kernel) (by decide +kernel) (by decide +kernel)
    (by first | exact .inl (by decide +kernel) | exact .inr (by decide +kernel)) (by rw [isSubtype_type]; kernel_rfl)
theorem slot_cit_next : Slot "callable_iterator" "__next__" "callable_iterator.__next__" :=
  .of (owner := "callable_iterator") (n := "__next__") (by rw [typeLookup_type, builtinLookup_eq_fast]; kernel_rfl) (by decide +kernel) (by decide +kernel) (by decide +kernel)
    (by first | exact .inl (by decide +kernel) | exact .inr (by decide +kernel)) (by rw [isSubtype_type]; kernel_rfl)
theorem entry_cit_iter : entryFor table "callable_iterator.__iter__" = some Builtin.«dict_keyiterator.__iter__» :=
  entryFor_alias (id' := "dict_keyiterator.__iter__") (by rw [fastTable_eq_tree]; kernel_rfl) (by first | rfl | decide +kernel) (by decide +kernel) (by rw [fastTable_eq_tree]; kernel_rfl)
theorem entry_cit_next : entryFor table "callable_iterator.__next__" = some Builtin.«callable_iterator.__next__» := entryFor_of_tree (by kernel_rfl)
theorem args_cit_iter (a : Value) : argsOk "callable_iterator.__iter__" ⟨[a], []⟩ := by unfold argsOk; kernel_rfl
theorem args_cit_next (a : Value) : argsOk "callable_iterator.__next__" ⟨[a], []⟩ := by unfold argsOk; kernel_rfl
theorem kind_iter : builtinKind "iter" = none := by decide +kernel
theorem plain_iter : plainId "iter" = true := by decide +kernel
theorem entry_iter : entryFor table "iter" = some Builtin.«iter» := entryFor_of_tree (by kernel_rfl)
theorem args_iter2 (a b : Value) : argsOk "iter" ⟨[a, b], []⟩ := by unfold argsOk; kernel_rfl
theorem slot_method_call : typeLookup (.type "method") "__call__" = pure (some (.builtin "method.__call__")) := by rw [typeLookup_type, builtinLookup_eq_fast]; kernel_rfl

section
variable {prog : Program} {w : World} {A : Around} {E : Value → Shared → Prop} {s : Shared}

theorem iter2_call {q : Addr} {f self sent : Value} {Q : Value → Shared → Prop} (hq : s.heap.get? q = some (methodObj f self))
    (h : Q (.ref s.heap.objs.size) { s with heap := s.heap.push (citObj (.ref q) sent) }) :
    wpAny (model prog w) A (call (.builtin "iter") [.ref q, sent]) Q E s := by
  refine Calls.call_function_entry kind_iter plain_iter entry_iter (args_iter2 _ _) ?_
  unfold Builtin.«iter»
  refine wpAny_bind (m := someArgs "iter" 1 2 _) (wpAny_pure ?_)
  refine wpAny_bind (wpAny_specialOf (T := "method") ⟨_, hq, rfl⟩ slot_method_call ?_)
  refine wpAny_bind (m := rule "iter.sentinel") (wpAny_rule ?_)
  exact wpAny_bind (wpAny_newObj_type (wpAny_pure ⟨_, rfl, h⟩))

theorem pyIter_cit {it : Addr} {o : Obj} {Q : Value → Shared → Prop} (ho : s.heap.get? it = some o) (hc : o.cls = .type "callable_iterator") (h : Q (.ref it) s) :
    wpAny (model prog w) A (pyIter (.ref it)) Q E s := by
  have hT : s.TypeIs (.ref it) "callable_iterator" := ⟨o, ho, hc⟩
  refine wpAny_pyIter_slot hT slot_cit_iter (wpAny_call_entry slot_cit_iter hT entry_cit_iter ?_ (args_cit_iter _))
  show wpAny _ _ (do ret (Value.ref it)) _ _ s
  exact wpAny_pure ⟨_, rfl, "callable_iterator", _, hT, slot_cit_next.lookup, h⟩

theorem wpAny_callBorrowed {f : Value} {pos : List Value} {Q : Value → Shared → Prop}
    (hc : codeAny (model prog w) A (.call f ⟨pos, []⟩) (fun r s' => match r with | .ok (.ret v) => Q v s' | .ok _ => False | .error e => E e s') s) :
    wpAny (model prog w) A (callBorrowed f pos) Q E s := by
  intro Γ p hΓ
  have h1 := hc _ p rfl (hΓ.enter (.call f ⟨pos, []⟩) none p (by intro x; cases x))
  unfold callBorrowed
  rw [Sem.wp]
  refine wpCode_mono (fun r s' hr => ?_) h1
  match r, hr with
  | .ok (.ret v), hr => exact hr
  | .ok .next, hr => exact hr.elim
  | .ok .brk, hr => exact hr.elim
  | .ok .cont, hr => exact hr.elim
  | .error e, hr => exact hr

theorem pyNext_cit {it q : Addr} {f : Addr} {of : Obj} {fd : FuncData} {self : Value} {x : Str} {t : Tok} {Q : Option Value → Shared → Prop}
    (ho : s.heap.get? it = some (citObj (.ref q) (.str x t))) (hq : s.heap.get? q = some (methodObj (.ref f) self)) (hf : s.heap.get? f = some of) (hfd : of.data = .func fd)
    (h : codeAny (model prog w) A.in1 (.call (.ref f) ⟨[self], []⟩) (fun r s' => match r with
      | .ok (.ret v) => s'.heap.get? it = some (citObj (.ref q) (.str x t)) ∧ ∃ y u, v = .str y u ∧ x ≠ y ∧ Q (some v) s'
      | .ok _ => False | .error _ => False) s) :
    wpAny (model prog w) A (pyNext (.ref it)) Q E s := by
  have hT : s.TypeIs (.ref it) "callable_iterator" := ⟨_, ho, rfl⟩
  unfold pyNext
  refine wpAny_bind (wpAny_attempt (wpAny_callSpecial?_slot (name := Str.ofString "__next__") hT slot_cit_next
    (wpAny_call_entry slot_cit_next hT entry_cit_next ?_ (args_cit_next _))))
  show wpAny _ _ (field (.ref it) 2 >>= _) _ _ s
  refine wpAny_bind (wpAny_field ho rfl (x := .bool false) rfl ?_)
  show wpAny _ _ (field (.ref it) 0 >>= _) _ _ s
  refine wpAny_bind (wpAny_field ho rfl (x := .ref q) rfl ?_)
  refine wpAny_bind (wpAny_attempt ?_)
  unfold callOutOfASlot
  refine wpAny_bind (m := borrowsExactly (.ref q)) ?_
  unfold borrowsExactly
  refine wpAny_bind (wpAny_load hq ?_)
  refine wpAny_bind (m := load f) (wpAny_load hf ?_)
  rw [hfd]
  refine wpAny_pure ?_
  show wpAny _ _ (callBorrowed (.ref q) []) _ _ s
  refine wpAny_callBorrowed (method_call hq (codeAny_mono h fun r s' hr => ?_))
  match r, hr with
  | .ok .next, hr => exact hr.elim
  | .ok .brk, hr => exact hr.elim
  | .ok .cont, hr => exact hr.elim
  | .error e, hr => exact hr.elim
  | .ok (.ret v), hr =>
    obtain ⟨ho', y, u, rfl, hne, hQ⟩ := hr
    show wpAny _ _ (field (.ref it) 2 >>= _) _ _ s'
    refine wpAny_bind (wpAny_field ho' rfl (x := .bool false) rfl ?_)
    show wpAny _ _ (field (.ref it) 1 >>= _) _ _ s'
    refine wpAny_bind (wpAny_field ho' rfl (x := .str x t) rfl ?_)
    refine wpAny_bind (wpAny_holding (wpAny_eqBool_str ?_))
    rw [decide_eq_false hne]
    exact wpAny_pure ⟨_, rfl, wpAny_pure hQ⟩

theorem stop_raised {α : Type} {s' : Shared} {Q : Option Value → Shared → Prop} {Q1 : α → Shared → Prop} (hh : A.handled = none)
    (h : ∀ h', Agree [] s'.heap h' → Q none { s' with heap := h' }) :
    wpAny (model prog w) A.in1 (Builtin.SmallTypes.stopIteration : Sem α) Q1
      (fun e s' => wpAny (model prog w) A (do if ← isInstance e (.type "StopIteration") then pure none else throw e) Q E s') s' := by
  show wpAny _ _ (newExc (.type "StopIteration") [] >>= _) _ _ _
  refine wpAny_bind ?_
  simp only [newExc, newTuple]
  refine wpAny_bind (wpAny_newObj_type ?_ (by size_fits))
  refine wpAny_bind (m := firstArgMember _ _) (wpAny_of_eq (a := Value.none) (by first | rfl | (simp only [firstArgMember]; rfl)) ?_)
  refine wpAny_newObj_type ?_ (by size_fits)
  refine wpAny_raiseNew_none hh ?_
  refine wpAny_bind (wpAny_isInstance (T := "StopIteration") (b := true) ⟨_, Heap.get?_push_size _ rfl, rfl⟩ isSubtype_stop ?_)
  exact wpAny_pure (h _ fun b o e _ => Heap.get?_push_of_some _ (Heap.get?_push_of_some _ e))

theorem pyNext_citEnded {it : Addr} {Q : Option Value → Shared → Prop} (hh : A.handled = none)
    (ho : s.heap.get? it = some citEnd) (h : ∀ h', Agree [] s.heap h' → Q none { s with heap := h' }) :
    wpAny (model prog w) A (pyNext (.ref it)) Q E s := by
  have hT : s.TypeIs (.ref it) "callable_iterator" := ⟨_, ho, rfl⟩
  unfold pyNext
  refine wpAny_bind (wpAny_attempt (wpAny_callSpecial?_slot (name := Str.ofString "__next__") hT slot_cit_next
    (wpAny_call_entry slot_cit_next hT entry_cit_next ?_ (args_cit_next _))))
  show wpAny _ _ (field (.ref it) 2 >>= _) _ _ s
  refine wpAny_bind (wpAny_field ho rfl (x := .bool true) rfl ?_)
  refine wpAny_bind (m := rule _) (wpAny_rule ?_)
  exact wpAny_bind (stop_raised hh h)

theorem pyNext_citStop {it q : Addr} {f : Addr} {of : Obj} {fd : FuncData} {self : Value} {x : Str} {t : Tok} {Q : Option Value → Shared → Prop} (hh : A.handled = none)
    (ho : s.heap.get? it = some (citObj (.ref q) (.str x t))) (hq : s.heap.get? q = some (methodObj (.ref f) self)) (hf : s.heap.get? f = some of) (hfd : of.data = .func fd)
    (h : codeAny (model prog w) A.in1 (.call (.ref f) ⟨[self], []⟩) (fun r s' => match r with
      | .ok (.ret v) => s'.heap.get? it = some (citObj (.ref q) (.str x t)) ∧ s'.heap.get? q = some (methodObj (.ref f) self) ∧ s'.heap.get? f = some of ∧ (∃ u, v = .str x u) ∧ ∀ h', Agree [it] s'.heap h' → h'.get? it = some citEnd → Q none { s' with heap := h' }
      | .ok _ => False | .error _ => False) s) :
    wpAny (model prog w) A (pyNext (.ref it)) Q E s := by
  have hT : s.TypeIs (.ref it) "callable_iterator" := ⟨_, ho, rfl⟩
  unfold pyNext
  refine wpAny_bind (wpAny_attempt (wpAny_callSpecial?_slot (name := Str.ofString "__next__") hT slot_cit_next
    (wpAny_call_entry slot_cit_next hT entry_cit_next ?_ (args_cit_next _))))
  show wpAny _ _ (field (.ref it) 2 >>= _) _ _ s
  refine wpAny_bind (wpAny_field ho rfl (x := .bool false) rfl ?_)
  show wpAny _ _ (field (.ref it) 0 >>= _) _ _ s
  refine wpAny_bind (wpAny_field ho rfl (x := .ref q) rfl ?_)
  refine wpAny_bind (wpAny_attempt ?_)
  unfold callOutOfASlot
  refine wpAny_bind (m := borrowsExactly (.ref q)) ?_
  unfold borrowsExactly
  refine wpAny_bind (wpAny_load hq ?_)
  refine wpAny_bind (m := load f) (wpAny_load hf ?_)
  rw [hfd]
  refine wpAny_pure ?_
  show wpAny _ _ (callBorrowed (.ref q) []) _ _ s
  refine wpAny_callBorrowed (method_call hq (codeAny_mono h fun r s' hr => ?_))
  match r, hr with
  | .ok .next, hr => exact hr.elim
  | .ok .brk, hr => exact hr.elim
  | .ok .cont, hr => exact hr.elim
  | .error e, hr => exact hr.elim
  | .ok (.ret v), hr =>
    obtain ⟨ho', hq', hf', ⟨u, rfl⟩, hQ⟩ := hr
    show wpAny _ _ (field (.ref it) 2 >>= _) _ _ s'
    refine wpAny_bind (wpAny_field ho' rfl (x := .bool false) rfl ?_)
    show wpAny _ _ (field (.ref it) 1 >>= _) _ _ s'
    refine wpAny_bind (wpAny_field ho' rfl (x := .str x t) rfl ?_)
    refine wpAny_bind (wpAny_holding (wpAny_eqBool_str ?_))
    rw [decide_eq_true rfl]
    refine wpAny_bind (m := rule _) (wpAny_rule ?_)
    show wpAny _ _ ((do slotLetsGo "callable_iterator.__next__" (← field (.ref it) 0) _; setField (.ref it) 0 .none; setField (.ref it) 1 .none; setField (.ref it) 2 (.bool true)) >>= fun _ => Builtin.SmallTypes.stopIteration) _ _ s'
    refine wpAny_bind (wpAny_bind (wpAny_field ho' rfl (x := .ref q) rfl ?_))
    refine wpAny_bind (m := slotLetsGo _ _ _) ?_
    unfold slotLetsGo
    refine wpAny_bind (m := borrowsExactly (.ref q)) ?_
    unfold borrowsExactly
    refine wpAny_bind (wpAny_load hq' ?_)
    refine wpAny_bind (m := load f) (wpAny_load hf' ?_)
    rw [hfd]
    refine wpAny_pure (wpAny_pure ?_)
    refine wpAny_bind (wpAny_setField ho' rfl (by simp) ?_)
    have e1 : ((s'.heap.update it (Obj.mapFields (·.setIfInBounds 0 .none)))).get? it = some { cls := .type "callable_iterator", data := .fields #[.none, .str x t, .bool false] } := Heap.get?_update_self _ ho' rfl
    refine wpAny_bind (wpAny_setField e1 rfl (by simp) ?_)
    have e2 := Heap.get?_update_self (Obj.mapFields (·.setIfInBounds 1 Value.none)) e1 rfl
    refine (wpAny_setField e2 rfl (by simp) ?_)
    have e3 := Heap.get?_update_self (Obj.mapFields (·.setIfInBounds 2 (Value.bool true))) e2 rfl
    refine stop_raised hh fun h' hag => hQ h' (fun b o e hb => hag b o ?_ (by simp)) (hag _ _ e3 (by simp))
    have hb' : b ≠ it := by simpa using hb
    show (Heap.update _ it _).get? b = some o
    rw [Heap.get?_update_ne _ _ _ _ hb', Heap.get?_update_ne _ _ _ _ hb', Heap.get?_update_ne _ _ _ _ hb']
    exact e
end
end Mine
end

section
open PySem PySem.W PyProof.Rows
namespace Mine
theorem anew2 : True ∧ True := by
  walk1
  w_top off
  all_goals exact True.intro
end Mine
end

section
open PySem PySem.W PySem.Calls PyProof.Rows
open PySem.Builtin PySem.Builtin.ObjectAttr
set_option maxRecDepth 100000
set_option maxHeartbeats 2000000
namespace Mine
theorem slot_fn_setattr : Slot "function" "__setattr__" "object.__setattr__" :=
  .of (owner := "object") (n := "__setattr__") (by rw [typeLookup_type, builtinLookup_eq_fast]; kernel_rfl) (by decide +kernel) (by decide +kernel) (by decide +kernel)
    (by first | exact .inl (by decide +kernel) | exact .inr (by decide +kernel)) (by rw [isSubtype_type]; kernel_rfl)
theorem mro_function : mroOf (.type "function") = pure [.type "function", .type "object"] := by rw [mroOf_type]; kernel_rfl
theorem fn_read_none : typeLookup (.type "function") "read" = pure none := by rw [typeLookup_type, builtinLookup_eq_fast]; kernel_rfl
theorem fn_hasDict : typeHasDict (.type "function") = true := by decide +kernel

section
variable {prog : Program} {w : World} {A : Around} {E : Value → Shared → Prop} {s : Shared}

theorem setAttr_fn {f : Addr} {fd : FuncData} {sl : Array (Option Value)} {v : Value} {Q : Unit → Shared → Prop}
    (hf : s.heap.get? f = some ⟨.type "function", none, .func fd, sl⟩)
    (h : ∀ h' tk d t, Agree [f] s.heap h' → s.heap.objs.size ≤ d → h'.get? d = some (dictOf [⟨PyData.keyHash w.params "read", .str "read" t, v⟩] 1) → h'.get? f = some ⟨.type "function", some d, .func fd, sl⟩ → Q () { s with heap := h', toks := tk }) :
    wpAny (model prog w) A (setAttr (.ref f) "read" v) Q E s := by
  obtain ⟨hp, gg, dr, tt, oo⟩ := s
  dsimp only at hf h
  unfold setAttr
  refine wpAny_bind (wpAny_mkText ?_)
  have hT' : (⟨hp, gg, dr, tt + 1, oo⟩ : Shared).TypeIs (.ref f) "function" := ⟨_, hf, rfl⟩
  refine wpAny_bind (wpAny_callSpecial?_slot (name := Str.ofString "__setattr__") hT' slot_fn_setattr
    (wpAny_call_entry slot_fn_setattr hT' PySem.F.store_object.entry ?_ (PySem.F.store_object.args _ _ _)))
  show wpAny _ _ (refuseIfOverridden (.ref f) "__setattr__" >>= _) _ _ _
  refine wpAny_bind ?_
  unfold refuseIfOverridden
  refine wpAny_bind (wpAny_typeOf hT' (wpAny_bind (wpAny_of_eq mro_function ?_)))
  refine wpAny_of_eq (a := ()) (by kernel_rfl) ?_
  show wpAny _ _ (attrName (.str _ tt) >>= _) _ _ _
  refine wpAny_bind (wpAny_pure ?_)
  refine wpAny_bind (wpAny_typeOf hT' (wpAny_bind (wpAny_of_eq fn_read_none ?_)))
  refine wpAny_bind (wpAny_pure ?_)
  show wpAny _ _ (storeInOwnDict _ _ _ _ _ _) _ _ _
  unfold storeInOwnDict
  refine wpAny_bind (m := ownStreamTells _ _) (wpAny_of_eq (a := ()) (by kernel_rfl) ?_)
  show wpAny _ _ (ownDictForStores (.ref f) >>= _) _ _ _
  refine wpAny_bind ?_
  show wpAny _ _ (instanceDict f true) _ _ _
  unfold instanceDict
  refine wpAny_bind (wpAny_loadPart hf ?_)
  show wpAny _ _ (if (!true || !typeHasDict (.type "function")) = true then _ else _) _ _ _
  rw [fn_hasDict]
  show wpAny _ _ (alloc _ >>= _) _ _ _
  refine wpAny_bind (wpAny_alloc ?_)
  have hlt : f < hp.objs.size := Heap.lt_size hf
  dsimp only
  generalize hH1 : hp.push { cls := .type "dict", data := .dict #[] } = H1
  have hf1 : H1.get? f = some ⟨.type "function", none, .func fd, sl⟩ := hH1 ▸ Heap.get?_push_of_some _ hf
  have hd1 : H1.get? hp.objs.size = some { cls := .type "dict", data := .dict #[] } := hH1 ▸ Heap.get?_push_size _ rfl
  refine wpAny_bind (wpAny_update hf1 ?_)
  show wpAny _ _ (dictMade _ _ _) _ _ _
  refine wpAny_of_eq (a := some hp.objs.size) (by kernel_rfl) ?_
  dsimp only
  generalize hH2 : (H1.update f fun o => { o with dict := some hp.objs.size }) = H2
  have hne : hp.objs.size ≠ f := Nat.ne_of_gt hlt
  have hf2 : H2.get? f = some ⟨.type "function", some hp.objs.size, .func fd, sl⟩ := hH2 ▸ Heap.get?_update_self _ hf1 rfl
  have hd2 : H2.get? hp.objs.size = some { cls := .type "dict", data := .dict #[] } := by rw [← hH2, Heap.get?_update_ne _ _ _ _ hne]; exact hd1
  unfold storeInDict
  refine wpAny_bind (wpAny_pure ?_)
  refine wpAny_bind ?_
  unfold nsSet
  refine wpAny_bind (wpAny_bind (wpAny_askSetting (wpAny_pure (wpAny_bind (wpAny_mkText (wpAny_bind (wpAny_loadPart hd2 ?_)))))))
  dsimp only
  rw [show aRefKeyMayBeTheName (Str.ofString "read") #[] = false from by decide +kernel]
  refine wpAny_updatePart hd2 ?_
  have hd3 := Heap.get?_update_self (Obj.putName (Str.ofString "read") (PyData.keyHash w.params (Str.ofString "read")) (.str (Str.ofString "read") (tt + 1)) v) hd2 rfl
  refine wpAny_bind (wpAny_lookBehind hd3 (by exact pastItsLine_dict (by rw [sizeLine_eq]; exact Nat.le_of_ble_eq_true rfl)) ?_)
  refine wpAny_pure ⟨_, rfl, wpAny_pure (h _ _ hp.objs.size (tt + 1) (fun b o e hb => ?_) (Nat.le_refl _) ?_ ?_)⟩
  · have hbf : b ≠ f := by simpa using hb
    have hbd : b ≠ hp.objs.size := Nat.ne_of_lt (Heap.lt_size e)
    rw [Heap.get?_update_ne _ _ _ _ hbd, ← hH2, Heap.get?_update_ne _ _ _ _ hbf, ← hH1]
    exact Heap.get?_push_of_some _ e
  · exact hd3
  · rw [Heap.get?_update_ne _ _ _ _ hne.symm]; exact hf2

theorem fn_ga : typeLookup (.type "function") "__getattribute__" = pure (some (.builtin "object.__getattribute__")) := by rw [typeLookup_type, builtinLookup_eq_fast]; kernel_rfl
theorem fn_gattr : typeLookup (.type "function") "__getattr__" = pure none := by rw [typeLookup_type, builtinLookup_eq_fast]; kernel_rfl
theorem slot_fn_ga : Slot "function" "__getattribute__" "object.__getattribute__" :=
  .of (owner := "object") (n := "__getattribute__") (by rw [typeLookup_type, builtinLookup_eq_fast]; kernel_rfl) (by decide +kernel) (by decide +kernel) (by decide +kernel)
    (by first | exact .inl (by decide +kernel) | exact .inr (by decide +kernel)) (by rw [isSubtype_type]; kernel_rfl)
theorem entry_oga : entryFor table "object.__getattribute__" = some Builtin.«object.__getattribute__» := PySem.F.entry_object_getattribute
theorem args_oga (a b : Value) : argsOk "object.__getattribute__" ⟨[a, b], []⟩ := by unfold argsOk; kernel_rfl
theorem canon_oga : (Manifest.canonical "object.__getattribute__" != "object.__getattribute__") = false := PySem.F.canon_object_ga

theorem getMethod_fn {f d r : Addr} {fd : FuncData} {sl : Array (Option Value)} {t : Tok} {hh : Int} {pl : Sem Bool} {Q : Value × List Value → Shared → Prop}
    (hf : s.heap.get? f = some ⟨.type "function", some d, .func fd, sl⟩) (hd : s.heap.get? d = some (dictOf [⟨hh, .str "read" t, .ref r⟩] 1))
    (h : Q (.ref r, []) { s with toks := s.toks + 1 }) :
    wpAny (model prog w) A (getMethod (.ref f) "read" pl) Q E s := by
  obtain ⟨hp, gg, dr, tt, oo⟩ := s
  dsimp only at hf hd h
  have hT : (⟨hp, gg, dr, tt, oo⟩ : Shared).TypeIs (.ref f) "function" := ⟨_, hf, rfl⟩
  have hT' : (⟨hp, gg, dr, tt + 1, oo⟩ : Shared).TypeIs (.ref f) "function" := ⟨_, hf, rfl⟩
  unfold getMethod
  refine wpAny_bind (wpAny_specialOf hT fn_ga ?_)
  dsimp only
  rw [if_neg (by rw [canon_oga]; decide)]
  refine wpAny_bind (wpAny_specialOf hT fn_gattr ?_)
  refine wpAny_bind (wpAny_specialOf hT fn_read_none ?_)
  dsimp only
  refine wpAny_bind (m := getAttr _ _ _) ?_
  unfold getAttr
  refine wpAny_bind (wpAny_mkText ?_)
  unfold getAttrBy
  refine wpAny_holding (wpAny_bind (wpAny_typeOf hT' (wpAny_bind (wpAny_of_eq fn_ga ?_))))
  show wpAny _ _ (getAttrByItsOwn _ _ _ _ _ _) _ _ _
  unfold getAttrByItsOwn
  refine wpAny_bind (wpAny_pure ?_)
  refine wpAny_bind (wpAny_attempt (wpAny_holding ?_))
  show wpAny _ _ (boundAndCalled _ _ _) _ _ _
  unfold boundAndCalled
  rw [slot_fn_ga.bind]
  refine wpAny_bind (wpAny_pure ?_)
  show wpAny _ _ (call (.builtin "object.__getattribute__") [.ref f, .str _ _]) _ _ _
  refine wpAny_call_entry slot_fn_ga hT' entry_oga ?_ (args_oga _ _)
  unfold Builtin.«object.__getattribute__»
  refine wpAny_bind (m := slotArgs _ _ _) (wpAny_of_eq (a := (.ref f, [.str (Str.ofString "read") tt])) (by rfl) ?_)
  dsimp only
  refine wpAny_bind (m := attrName _) (wpAny_pure ?_)
  refine wpAny_bind (wpAny_typeOf hT' (wpAny_bind ?_))
  unfold find
  refine wpAny_bind (wpAny_of_eq fn_read_none ?_)
  refine wpAny_bind (wpAny_pure ?_)
  refine wpAny_bind (wpAny_pure ?_)
  show wpAny _ _ (ownThenClass _ _ _ _) _ _ _
  unfold ownThenClass
  refine wpAny_bind ?_
  unfold inOwnDict
  refine wpAny_bind ?_
  unfold ObjectAttr.ownDict
  refine wpAny_bind (m := loadHead f) (wpAny_loadPart hf ?_)
  show wpAny _ _ (instanceDict f false) _ _ _
  unfold instanceDict
  refine wpAny_bind (wpAny_loadPart hf ?_)
  refine wpAny_pure ?_
  show wpAny _ _ (nsGet d "read") _ _ _
  unfold nsGet
  refine wpAny_bind (wpAny_loadPart hd ?_)
  refine wpAny_of_eq (a := some (.ref r)) (by kernel_rfl) ?_
  refine wpAny_bind (wpAny_rule (wpAny_pure ?_))
  exact wpAny_pure ⟨_, rfl, wpAny_pure (wpAny_pure h)⟩
end
end Mine
end

section
open PySem PySem.W PyProof.Rows
namespace Mine
theorem anew3 : True ∧ True := by
  walk1
  w_top off
  all_goals exact True.intro
end Mine
end

section
open PySem PySem.W PySem.Calls PyProof.Rows
set_option maxRecDepth 100000
namespace Mine
noncomputable def stBody : Stmt → List Stmt
  | .FunctionDef _ _ b _ _ _ _ _ _ _ => b
  | .For _ _ b _ _ => b
  | .If _ b _ _ => b
  | _ => []
noncomputable def stScope : Stmt → Scope
  | .FunctionDef _ _ _ _ _ _ sc _ _ _ => sc
  | _ => default
/-- the statements of law -/
noncomputable def lawBody : List Stmt := stBody (PySem.Challenge.pw_pg0121_01.main.body.getD 12 (.Pass ⟨0, 0, 0, 0⟩))
noncomputable def lawScope : Scope := stScope (PySem.Challenge.pw_pg0121_01.main.body.getD 12 (.Pass ⟨0, 0, 0, 0⟩))
noncomputable def lawStm (i : Nat) : Stmt := lawBody.getD i (.Pass ⟨0, 0, 0, 0⟩)
end Mine
end

section
open PySem PySem.W PyProof.Rows
namespace Mine
theorem anew4 : True ∧ True := by
  walk1
  w_top off
  all_goals exact True.intro
end Mine
end

section
open PySem PySem.W PySem.Calls PyProof.Rows
set_option maxRecDepth 100000
set_option maxHeartbeats 1000000
namespace Mine

theorem codeHd_of {K : Frag} {h : Heap} {c P : Addr} {o : Obj} (X : K.In h) (e : K.lookup c = some o)
    (r : ∃ vs file tf flags tg inF text tt, o.cls = .type "code" ∧ o.data = .fields vs ∧ vs[11]? = some (.ref P) ∧ vs.getD 11 .none = .ref P ∧ vs.getD 18 .none = .str file tf ∧
    vs.getD 7 .none = .int flags tg ∧ vs.getD 9 .none = .bool inF ∧ vs.getD 10 .none = .int text tt ∧ c ≠ P) : CodeHd h c P := by
  obtain ⟨vs, file, tf, flags, tg, inF, text, tt, r⟩ := r
  exact ⟨o, vs, file, tf, flags, tg, inF, text, tt, X c o e, r⟩
theorem codeHd85 {w : World} {h : Heap} (X : (hd.heap_1 w.params).In h) : CodeHd h 85 81 := by
  refine' codeHd_of X ?e ?r
  case e => k_is
  case r => exact ⟨_, _, _, _, _, _, _, _, rfl, rfl, rfl, rfl, rfl, rfl, rfl, rfl, by decide⟩
theorem codeHd36 {w : World} {h : Heap} (X : (hd.heap_1 w.params).In h) : CodeHd h 36 32 := by
  refine' codeHd_of X ?e ?r
  case e => k_is
  case r => exact ⟨_, _, _, _, _, _, _, _, rfl, rfl, rfl, rfl, rfl, rfl, rfl, rfl, by decide⟩
theorem codeHd29 {w : World} {h : Heap} (X : (hd.heap_1 w.params).In h) : CodeHd h 29 25 := by
  refine' codeHd_of X ?e ?r
  case e => k_is
  case r => exact ⟨_, _, _, _, _, _, _, _, rfl, rfl, rfl, rfl, rfl, rfl, rfl, rfl, by decide⟩

section
variable {prog : Program} {w : World} {A : Around} {E : Value → Shared → Prop} {s : Shared} {h₀ : Heap} {L D : Addr} {m : Str → Option Value} {news news' : List (Addr × Obj)} {n : Nat}
theorem pop_snoc {p : List Value} {y : Value} {Q : Value → Shared → Prop} (F : Fr h₀ L s.heap m) (N : News h₀ L s.heap news) (U : Upd D (W.listOf (p ++ [y]).toArray n) (W.listOf p.toArray (n + 1)) news news')
    (hz : p.length < 100000) (h : ∀ h', Fr h₀ L h' m → News h₀ L h' news' → Q y { s with heap := h' }) : wpAny (model prog w) A (call (.builtin "list.pop") [.ref D]) Q E s :=
  kl_pop F N (p := p) (y := y) (kpa_last y p) U (by rw [sizeLine_eq]; simp; omega) h
theorem truthy_snoc {p : List Value} {y : Value} {l : Addr} {Q : Bool → Shared → Prop} (hl : s.heap.IsList l (p ++ [y]).toArray) (hz : p.length < 100000) (h : Q true { s with toks := s.toks + 1 + 1 }) :
    wpAny (model prog w) A (truthy (.ref l)) Q E s := by
  refine wpAny_truthy_list hl (by simp; omega) ?_
  rw [show (!(p ++ [y]).toArray.isEmpty) = true from by simp]; exact h
theorem truthy_nil {l : Addr} {Q : Bool → Shared → Prop} (hl : s.heap.IsList l #[]) (h : Q false { s with toks := s.toks + 1 + 1 }) :
    wpAny (model prog w) A (truthy (.ref l)) Q E s := by
  refine wpAny_truthy_list hl (by simp) ?_
  simpa using h
end
noncomputable abbrev AA (dp un : Nat) (gd : Option (List Code)) (fr : List Env) : Around := { handled := none, depth := dp, frames := some fr, guards := gd, units := un }

noncomputable def asLam : Stmt → Expr
  | .Assign _ v _ => v
  | _ => .Constant .none 0 ⟨0, 0, 0, 0⟩
noncomputable def lamPar : Expr → Arguments
  | .Lambda a _ _ _ => a
  | _ => default
noncomputable def lamBod : Expr → Expr
  | .Lambda _ b _ _ => b
  | e => e
noncomputable def lamSco : Expr → Scope
  | .Lambda _ _ s _ => s
  | _ => default
/-- the lambda that _law_stream lays as read -/
noncomputable def readLam : Expr := asLam ((stBody (PySem.Challenge.pw_pg0121_01.main.body.getD 8 (.Pass ⟨0, 0, 0, 0⟩))).getD 1 (.Pass ⟨0, 0, 0, 0⟩))

/-- a reader's fixed data -/
structure Rd where
  (x dx st sd rd c cs sg pb : Addr)
  (h1 h2 h3 h4 h5 : Int)
  (t1 t2 t3 t4 t5 u3 tq : Tok)
  fd : FuncData
  fsl : Array (Option Value)
  (pm ctv : Value)
  qn : Str
  (oc ocs : Obj)
  vs : Array Value
structure Rd.Ok (r : Rd) : Prop where
  o1 : @LT.lt Nat _ r.sg r.cs
  o2 : @LT.lt Nat _ r.cs r.st
  o3 : @LT.lt Nat _ r.st r.c
  o4 : @LT.lt Nat _ r.c r.rd
  o5 : @LT.lt Nat _ r.rd r.sd
  o6 : @LT.lt Nat _ r.sd r.dx
  o7 : @LT.lt Nat _ r.dx r.x
  o8 : @LT.lt Nat _ r.x r.pb
  d1 : r.oc.data = .fields r.vs
  d2 : r.vs[1]? = some (.str r.qn r.tq)
  d3 : r.ocs.data = .cell (some (.ref r.sg))

/-- a reader's objects -/
noncomputable abbrev lexNews (r : Rd) (ln : Int) (u1 : Tok) (sl : List Value) (n : Nat) (pl : List Value) (pn : Nat) : List (Addr × Obj) :=
  [(r.x, instObj 75 r.dx),
   (r.dx, dictOf [⟨r.h1, .str "lineno" r.t1, .int ln u1⟩, ⟨r.h2, .str "instream" r.t2, .ref r.st⟩, ⟨r.h3, .str "whitespace" r.t3, .str "\n\t\r " r.u3⟩, ⟨r.h4, .str "pushback" r.t4, .ref r.pb⟩] 4),
   (r.st, ⟨.type "function", some r.sd, .func r.fd, r.fsl⟩),
   (r.sd, dictOf [⟨r.h5, .str "read" r.t5, .ref r.rd⟩] 1),
   (r.rd, kla_obj "<lambda>" r.qn (lamPar readLam) (lamBod readLam) (lamSco readLam) [("signs", r.cs)] r.pm r.c r.ctv),
   (r.c, r.oc), (r.cs, r.ocs), (r.sg, W.listOf sl.toArray n), (r.pb, W.listOf pl.toArray pn)]
noncomputable abbrev Rd.adr (r : Rd) : List Addr := [r.x, r.dx, r.st, r.sd, r.rd, r.c, r.cs, r.sg, r.pb]

/-- the line's number behind a sign -/
noncomputable def lnBehind (ch : Nat) (ln : Int) : Int := if ((⟨#[ch]⟩ : Str) == Str.ofString "\n") = true then ln + 1 else ln
theorem lnBehind_t {ch : Nat} {ln : Int} (h : ((⟨#[ch]⟩ : Str) == Str.ofString "\n") = true) : lnBehind ch ln = ln + 1 := if_pos h
theorem lnBehind_f {ch : Nat} {ln : Int} (h : ((⟨#[ch]⟩ : Str) == Str.ofString "\n") = false) : lnBehind ch ln = ln := if_neg (by rw [h]; exact Bool.false_ne_true)

theorem read_char {w : World} {dp un : Nat} {gd : Option (List Code)} {fr : List Env} {h₀ : Heap} {L : Addr} {m : Str → Option Value} {s : Shared} {R : Result → Shared → Prop}
    {r : Rd} {ln : Int} {u1 : Tok} {sl : List Value} {n : Nat} {pl : List Value} {pn : Nat} {ch : Nat} {tc : Tok}
    (C : Cx w (AA dp un gd fr) h₀ L m s.heap) (hA : dp ≤ 500) (hz : sl.length < 100000) (ok : r.Ok)
    (N : News h₀ L s.heap (lexNews r ln u1 (sl ++ [Value.str ⟨#[ch]⟩ tc]) n pl pn))
    (k : ∀ h' tk u1', Agree r.adr s.heap h' → News h₀ L h' (lexNews r (lnBehind ch ln) u1' sl (n + 1) pl pn) → R (.ok (.ret (.str ⟨#[ch]⟩ tc))) { s with heap := h', toks := tk }) :
    codeAny (model PySem.Challenge.rw_pg0121_01.row.prog w) (AA dp un gd fr) (.call (.ref 58) ⟨[.ref r.x], []⟩) R s := by
  obtain ⟨o1, o2, o3, o4, o5, o6, o7, o8, d1, d2, d3⟩ := ok
  obtain ⟨x, dx, st, sd, rd, c, cs, sg, pb, h1, h2, h3, h4, h5, t1, t2, t3, t4, t5, u3, tq, fd, fsl, pm, ctv, qn, oc, ocs, vs⟩ := r
  dsimp only at *
  unfold lexNews at N k
  dsimp only at N k
  conv at N in lamBod readLam => whnf
  conv at N in lamPar readLam => whnf
  conv at N in lamSco readLam => whnf
  have X₀ := C.kin
  have F₀ := C.fr
  k_dflt (refine' enter (binds := [("self", .ref x)]) C N ?ho ?hcd ?hroom ?hb ?hl ?_ ?hc ?h1 ?h2 ?h3; (case ho => k_is); (case hcd => k_is); (case hroom => k_room); (case hb => exact BindsTo.of_eq rfl); (case hl => exact locs rfl); (case hc => decide); (case h1 => exact rfl); (case h2 => exact rfl); (case h3 => exact rfl))
  k_whole
  clear X₀ F₀
  intro base outer env L' h₁ p loose mean mg mb F' N' B' X' T' hlt
  have H85 := codeHd85 X'
  have eF : some fr = some (env :: outer) := B'.stack
  injection eF with eF
  subst eF
  (try dsimp only); (try k_fold)
  repeat' (first | (k_unfold; (try dsimp only)) | ((with_reducible show wpAny _ _ (getMethod (Value.ref _) (Str.ofString "read") _) _ _ _); (k_dflt (refine' getMethod_fn ?zqk1 ?zqk2 ?_; (case zqk1 => exact News.get (by k_asm) (by k_mem)); (case zqk2 => exact News.get (by k_asm) (by k_mem)); k_whole)); (try dsimp only)) | ((with_reducible show wpAny _ _ (call (Value.builtin _) [Value.ref _]) _ _ _); k_dflt (refine' pop_snoc ?zqF ?zqN ?zqU ?zqz ?_; (case zqF => k_asm); (case zqN => k_asm); (case zqU => k_upd); (case zqz => assumption)); (intro _ _ zN'; (try dsimp only [List.nil_append, List.cons_append] at zN'); (try k_sweep))) | ((with_reducible show wpAny _ _ (truthy (Value.ref _)) _ _ _); (k_dflt (first | (refine' truthy_snoc ?zqk1 ?zqk2 ?_; (case zqk1 => exact News.isList (by k_asm) (by k_mem)); (case zqk2 => assumption); k_whole) | (refine' truthy_nil ?zqk1 ?_; (case zqk1 => exact News.isList (by k_asm) (by k_mem)); k_whole)))) | (k_end; wrow_close) | walk1 | (dsimp only; walk1) | (leave1; walk_say "STEP leave1"; try dsimp only) | fail "no step")
  all_goals dsimp only
  all_goals refine ⟨_, _, _, by k_asm, by k_asm, fun hag hN => ?_⟩
  all_goals first
    | (rw [lnBehind_t (by assumption)] at k; exact k _ _ _ hag hN)
    | (rw [lnBehind_f (by assumption)] at k; exact k _ _ _ hag hN)

theorem read_none {w : World} {dp un : Nat} {gd : Option (List Code)} {fr : List Env} {h₀ : Heap} {L : Addr} {m : Str → Option Value} {s : Shared} {R : Result → Shared → Prop}
    {r : Rd} {ln : Int} {u1 : Tok} {n : Nat} {pl : List Value} {pn : Nat}
    (C : Cx w (AA dp un gd fr) h₀ L m s.heap) (hA : dp ≤ 500) (ok : r.Ok)
    (N : News h₀ L s.heap (lexNews r ln u1 [] n pl pn))
    (k : ∀ h' tk tc, Agree r.adr s.heap h' → News h₀ L h' (lexNews r ln u1 [] n pl pn) → R (.ok (.ret (.str (Str.ofString "") tc))) { s with heap := h', toks := tk }) :
    codeAny (model PySem.Challenge.rw_pg0121_01.row.prog w) (AA dp un gd fr) (.call (.ref 58) ⟨[.ref r.x], []⟩) R s := by
  obtain ⟨o1, o2, o3, o4, o5, o6, o7, o8, d1, d2, d3⟩ := ok
  obtain ⟨x, dx, st, sd, rd, c, cs, sg, pb, h1, h2, h3, h4, h5, t1, t2, t3, t4, t5, u3, tq, fd, fsl, pm, ctv, qn, oc, ocs, vs⟩ := r
  dsimp only at *
  unfold lexNews at N k
  dsimp only at N k
  conv at N in lamBod readLam => whnf
  conv at N in lamPar readLam => whnf
  conv at N in lamSco readLam => whnf
  have X₀ := C.kin
  have F₀ := C.fr
  k_dflt (refine' enter (binds := [("self", .ref x)]) C N ?ho ?hcd ?hroom ?hb ?hl ?_ ?hc ?h1 ?h2 ?h3; (case ho => k_is); (case hcd => k_is); (case hroom => k_room); (case hb => exact BindsTo.of_eq rfl); (case hl => exact locs rfl); (case hc => decide); (case h1 => exact rfl); (case h2 => exact rfl); (case h3 => exact rfl))
  k_whole
  clear X₀ F₀
  intro base outer env L' h₁ p loose mean mg mb F' N' B' X' T' hlt
  have H85 := codeHd85 X'
  have eF : some fr = some (env :: outer) := B'.stack
  injection eF with eF
  subst eF
  (try dsimp only); (try k_fold)
  repeat' (first | (k_unfold; (try dsimp only)) | ((with_reducible show wpAny _ _ (getMethod (Value.ref _) (Str.ofString "read") _) _ _ _); (k_dflt (refine' getMethod_fn ?zqk1 ?zqk2 ?_; (case zqk1 => exact News.get (by k_asm) (by k_mem)); (case zqk2 => exact News.get (by k_asm) (by k_mem)); k_whole)); (try dsimp only)) | ((with_reducible show wpAny _ _ (call (Value.builtin _) [Value.ref _]) _ _ _); k_dflt (refine' pop_snoc ?zqF ?zqN ?zqU ?zqz ?_; (case zqF => k_asm); (case zqN => k_asm); (case zqU => k_upd); (case zqz => assumption)); (intro _ _ zN'; (try dsimp only [List.nil_append, List.cons_append] at zN'); (try k_sweep))) | ((with_reducible show wpAny _ _ (truthy (Value.ref _)) _ _ _); (k_dflt (first | (refine' truthy_snoc ?zqk1 ?zqk2 ?_; (case zqk1 => exact News.isList (by k_asm) (by k_mem)); (case zqk2 => assumption); k_whole) | (refine' truthy_nil ?zqk1 ?_; (case zqk1 => exact News.isList (by k_asm) (by k_mem)); k_whole)))) | (k_end; wrow_close) | walk1 | (dsimp only; walk1) | (leave1; walk_say "STEP leave1"; try dsimp only) | fail "no step")
  all_goals dsimp only
  all_goals refine ⟨_, _, _, by k_asm, by k_asm, fun hag hN => ?_⟩
  all_goals exact k _ _ _ hag hN
end Mine
end

section
open PySem PySem.W PyProof.Rows
namespace Mine
theorem anew5 : True ∧ True := by
  walk1
  w_top off
  all_goals exact True.intro
end Mine
end

section
open PySem PySem.W PySem.Calls PyProof.Rows
set_option maxRecDepth 100000
set_option maxHeartbeats 1000000
namespace Mine

section
variable {prog : Program} {w : World} {A : Around} {s : Shared}
theorem forLoop_turn {R : Result → Shared → Prop} {target it body orelse env}
    (h : wpAny (model prog w) A (pyNext it) (fun r s₁ => match r with
      | none => wpAny (model prog w) A (execs orelse env) (fun f s₃ => R (.ok f) s₃) (fun _ _ => False) s₁
      | some v => wpAny (model prog w) A (assign target env v) (fun _ s₂ => wpAny (model prog w) A (execs body env) (fun f s₃ => match f with
          | .next | .cont => codeAny (model prog w) A (.forLoop target it body orelse env) R s₃
          | .brk => R (.ok .next) s₃
          | .ret v => R (.ok (.ret v)) s₃) (fun _ _ => False) s₂) (fun _ _ => False) s₁) (fun _ _ => False) s)
    (ht : ∀ v, letOwnedTupleGo target it v = pure () := by intro _; rfl) : codeAny (model prog w) A (.forLoop target it body orelse env) R s := by
  refine codeAny_of_tree ?_
  show wpAny _ _ ((forTurn target it body orelse env).onRaise (fun x => do noteFrame x env; theTreesLotGoes x)) _ _ s
  refine wpAny_noted ?_
  simp only [forTurn]
  refine wpAny_bind (wpAny_standAt (wpAny_bind (wpAny_onRaise (wpAny_mono h (fun r s₁ h₁ => ?_) fun _ _ h' => h'.elim))))
  cases r with
  | none => exact wpAny_pure ⟨rfl, codeAny_block (wpAny_mono h₁ (fun _ _ x => x) fun _ _ x => x.elim)⟩
  | some v =>
    refine wpAny_bind (wpAny_of_eq (ht v) ?_)
    refine wpAny_bind (wpAny_mono h₁ (fun _ s₂ h₂ => wpAny_bind (wpAny_mono h₂ (fun f s₃ h₃ => ?_) fun _ _ h' => h'.elim)) fun _ _ h' => h'.elim)
    cases f with
    | next => exact wpAny_pure ⟨rfl, h₃⟩
    | cont => exact wpAny_pure ⟨rfl, h₃⟩
    | brk => exact wpAny_pure h₃
    | ret v => exact wpAny_pure h₃
end

/-- the signs of the stream, the next one last -/
inductive SignsAre : List Value → List Nat → Prop
  | nil : SignsAre [] []
  | snoc {sl : List Value} {cs : List Nat} (c : Nat) (t : Tok) : SignsAre sl cs → SignsAre (sl ++ [.str ⟨#[c]⟩ t]) (c :: cs)
theorem SignsAre.length {sl : List Value} {cs : List Nat} (h : SignsAre sl cs) : sl.length = cs.length := by
  induction h with
  | nil => rfl
  | snoc c t _ ih => simp [ih]

noncomputable def one (c : Nat) : Str := ⟨#[c]⟩
noncomputable def isWs (c : Nat) : Bool := c == 10 || c == 9 || c == 13 || c == 32

/-- within quotation marks -/
inductive QRun : List Nat → Str → Str → List Nat → Prop
  | fin (r : List Nat) (t : Str) : QRun (34 :: r) t t r
  | esc (d : Nat) {r : List Nat} {t t' : Str} {r' : List Nat} : QRun r (t ++ one d) t' r' → QRun (92 :: d :: r) t t' r'
  | chr (c : Nat) {r : List Nat} {t t' : Str} {r' : List Nat} : c ≠ 34 → c ≠ 92 → QRun r (t ++ one c) t' r' → QRun (c :: r) t t' r'
/-- a bare word -/
inductive BRun : List Nat → Str → Str → List Nat → Prop
  | fin (c : Nat) (r : List Nat) (t : Str) : isWs c = true → BRun (c :: r) t t r
  | esc (d : Nat) {r : List Nat} {t t' : Str} {r' : List Nat} : BRun r (t ++ one d) t' r' → BRun (92 :: d :: r) t t' r'
  | chr (c : Nat) {r : List Nat} {t t' : Str} {r' : List Nat} : isWs c = false → c ≠ 92 → BRun r (t ++ one c) t' r' → BRun (c :: r) t t' r'
/-- a word -/
inductive TRun : List Nat → Str → List Nat → Prop
  | skip (c : Nat) {r : List Nat} {t : Str} {r' : List Nat} : isWs c = true → TRun r t r' → TRun (c :: r) t r'
  | quote {r : List Nat} {t : Str} {r' : List Nat} : QRun r (Str.ofString "") t r' → TRun (34 :: r) t r'
  | esc (d : Nat) {r : List Nat} {t : Str} {r' : List Nat} : BRun r (Str.ofString "" ++ one d) t r' → TRun (92 :: d :: r) t r'
  | chr (c : Nat) {r : List Nat} {t : Str} {r' : List Nat} : isWs c = false → c ≠ 34 → c ≠ 92 → BRun r (Str.ofString "" ++ one c) t r' → TRun (c :: r) t r'

noncomputable def classDef : List Stmt := match PySem.Challenge.pw_pg0121_01.main.body.getD 6 (.Pass ⟨0, 0, 0, 0⟩) with
  | .ClassDef _ _ _ b _ _ _ _ _ _ _ => b
  | _ => []
noncomputable def gtDef : Stmt := classDef.getD 2 (.Pass ⟨0, 0, 0, 0⟩)
noncomputable def gtBody : List Stmt := stBody gtDef
noncomputable def outerFor : Stmt := gtBody.getD 3 (.Pass ⟨0, 0, 0, 0⟩)
noncomputable def outerBody : List Stmt := stBody outerFor
noncomputable def elseOf : Stmt → List Stmt
  | .If _ _ o _ => o
  | _ => []
noncomputable def qFor : Stmt := (stBody (outerBody.getD 1 (.Pass ⟨0, 0, 0, 0⟩))).getD 0 (.Pass ⟨0, 0, 0, 0⟩)
noncomputable def bFor : Stmt := (elseOf (outerBody.getD 1 (.Pass ⟨0, 0, 0, 0⟩))).getD 2 (.Pass ⟨0, 0, 0, 0⟩)
noncomputable def forTarget : Stmt → Expr
  | .For t _ _ _ _ => t
  | _ => .Constant .none 0 ⟨0, 0, 0, 0⟩

noncomputable abbrev gtEnv (L : Addr) : Env := envOf (Str.ofString "_netrclex.get_token") (stScope gtDef) L 65 (.ref 64)

theorem after_fr {h₀ h h' : Heap} {L : Addr} {m : Str → Option Value} {news : List (Addr × Obj)} (F : Fr h₀ L h m) (N : News h₀ L h news) (hag : Agree (news.map (·.1)) h h') : Fr h₀ L h' m := by
  obtain ⟨oL, es, ep, hL, r⟩ := F.ns
  refine ⟨⟨oL, es, ep, hag L oL hL fun q => ?_, r⟩, fun b o e => hag b o (F.keep b o e) fun q => ?_, F.above⟩
  · obtain ⟨p, hp, e⟩ := List.mem_map.mp q
    exact (N p hp).2.1 e
  · obtain ⟨p, hp, rfl⟩ := List.mem_map.mp q
    rw [(N p hp).2.2] at e; cases e
theorem after_news {h₀ h h' : Heap} {L : Addr} {S : List Addr} {news : List (Addr × Obj)} (N : News h₀ L h news) (hag : Agree S h h') (hn : ∀ p ∈ news, p.1 ∉ S) : News h₀ L h' news :=
  fun p hp => ⟨hag _ _ (N p hp).1 (hn p hp), (N p hp).2⟩
theorem news_app {h₀ h : Heap} {L : Addr} {a b : List (Addr × Obj)} (A : News h₀ L h a) (B : News h₀ L h b) : News h₀ L h (a ++ b) :=
  fun p hp => (List.mem_append.mp hp).elim (A p) (B p)
theorem news_left {h₀ h : Heap} {L : Addr} {a b : List (Addr × Obj)} (N : News h₀ L h (a ++ b)) : News h₀ L h a := fun p hp => N p (List.mem_append_left _ hp)
theorem news_right {h₀ h : Heap} {L : Addr} {a b : List (Addr × Obj)} (N : News h₀ L h (a ++ b)) : News h₀ L h b := fun p hp => N p (List.mem_append_right _ hp)
end Mine
end

section
open PySem PySem.W PyProof.Rows
namespace Mine
theorem anew6 : True ∧ True := by
  walk1
  w_top off
  all_goals exact True.intro
end Mine
end

section
open PySem PySem.W PySem.Calls PyProof.Rows
set_option maxRecDepth 100000
set_option maxHeartbeats 1000000
namespace Mine

noncomputable def nl (l : List Nat) : Int := (l.count 10 : Nat)
theorem nl_cons (c : Nat) (l : List Nat) (ln : Int) : lnBehind c ln + nl l = ln + nl (c :: l) := by
  by_cases h : c = 10
  · subst h
    rw [lnBehind_t (by decide +kernel)]
    simp [nl]; omega
  · have : ((⟨#[c]⟩ : Str) == Str.ofString "\n") = false := by
      rw [beq_eq_false_iff_ne]
      intro e
      have e2 : (#[c] : Array Nat) = #[10] := by
        have := congrArg Str.cps e
        rw [show (Str.ofString "\n").cps = #[10] from by decide +kernel] at this
        exact this
      simp at e2
      exact h e2
    rw [lnBehind_f this]
    simp [nl, h]

theorem one_ne {c d : Nat} {x : Str} (hx : x.cps = #[d]) (h : c ≠ d) : ((⟨#[c]⟩ : Str) == x) = false := by
  rw [beq_eq_false_iff_ne]
  intro e
  have e2 : (#[c] : Array Nat) = #[d] := (congrArg Str.cps e).trans hx
  simp at e2
  exact h e2
theorem fr3 {g h : Heap} {L : Addr} {m : Str → Option Value} {a b c : Str} {va vb vc : Value} (F : Fr g L h m) (h1 : m a = some va) (h2 : m b = some vb) (h3 : m c = some vc) :
    Fr g L h (fun y => if y = a then some va else if y = b then some vb else if y = c then some vc else m y) := by
  have : (fun y => if y = a then some va else if y = b then some vb else if y = c then some vc else m y) = m := by
    funext y
    by_cases e1 : y = a
    · rw [if_pos e1, e1, h1]
    · rw [if_neg e1]
      by_cases e2 : y = b
      · rw [if_pos e2, e2, h2]
      · rw [if_neg e2]
        by_cases e3 : y = c
        · rw [if_pos e3, e3, h3]
        · rw [if_neg e3]
  rw [this]; exact F

/-- what get_token has beside the reader -/
noncomputable abbrev gtNews (r : Rd) (q it : Addr) (ts : Tok) : List (Addr × Obj) := [(q, methodObj (.ref 58) (.ref r.x)), (it, citObj (.ref q) (.str (Str.ofString "") ts))]

theorem gt_cx {w : World} {dp un : Nat} {gd : Option (List Code)} {fr : List Env} {base g : Heap} {L : Addr} {m : Str → Option Value} {h : Heap} {p loose mean mg mb} {un' : Nat}
    (B : Below (AA dp un gd fr) base fr g) (F : Fr g L h m) (X : (hd.heap_1 w.params).In g) (T : Top p loose mean mg mb g) :
    Cx w (AA (dp + 1) un' gd (gtEnv L :: fr)) g L m h := ⟨F, X, ⟨AA dp un gd fr, base, fr, gtEnv L, p, loose, mean, mg, mb, B, T, rfl, rfl, rfl⟩⟩

theorem ninE {q a : Addr} {S : List Addr} (h1 : q ≠ a) (h2 : q ∉ S) : q ∉ a :: S := fun h => by
  rcases List.mem_cons.mp h with e | e
  · exact h1 e
  · exact h2 e
/-- what lies above a reader's objects is none of them -/
theorem adr_above {r : Rd} {a : Addr} (o : r.Ok) (h : @LT.lt Nat _ r.pb a) : a ∉ r.adr := by
  have e7 := Nat.lt_trans o.o8 h
  have e6 := Nat.lt_trans o.o7 e7
  have e5 := Nat.lt_trans o.o6 e6
  have e4 := Nat.lt_trans o.o5 e5
  have e3 := Nat.lt_trans o.o4 e4
  have e2 := Nat.lt_trans o.o3 e3
  have e1 := Nat.lt_trans o.o2 e2
  have e0 := Nat.lt_trans o.o1 e1
  exact ninE (Nat.ne_of_gt e7) (ninE (Nat.ne_of_gt e6) (ninE (Nat.ne_of_gt e2) (ninE (Nat.ne_of_gt e5) (ninE (Nat.ne_of_gt e4) (ninE (Nat.ne_of_gt e3) (ninE (Nat.ne_of_gt e1) (ninE (Nat.ne_of_gt e0) (ninE (Nat.ne_of_gt h) (by simp)))))))))
theorem adr_ne2 {r : Rd} {a : Addr} (ok : r.Ok) (hs : a ≠ r.sg) (hf : @LT.lt Nat _ a r.cs) : a ∉ r.adr := by
  obtain ⟨o1, o2, o3, o4, o5, o6, o7, o8, d1, d2, d3⟩ := ok
  have e2 := Nat.lt_trans hf o2
  have e3 := Nat.lt_trans e2 o3
  have e4 := Nat.lt_trans e3 o4
  have e5 := Nat.lt_trans e4 o5
  have e6 := Nat.lt_trans e5 o6
  have e7 := Nat.lt_trans e6 o7
  have e8 := Nat.lt_trans e7 o8
  exact ninE (Nat.ne_of_lt e7) (ninE (Nat.ne_of_lt e6) (ninE (Nat.ne_of_lt e2) (ninE (Nat.ne_of_lt e5) (ninE (Nat.ne_of_lt e4) (ninE (Nat.ne_of_lt e3) (ninE (Nat.ne_of_lt hf) (ninE hs (ninE (Nat.ne_of_lt e8) (by simp)))))))))
theorem gt_off {r : Rd} {q it : Addr} {ts : Tok} (o : r.Ok) (oq : @LT.lt Nat _ r.pb q) (oi : @LT.lt Nat _ q it) : ∀ p ∈ gtNews r q it ts, p.1 ∉ r.adr := by
  intro p hp
  rcases List.mem_cons.mp hp with rfl | hp
  · exact adr_above o oq
  · rw [List.mem_singleton.mp hp]
    exact adr_above o (Nat.lt_trans oq oi)

theorem next_sign {w : World} {dp un : Nat} {gd : Option (List Code)} {fr : List Env} {base g : Heap} {L : Addr} {m : Str → Option Value} {s : Shared} {p loose mean mg mb} {E : Value → Shared → Prop}
    {r : Rd} {ln : Int} {u1 : Tok} {sl : List Value} {n : Nat} {pl : List Value} {pn : Nat} {ch : Nat} {tc : Tok} {q it : Addr} {ts : Tok} {Q : Option Value → Shared → Prop}
    (B : Below (AA dp un gd fr) base fr g) (X : (hd.heap_1 w.params).In g) (T : Top p loose mean mg mb g) (F : Fr g L s.heap m)
    (hA : dp ≤ 490) (hz : sl.length < 100000) (ok : r.Ok) (oq : @LT.lt Nat _ r.pb q) (oi : @LT.lt Nat _ q it)
    (N : News g L s.heap (lexNews r ln u1 (sl ++ [Value.str ⟨#[ch]⟩ tc]) n pl pn ++ gtNews r q it ts))
    (k : ∀ h' tk u1', Fr g L h' m → News g L h' (lexNews r (lnBehind ch ln) u1' sl (n + 1) pl pn ++ gtNews r q it ts) → Q (some (.str ⟨#[ch]⟩ tc)) { s with heap := h', toks := tk }) :
    wpAny (model PySem.Challenge.rw_pg0121_01.row.prog w) ((AA dp un gd fr).deeper (gtEnv L)) (pyNext (.ref it)) Q E s := by
  have h58 : ∃ of fd, s.heap.get? 58 = some of ∧ of.data = .func fd := by
    have X' := X.keeps F.keep
    have e : ∃ o, (hd.heap_1 w.params).lookup 58 = some o ∧ ∃ fd, o.data = .func fd := ⟨_, rfl, _, rfl⟩
    obtain ⟨o, e1, fd, e2⟩ := e
    exact ⟨o, fd, X' _ _ e1, e2⟩
  obtain ⟨of, fd, hf, hfd⟩ := h58
  have Nl := news_left N
  have Nr := news_right N
  have o := ok
  have hoff : ∀ p ∈ gtNews r q it ts, p.1 ∉ r.adr := gt_off o oq oi
  refine pyNext_cit (Nr (it, _) (.tail _ (.head _))).1 (Nr (q, _) (.head _)).1 hf hfd ?_
  refine read_char (gt_cx B F X T) (show dp + 1 ≤ 500 by omega) hz ok Nl fun h' tk u1' hag hN => ?_
  have Nr' := after_news Nr hag hoff
  refine ⟨(Nr' (it, _) (.tail _ (.head _))).1, _, _, rfl, ?_, k _ _ _ (after_fr F Nl hag) (news_app hN Nr')⟩
  intro e
  have := congrArg (fun x => x.cps.size) e
  rw [show (Str.ofString "").cps.size = 0 from by decide +kernel] at this
  simp at this

theorem read_here {w : World} {dp un : Nat} {gd : Option (List Code)} {fr : List Env} {base g : Heap} {L : Addr} {m : Str → Option Value} {s : Shared} {p loose mean mg mb} {E : Value → Shared → Prop}
    {r : Rd} {ln : Int} {u1 : Tok} {sl : List Value} {n : Nat} {pl : List Value} {pn : Nat} {ch : Nat} {tc : Tok} {q it : Addr} {ts : Tok} {Q : Value → Shared → Prop}
    (B : Below (AA dp un gd fr) base fr g) (X : (hd.heap_1 w.params).In g) (T : Top p loose mean mg mb g) (F : Fr g L s.heap m)
    (hA : dp ≤ 490) (hz : sl.length < 100000) (ok : r.Ok) (oq : @LT.lt Nat _ r.pb q) (oi : @LT.lt Nat _ q it)
    (N : News g L s.heap (lexNews r ln u1 (sl ++ [Value.str ⟨#[ch]⟩ tc]) n pl pn ++ gtNews r q it ts))
    (k : ∀ h' tk u1', Fr g L h' m → News g L h' (lexNews r (lnBehind ch ln) u1' sl (n + 1) pl pn ++ gtNews r q it ts) → Q (.str ⟨#[ch]⟩ tc) { s with heap := h', toks := tk }) :
    wpAny (model PySem.Challenge.rw_pg0121_01.row.prog w) ((AA dp un gd fr).deeper (gtEnv L)) (call (.ref 58) [.ref r.x]) Q E s :=
  wpAny_call (read_char (gt_cx B F X T) (show dp + 1 ≤ 500 by omega) hz ok (news_left N) fun h' tk u1' hag hN =>
    k _ _ _ (after_fr F (news_left N) hag) (news_app hN (after_news (news_right N) hag (gt_off ok oq oi))))


theorem q_loop {rest : List Nat} {t₀ t : Str} {r' : List Nat} (hq : QRun rest t₀ t r') : ∀ {w : World} {dp un : Nat} {gd : Option (List Code)} {fr : List Env} {base g : Heap} {L : Addr} {m : Str → Option Value} {s : Shared} {p loose mean mg mb}
    {r : Rd} {ln : Int} {u1 : Tok} {sl : List Value} {n : Nat} {pl : List Value} {pn : Nat} {q it : Addr} {ts tt : Tok} {R : Result → Shared → Prop}
    (B : Below (AA dp un gd fr) base fr g) (X : (hd.heap_1 w.params).In g) (T : Top p loose mean mg mb g) (F : Fr g L s.heap m)
    (hm1 : m (Str.ofString "self") = some (.ref r.x)) (hm2 : m (Str.ofString "fiter") = some (.ref it)) (hm3 : m (Str.ofString "token") = some (.str t₀ tt))
    (hA : dp ≤ 490) (hz : rest.length < 1000) (ht : t₀.length + rest.length < 1000) (hs : SignsAre sl rest) (ok : r.Ok) (oq : @LT.lt Nat _ r.pb q) (oi : @LT.lt Nat _ q it)
    (N : News g L s.heap (lexNews r ln u1 sl n pl pn ++ gtNews r q it ts))
    (k : ∀ h' tk m' sl' n' ln' u1' t', Fr g L h' m' → News g L h' (lexNews r ln' u1' sl' n' pl pn ++ gtNews r q it ts) → SignsAre sl' r' → ln' + nl r' = ln + nl rest → R (.ok (.ret (.str t t'))) { s with heap := h', toks := tk }),
    codeAny (model PySem.Challenge.rw_pg0121_01.row.prog w) ((AA dp un gd fr).deeper (gtEnv L)) (.forLoop (forTarget qFor) (.ref it) (stBody qFor) [] (gtEnv L)) R s := by
  induction hq with
  | fin r1 t1 =>
    intro w dp un gd fr base g L m s p loose mean mg mb r ln u1 sl n pl pn q it ts tt R B X T F hm1 hm2 hm3 hA hz ht hs ok oq oi N k
    cases hs with
    | snoc c tc hs =>
    have hl := hs.length
    simp only [List.length_cons] at hz ht
    refine forLoop_turn (next_sign B X T F hA (by omega) ok oq oi N fun h' tk u1' F' N' => ?_)
    clear F N
    have F2 := fr3 F' hm1 hm2 hm3
    clear F'
    dsimp only
    conv in forTarget qFor => whnf
    conv in stBody qFor => whnf
    refine wpAny_assign_Name ?_
    repeat' (first | (k_unfold; (try dsimp only)) | ((with_reducible show wpAny _ _ (call (Value.ref 58) _) _ _ _); (k_dflt (refine' read_here ?zqB ?zqX ?zqT ?zqF ?zqhA ?zqhz ?zqok ?zqoq ?zqoi ?zqN ?_; (case zqB => assumption); (case zqX => assumption); (case zqT => assumption); (case zqF => assumption); (case zqN => assumption); (case zqhA => assumption); (case zqhz => assumption); (case zqok => assumption); (case zqoq => assumption); (case zqoi => assumption))); k_whole; intro _ _ _ _ _; (try k_sweep)) | (k_end; wrow_close) | walk1 | (dsimp only; walk1) | (leave1; walk_say "STEP leave1"; try dsimp only) | fail "no step")
    exact k _ _ _ _ _ _ _ _ (by k_asm) (by k_asm) hs (nl_cons _ _ _)
  | esc d hq ih =>
    intro w dp un gd fr base g L m s p loose mean mg mb r ln u1 sl n pl pn q it ts tt R B X T F hm1 hm2 hm3 hA hz ht hs ok oq oi N k
    cases hs with
    | snoc c tc hs =>
    cases hs with
    | snoc c td hs =>
    rename_i sl
    have hl := hs.length
    simp only [List.length_cons] at hz ht
    have hz2 : sl.length < 100000 := by omega
    refine forLoop_turn (next_sign B X T F hA (by simp; omega) ok oq oi N fun h' tk u1' F' N' => ?_)
    clear F N
    have F2 := fr3 F' hm1 hm2 hm3
    clear F'
    dsimp only
    conv in forTarget qFor => whnf
    conv in stBody qFor => whnf
    refine wpAny_assign_Name ?_
    repeat' (first | (k_unfold; (try dsimp only)) | ((with_reducible show wpAny _ _ (call (Value.ref 58) _) _ _ _); (k_dflt (refine' read_here ?zqB ?zqX ?zqT ?zqF ?zqhA ?zqhz ?zqok ?zqoq ?zqoi ?zqN ?_; (case zqB => assumption); (case zqX => assumption); (case zqT => assumption); (case zqF => assumption); (case zqN => assumption); (case zqhA => assumption); (case zqhz => assumption); (case zqok => assumption); (case zqoq => assumption); (case zqoi => assumption))); k_whole; intro _ _ _ _ _; (try k_sweep)) | (k_end; wrow_close) | walk1 | (dsimp only; walk1) | (leave1; walk_say "STEP leave1"; try dsimp only) | fail "no step")
    all_goals refine ih B X T (by k_asm) rfl rfl rfl hA (by omega) ?_ hs ok oq oi (by k_asm) (fun h' tk m' sl' n' ln' u1' t' F' N' hs' hln => k _ _ _ _ _ _ _ _ F' N' hs' ?_)
    · rw [Str.length_append]; show _ + 1 + _ < 1000; omega
    · rw [hln, nl_cons, nl_cons]
  | chr c h1 h2 hq ih =>
    intro w dp un gd fr base g L m s p loose mean mg mb r ln u1 sl n pl pn q it ts tt R B X T F hm1 hm2 hm3 hA hz ht hs ok oq oi N k
    cases hs with
    | snoc c tc hs =>
    have hl := hs.length
    simp only [List.length_cons] at hz ht
    refine forLoop_turn (next_sign B X T F hA (by omega) ok oq oi N fun h' tk u1' F' N' => ?_)
    clear F N
    have F2 := fr3 F' hm1 hm2 hm3
    clear F'
    have e1 : ((⟨#[c]⟩ : Str) == Str.ofString "\"") = false := one_ne (d := 34) (by decide +kernel) h1
    have e2 : ((⟨#[c]⟩ : Str) == Str.ofString "\\") = false := one_ne (d := 92) (by decide +kernel) h2
    dsimp only
    conv in forTarget qFor => whnf
    conv in stBody qFor => whnf
    refine wpAny_assign_Name ?_
    repeat' (first | (k_unfold; (try dsimp only)) | ((with_reducible show wpAny _ _ (call (Value.ref 58) _) _ _ _); (k_dflt (refine' read_here ?zqB ?zqX ?zqT ?zqF ?zqhA ?zqhz ?zqok ?zqoq ?zqoi ?zqN ?_; (case zqB => assumption); (case zqX => assumption); (case zqT => assumption); (case zqF => assumption); (case zqN => assumption); (case zqhA => assumption); (case zqhz => assumption); (case zqok => assumption); (case zqoq => assumption); (case zqoi => assumption))); k_whole; intro _ _ _ _ _; (try k_sweep)) | (k_end; wrow_close) | walk1 | (dsimp only; walk1) | (leave1; walk_say "STEP leave1"; try dsimp only) | fail "no step")
    all_goals refine ih B X T (by k_asm) rfl rfl rfl hA (by omega) ?_ hs ok oq oi (by k_asm) (fun h' tk m' sl' n' ln' u1' t' F' N' hs' hln => k _ _ _ _ _ _ _ _ F' N' hs' ?_)
    · rw [Str.length_append]; show _ + 1 + _ < 1000; omega
    · rw [hln, nl_cons]
end Mine
end

section
open PySem PySem.W PyProof.Rows
namespace Mine
theorem anew7 : True ∧ True := by
  walk1
  w_top off
  all_goals exact True.intro
end Mine
end

section
open PySem PySem.W PySem.Calls PyProof.Rows
set_option maxRecDepth 100000
set_option maxHeartbeats 1000000
namespace Mine

theorem in_ws {prog : Program} {w : World} {A : Around} {E : Value → Shared → Prop} {s : Shared} {c : Nat} {u t : Tok} {Q : Value → Shared → Prop} (h : Q (.bool (isWs c)) s) :
    wpAny (model prog w) A (compareOp .In (.str ⟨#[c]⟩ u) (.str (Str.ofString "\n\t\r ") t)) Q E s := by
  refine PyProof.Rows.in_str ?_
  have e : (!(Builtin.Str.occurrences (Str.ofString "\n\t\r ") ⟨#[c]⟩ 0 (Str.ofString "\n\t\r ").length 1).isEmpty) = isWs c := by
    refine (StrLaws.found_one _ _).trans ?_
    rw [show (Str.ofString "\n\t\r ").cps.toList = [10, 9, 13, 32] from by decide +kernel]
    unfold isWs
    simp only [List.mem_cons, List.not_mem_nil, or_false, Bool.decide_or]
    simp only [← Bool.or_assoc]
    rfl
  rw [e]; exact h

theorem b_loop {rest : List Nat} {t₀ t : Str} {r' : List Nat} (hq : BRun rest t₀ t r') : ∀ {w : World} {dp un : Nat} {gd : Option (List Code)} {fr : List Env} {base g : Heap} {L : Addr} {m : Str → Option Value} {s : Shared} {p loose mean mg mb}
    {r : Rd} {ln : Int} {u1 : Tok} {sl : List Value} {n : Nat} {pl : List Value} {pn : Nat} {q it : Addr} {ts tt : Tok} {R : Result → Shared → Prop}
    (B : Below (AA dp un gd fr) base fr g) (X : (hd.heap_1 w.params).In g) (T : Top p loose mean mg mb g) (F : Fr g L s.heap m)
    (hm1 : m (Str.ofString "self") = some (.ref r.x)) (hm2 : m (Str.ofString "fiter") = some (.ref it)) (hm3 : m (Str.ofString "token") = some (.str t₀ tt))
    (hA : dp ≤ 490) (hz : rest.length < 1000) (ht : t₀.length + rest.length < 1000) (hs : SignsAre sl rest) (ok : r.Ok) (oq : @LT.lt Nat _ r.pb q) (oi : @LT.lt Nat _ q it)
    (N : News g L s.heap (lexNews r ln u1 sl n pl pn ++ gtNews r q it ts))
    (k : ∀ h' tk m' sl' n' ln' u1' t', Fr g L h' m' → News g L h' (lexNews r ln' u1' sl' n' pl pn ++ gtNews r q it ts) → SignsAre sl' r' → ln' + nl r' = ln + nl rest → R (.ok (.ret (.str t t'))) { s with heap := h', toks := tk }),
    codeAny (model PySem.Challenge.rw_pg0121_01.row.prog w) ((AA dp un gd fr).deeper (gtEnv L)) (.forLoop (forTarget bFor) (.ref it) (stBody bFor) [] (gtEnv L)) R s := by
  induction hq with
  | fin c r1 t1 hws =>
    intro w dp un gd fr base g L m s p loose mean mg mb r ln u1 sl n pl pn q it ts tt R B X T F hm1 hm2 hm3 hA hz ht hs ok oq oi N k
    cases hs with
    | snoc c tc hs =>
    have hl := hs.length
    simp only [List.length_cons] at hz ht
    refine forLoop_turn (next_sign B X T F hA (by omega) ok oq oi N fun h' tk u1' F' N' => ?_)
    clear F N
    have F2 := fr3 F' hm1 hm2 hm3
    clear F'
    dsimp only
    conv in forTarget bFor => whnf
    conv in stBody bFor => whnf
    refine wpAny_assign_Name ?_
    repeat' (first | (k_unfold; (try dsimp only)) | ((with_reducible show wpAny _ _ (compareOp CmpOp.In (Value.str _ _) (Value.str _ _)) _ _ _); k_dflt (refine in_ws ?_)) | ((with_reducible show wpAny _ _ (call (Value.ref 58) _) _ _ _); (k_dflt (refine' read_here ?zqB ?zqX ?zqT ?zqF ?zqhA ?zqhz ?zqok ?zqoq ?zqoi ?zqN ?_; (case zqB => assumption); (case zqX => assumption); (case zqT => assumption); (case zqF => assumption); (case zqN => assumption); (case zqhA => assumption); (case zqhz => assumption); (case zqok => assumption); (case zqoq => assumption); (case zqoi => assumption))); k_whole; intro _ _ _ _ _; (try k_sweep)) | (k_end; wrow_close) | walk1 | (dsimp only; walk1) | (leave1; walk_say "STEP leave1"; try dsimp only) | fail "no step")
    exact k _ _ _ _ _ _ _ _ (by k_asm) (by k_asm) hs (nl_cons _ _ _)
  | esc d hq ih =>
    intro w dp un gd fr base g L m s p loose mean mg mb r ln u1 sl n pl pn q it ts tt R B X T F hm1 hm2 hm3 hA hz ht hs ok oq oi N k
    cases hs with
    | snoc c tc hs =>
    cases hs with
    | snoc c td hs =>
    rename_i sl
    have hl := hs.length
    simp only [List.length_cons] at hz ht
    have hz2 : sl.length < 100000 := by omega
    have hws : isWs 92 = false := by decide
    refine forLoop_turn (next_sign B X T F hA (by simp; omega) ok oq oi N fun h' tk u1' F' N' => ?_)
    clear F N
    have F2 := fr3 F' hm1 hm2 hm3
    clear F'
    dsimp only
    conv in forTarget bFor => whnf
    conv in stBody bFor => whnf
    refine wpAny_assign_Name ?_
    repeat' (first | (k_unfold; (try dsimp only)) | ((with_reducible show wpAny _ _ (compareOp CmpOp.In (Value.str _ _) (Value.str _ _)) _ _ _); k_dflt (refine in_ws ?_)) | ((with_reducible show wpAny _ _ (call (Value.ref 58) _) _ _ _); (k_dflt (refine' read_here ?zqB ?zqX ?zqT ?zqF ?zqhA ?zqhz ?zqok ?zqoq ?zqoi ?zqN ?_; (case zqB => assumption); (case zqX => assumption); (case zqT => assumption); (case zqF => assumption); (case zqN => assumption); (case zqhA => assumption); (case zqhz => assumption); (case zqok => assumption); (case zqoq => assumption); (case zqoi => assumption))); k_whole; intro _ _ _ _ _; (try k_sweep)) | (k_end; wrow_close) | walk1 | (dsimp only; walk1) | (leave1; walk_say "STEP leave1"; try dsimp only) | fail "no step")
    all_goals refine ih B X T (by k_asm) rfl rfl rfl hA (by omega) ?_ hs ok oq oi (by k_asm) (fun h' tk m' sl' n' ln' u1' t' F' N' hs' hln => k _ _ _ _ _ _ _ _ F' N' hs' ?_)
    · rw [Str.length_append]; show _ + 1 + _ < 1000; omega
    · rw [hln, nl_cons, nl_cons]
  | chr c h1 h2 hq ih =>
    intro w dp un gd fr base g L m s p loose mean mg mb r ln u1 sl n pl pn q it ts tt R B X T F hm1 hm2 hm3 hA hz ht hs ok oq oi N k
    cases hs with
    | snoc c tc hs =>
    have hl := hs.length
    simp only [List.length_cons] at hz ht
    refine forLoop_turn (next_sign B X T F hA (by omega) ok oq oi N fun h' tk u1' F' N' => ?_)
    clear F N
    have F2 := fr3 F' hm1 hm2 hm3
    clear F'
    have e2 : ((⟨#[c]⟩ : Str) == Str.ofString "\\") = false := one_ne (d := 92) (by decide +kernel) h2
    dsimp only
    conv in forTarget bFor => whnf
    conv in stBody bFor => whnf
    refine wpAny_assign_Name ?_
    repeat' (first | (k_unfold; (try dsimp only)) | ((with_reducible show wpAny _ _ (compareOp CmpOp.In (Value.str _ _) (Value.str _ _)) _ _ _); k_dflt (refine in_ws ?_)) | ((with_reducible show wpAny _ _ (call (Value.ref 58) _) _ _ _); (k_dflt (refine' read_here ?zqB ?zqX ?zqT ?zqF ?zqhA ?zqhz ?zqok ?zqoq ?zqoi ?zqN ?_; (case zqB => assumption); (case zqX => assumption); (case zqT => assumption); (case zqF => assumption); (case zqN => assumption); (case zqhA => assumption); (case zqhz => assumption); (case zqok => assumption); (case zqoq => assumption); (case zqoi => assumption))); k_whole; intro _ _ _ _ _; (try k_sweep)) | (k_end; wrow_close) | walk1 | (dsimp only; walk1) | (leave1; walk_say "STEP leave1"; try dsimp only) | fail "no step")
    all_goals refine ih B X T (by k_asm) rfl rfl rfl hA (by omega) ?_ hs ok oq oi (by k_asm) (fun h' tk m' sl' n' ln' u1' t' F' N' hs' hln => k _ _ _ _ _ _ _ _ F' N' hs' ?_)
    · rw [Str.length_append]; show _ + 1 + _ < 1000; omega
    · rw [hln, nl_cons]
end Mine
end

section
open PySem PySem.W PyProof.Rows
namespace Mine
theorem anew8 : True ∧ True := by
  walk1
  w_top off
  all_goals exact True.intro
end Mine
end

section
open PySem PySem.W PySem.Calls PyProof.Rows
set_option maxRecDepth 100000
set_option maxHeartbeats 1000000
namespace Mine

theorem t_loop {rest : List Nat} {t : Str} {r' : List Nat} (hq : TRun rest t r') : ∀ {w : World} {dp un : Nat} {gd : Option (List Code)} {fr : List Env} {base g : Heap} {L : Addr} {m : Str → Option Value} {s : Shared} {p loose mean mg mb}
    {r : Rd} {ln : Int} {u1 : Tok} {sl : List Value} {n : Nat} {pl : List Value} {pn : Nat} {q it : Addr} {ts tt : Tok} {R : Result → Shared → Prop}
    (B : Below (AA dp un gd fr) base fr g) (X : (hd.heap_1 w.params).In g) (T : Top p loose mean mg mb g) (F : Fr g L s.heap m)
    (hm1 : m (Str.ofString "self") = some (.ref r.x)) (hm2 : m (Str.ofString "fiter") = some (.ref it)) (hm3 : m (Str.ofString "token") = some (.str (Str.ofString "") tt))
    (hA : dp ≤ 490) (hz : rest.length < 990) (hs : SignsAre sl rest) (ok : r.Ok) (oq : @LT.lt Nat _ r.pb q) (oi : @LT.lt Nat _ q it)
    (N : News g L s.heap (lexNews r ln u1 sl n pl pn ++ gtNews r q it ts))
    (k : ∀ h' tk m' sl' n' ln' u1' t', Fr g L h' m' → News g L h' (lexNews r ln' u1' sl' n' pl pn ++ gtNews r q it ts) → SignsAre sl' r' → ln' + nl r' = ln + nl rest → R (.ok (.ret (.str t t'))) { s with heap := h', toks := tk }),
    codeAny (model PySem.Challenge.rw_pg0121_01.row.prog w) ((AA dp un gd fr).deeper (gtEnv L)) (.forLoop (forTarget outerFor) (.ref it) outerBody [] (gtEnv L)) R s := by
  induction hq with
  | skip c hws hq ih =>
    intro w dp un gd fr base g L m s p loose mean mg mb r ln u1 sl n pl pn q it ts tt R B X T F hm1 hm2 hm3 hA hz hs ok oq oi N k
    cases hs with
    | snoc c tc hs =>
    have hl := hs.length
    simp only [List.length_cons] at hz
    refine forLoop_turn (next_sign B X T F hA (by omega) ok oq oi N fun h' tk u1' F' N' => ?_)
    clear F N
    have F2 := fr3 F' hm1 hm2 hm3
    clear F'
    dsimp only
    conv in forTarget outerFor => whnf
    conv in outerBody => whnf
    refine wpAny_assign_Name ?_
    repeat' (first | (k_unfold; (try dsimp only)) | ((with_reducible show wpAny _ _ (pyIter (Value.ref _)) _ _ _); (k_dflt (refine' pyIter_cit ?zqa ?zqb ?_; (case zqa => exact News.get (by k_asm) (List.mem_append_right _ (.tail _ (.head _)))); (case zqb => exact rfl)))) | ((with_reducible show wpAny _ _ (exec (Stmt.For _ (Expr.Name _ _) _ _ _) _) _ _ _); (k_dflt (refine wpAny_For ?_))) | ((with_reducible show wpAny _ _ (compareOp CmpOp.In (Value.str _ _) (Value.str _ _)) _ _ _); k_dflt (refine in_ws ?_)) | ((with_reducible show wpAny _ _ (call (Value.ref 58) _) _ _ _); (k_dflt (refine' read_here ?zqB ?zqX ?zqT ?zqF ?zqhA ?zqhz ?zqok ?zqoq ?zqoi ?zqN ?_; (case zqB => assumption); (case zqX => assumption); (case zqT => assumption); (case zqF => assumption); (case zqN => assumption); (case zqhA => assumption); (case zqhz => assumption); (case zqok => assumption); (case zqoq => assumption); (case zqoi => assumption))); k_whole; intro _ _ _ _ _; (try k_sweep)) | (k_end; wrow_close) | walk1 | (dsimp only; walk1) | (leave1; walk_say "STEP leave1"; try dsimp only) | fail "no step")
    all_goals refine ih B X T (by k_asm) rfl rfl rfl hA (by omega) hs ok oq oi (by k_asm) (fun h' tk m' sl' n' ln' u1' t' F' N' hs' hln => k _ _ _ _ _ _ _ _ F' N' hs' ?_)
    · rw [hln, nl_cons]
  | quote hq =>
    intro w dp un gd fr base g L m s p loose mean mg mb r ln u1 sl n pl pn q it ts tt R B X T F hm1 hm2 hm3 hA hz hs ok oq oi N k
    cases hs with
    | snoc c tc hs =>
    have hl := hs.length
    simp only [List.length_cons] at hz
    have hws : isWs 34 = false := by decide
    refine forLoop_turn (next_sign B X T F hA (by omega) ok oq oi N fun h' tk u1' F' N' => ?_)
    clear F N
    have F2 := fr3 F' hm1 hm2 hm3
    clear F'
    dsimp only
    conv in forTarget outerFor => whnf
    conv in outerBody => whnf
    refine wpAny_assign_Name ?_
    repeat' (first | (k_unfold; (try dsimp only)) | ((with_reducible show wpAny _ _ (pyIter (Value.ref _)) _ _ _); (k_dflt (refine' pyIter_cit ?zqa ?zqb ?_; (case zqa => exact News.get (by k_asm) (List.mem_append_right _ (.tail _ (.head _)))); (case zqb => exact rfl)))) | ((with_reducible show wpAny _ _ (exec (Stmt.For _ (Expr.Name _ _) _ _ _) _) _ _ _); (k_dflt (refine wpAny_For ?_))) | ((with_reducible show wpAny _ _ (compareOp CmpOp.In (Value.str _ _) (Value.str _ _)) _ _ _); k_dflt (refine in_ws ?_)) | ((with_reducible show wpAny _ _ (call (Value.ref 58) _) _ _ _); (k_dflt (refine' read_here ?zqB ?zqX ?zqT ?zqF ?zqhA ?zqhz ?zqok ?zqoq ?zqoi ?zqN ?_; (case zqB => assumption); (case zqX => assumption); (case zqT => assumption); (case zqF => assumption); (case zqN => assumption); (case zqhA => assumption); (case zqhz => assumption); (case zqok => assumption); (case zqoq => assumption); (case zqoi => assumption))); k_whole; intro _ _ _ _ _; (try k_sweep)) | (k_end; wrow_close) | walk1 | (dsimp only; walk1) | (leave1; walk_say "STEP leave1"; try dsimp only) | fail "no step")
    refine q_loop hq B X T (by k_asm) rfl rfl rfl hA (by omega) ?_ hs ok oq oi (by k_asm) (fun h' tk m' sl' n' ln' u1' t' F' N' hs' hln => k _ _ _ _ _ _ _ _ F' N' hs' ?_)
    · show 0 + _ < 1000; omega
    · rw [hln, nl_cons]
  | esc d hq =>
    intro w dp un gd fr base g L m s p loose mean mg mb r ln u1 sl n pl pn q it ts tt R B X T F hm1 hm2 hm3 hA hz hs ok oq oi N k
    cases hs with
    | snoc c tc hs =>
    cases hs with
    | snoc c td hs =>
    rename_i sl
    have hl := hs.length
    simp only [List.length_cons] at hz
    have hz2 : sl.length < 100000 := by omega
    have hws : isWs 92 = false := by decide
    refine forLoop_turn (next_sign B X T F hA (by simp; omega) ok oq oi N fun h' tk u1' F' N' => ?_)
    clear F N
    have F2 := fr3 F' hm1 hm2 hm3
    clear F'
    dsimp only
    conv in forTarget outerFor => whnf
    conv in outerBody => whnf
    refine wpAny_assign_Name ?_
    repeat' (first | (k_unfold; (try dsimp only)) | ((with_reducible show wpAny _ _ (pyIter (Value.ref _)) _ _ _); (k_dflt (refine' pyIter_cit ?zqa ?zqb ?_; (case zqa => exact News.get (by k_asm) (List.mem_append_right _ (.tail _ (.head _)))); (case zqb => exact rfl)))) | ((with_reducible show wpAny _ _ (exec (Stmt.For _ (Expr.Name _ _) _ _ _) _) _ _ _); (k_dflt (refine wpAny_For ?_))) | ((with_reducible show wpAny _ _ (compareOp CmpOp.In (Value.str _ _) (Value.str _ _)) _ _ _); k_dflt (refine in_ws ?_)) | ((with_reducible show wpAny _ _ (call (Value.ref 58) _) _ _ _); (k_dflt (refine' read_here ?zqB ?zqX ?zqT ?zqF ?zqhA ?zqhz ?zqok ?zqoq ?zqoi ?zqN ?_; (case zqB => assumption); (case zqX => assumption); (case zqT => assumption); (case zqF => assumption); (case zqN => assumption); (case zqhA => assumption); (case zqhz => assumption); (case zqok => assumption); (case zqoq => assumption); (case zqoi => assumption))); k_whole; intro _ _ _ _ _; (try k_sweep)) | (k_end; wrow_close) | walk1 | (dsimp only; walk1) | (leave1; walk_say "STEP leave1"; try dsimp only) | fail "no step")
    refine b_loop hq B X T (by k_asm) rfl rfl rfl hA (by omega) ?_ hs ok oq oi (by k_asm) (fun h' tk m' sl' n' ln' u1' t' F' N' hs' hln => k _ _ _ _ _ _ _ _ F' N' hs' ?_)
    · rw [Str.length_append]; show 0 + 1 + _ < 1000; omega
    · rw [hln, nl_cons, nl_cons]
  | chr c h1 h2 h3 hq =>
    intro w dp un gd fr base g L m s p loose mean mg mb r ln u1 sl n pl pn q it ts tt R B X T F hm1 hm2 hm3 hA hz hs ok oq oi N k
    cases hs with
    | snoc c tc hs =>
    have hl := hs.length
    simp only [List.length_cons] at hz
    refine forLoop_turn (next_sign B X T F hA (by omega) ok oq oi N fun h' tk u1' F' N' => ?_)
    clear F N
    have F2 := fr3 F' hm1 hm2 hm3
    clear F'
    have e1 : ((⟨#[c]⟩ : Str) == Str.ofString "\"") = false := one_ne (d := 34) (by decide +kernel) h2
    have e2 : ((⟨#[c]⟩ : Str) == Str.ofString "\\") = false := one_ne (d := 92) (by decide +kernel) h3
    dsimp only
    conv in forTarget outerFor => whnf
    conv in outerBody => whnf
    refine wpAny_assign_Name ?_
    repeat' (first | (k_unfold; (try dsimp only)) | ((with_reducible show wpAny _ _ (pyIter (Value.ref _)) _ _ _); (k_dflt (refine' pyIter_cit ?zqa ?zqb ?_; (case zqa => exact News.get (by k_asm) (List.mem_append_right _ (.tail _ (.head _)))); (case zqb => exact rfl)))) | ((with_reducible show wpAny _ _ (exec (Stmt.For _ (Expr.Name _ _) _ _ _) _) _ _ _); (k_dflt (refine wpAny_For ?_))) | ((with_reducible show wpAny _ _ (compareOp CmpOp.In (Value.str _ _) (Value.str _ _)) _ _ _); k_dflt (refine in_ws ?_)) | ((with_reducible show wpAny _ _ (call (Value.ref 58) _) _ _ _); (k_dflt (refine' read_here ?zqB ?zqX ?zqT ?zqF ?zqhA ?zqhz ?zqok ?zqoq ?zqoi ?zqN ?_; (case zqB => assumption); (case zqX => assumption); (case zqT => assumption); (case zqF => assumption); (case zqN => assumption); (case zqhA => assumption); (case zqhz => assumption); (case zqok => assumption); (case zqoq => assumption); (case zqoi => assumption))); k_whole; intro _ _ _ _ _; (try k_sweep)) | (k_end; wrow_close) | walk1 | (dsimp only; walk1) | (leave1; walk_say "STEP leave1"; try dsimp only) | fail "no step")
    refine b_loop hq B X T (by k_asm) rfl rfl rfl hA (by omega) ?_ hs ok oq oi (by k_asm) (fun h' tk m' sl' n' ln' u1' t' F' N' hs' hln => k _ _ _ _ _ _ _ _ F' N' hs' ?_)
    · rw [Str.length_append]; show 0 + 1 + _ < 1000; omega
    · rw [hln, nl_cons]
end Mine
end

section
open PySem PySem.W PyProof.Rows
namespace Mine
theorem anew9 : True ∧ True := by
  walk1
  w_top off
  all_goals exact True.intro
end Mine
end

section
open PySem PySem.W PySem.Calls PyProof.Rows
set_option maxRecDepth 100000
set_option maxHeartbeats 1000000
namespace Mine
theorem iter2_K {prog : Program} {w : World} {A : Around} {E : Value → Shared → Prop} {s : Shared} {h₀ : Heap} {L : Addr} {m : Str → Option Value} {news : List (Addr × Obj)} {q : Addr} {f self sent : Value} {Q : Value → Shared → Prop}
    (F : Fr h₀ L s.heap m) (N : News h₀ L s.heap news) (hq : (q, methodObj f self) ∈ news)
    (h : ∀ it h', Fr h₀ L h' m → News h₀ L h' ((it, citObj (.ref q) sent) :: news) → (∀ p ∈ news, p.1 < it) → Q (.ref it) { s with heap := h' }) :
    wpAny (model prog w) A (call (.builtin "iter") [.ref q, sent]) Q E s :=
  iter2_call (N _ hq).1 (h _ _ (F.push _) (N.push F _) fun p hp => Heap.lt_size (N p hp).1)

theorem news_back {h₀ h : Heap} {L : Addr} {a b : Addr × Obj} {l : List (Addr × Obj)} (N : News h₀ L h (a :: b :: l)) : News h₀ L h (l ++ [b, a]) := fun p hp => by
  rcases List.mem_append.mp hp with hp | hp
  · exact N p (.tail _ (.tail _ hp))
  · rcases List.mem_cons.mp hp with rfl | hp
    · exact N _ (.tail _ (.head _))
    · rcases List.mem_cons.mp hp with rfl | hp
      · exact N _ (.head _)
      · cases hp
theorem gt_read {w : World} {dp un : Nat} {gd : Option (List Code)} {fr : List Env} {h₀ : Heap} {L : Addr} {m : Str → Option Value} {s : Shared} {R : Result → Shared → Prop}
    {r : Rd} {ln : Int} {u1 : Tok} {sl : List Value} {n : Nat} {pn : Nat} {rest : List Nat} {t : Str} {rest' : List Nat}
    (hq : TRun rest t rest')
    (C : Cx w (AA dp un gd fr) h₀ L m s.heap) (hA : dp ≤ 490) (hz : rest.length < 990) (hs : SignsAre sl rest) (ok : r.Ok)
    (N : News h₀ L s.heap (lexNews r ln u1 sl n [] pn))
    (k : ∀ h' tk u1' sl' n' ln' t', Agree r.adr s.heap h' → News h₀ L h' (lexNews r ln' u1' sl' n' [] pn) → SignsAre sl' rest' → ln' + nl rest' = ln + nl rest → R (.ok (.ret (.str t t'))) { s with heap := h', toks := tk }) :
    codeAny (model PySem.Challenge.rw_pg0121_01.row.prog w) (AA dp un gd fr) (.call (.ref 65) ⟨[.ref r.x], []⟩) R s := by
  have X₀ := C.kin
  have F₀ := C.fr
  k_dflt (refine' enter (binds := [("self", .ref r.x)]) C N ?ho ?hcd ?hroom ?hb ?hl ?_ ?hc ?h1 ?h2 ?h3; (case ho => k_is); (case hcd => k_is); (case hroom => k_room); (case hb => exact BindsTo.of_eq rfl); (case hl => exact locs rfl); (case hc => decide); (case h1 => exact rfl); (case h2 => exact rfl); (case h3 => exact rfl))
  k_whole
  clear X₀ F₀
  intro base outer env L' h₁ p loose mean mg mb F' N' B' X' T' hlt
  have eF : some fr = some (env :: outer) := B'.stack
  injection eF with eF
  subst eF
  have l0 := hlt
  (try k_lt l0)
  (try dsimp only); (try k_fold)
  repeat' (first | (k_unfold; (try dsimp only)) | ((with_reducible show wpAny _ _ (pyIter (Value.ref _)) _ _ _); (k_dflt (refine' pyIter_cit ?zqa ?zqb ?_; (case zqa => exact News.get (by k_asm) (by k_mem)); (case zqb => exact rfl)))) | ((with_reducible show wpAny _ _ (exec (Stmt.For _ (Expr.Name _ _) _ _ _) _) _ _ _); (k_dflt (refine wpAny_For ?_))) | ((with_reducible show wpAny _ _ (call (Value.builtin "iter") _) _ _ _); (k_dflt (refine' iter2_K ?zqF ?zqN ?zqq ?_; (case zqF => k_asm); (case zqN => k_asm); (case zqq => k_mem); k_whole)); walk_at "In9") | ((with_reducible show wpAny _ _ (truthy (Value.ref _)) _ _ _); (k_dflt (first | (refine' truthy_snoc ?zqk1 ?zqk2 ?_; (case zqk1 => exact News.isList (by k_asm) (by k_mem)); (case zqk2 => assumption); k_whole) | (refine' truthy_nil ?zqk1 ?_; (case zqk1 => exact News.isList (by k_asm) (by k_mem)); k_whole)))) | (k_end; wrow_close) | walk1 | (dsimp only; walk1) | (leave1; walk_say "STEP leave1"; try dsimp only) | fail "no step")
  rename Fr _ _ _ _ => F9
  rename News _ _ _ _ => N9
  refine' t_loop hq B' X' T' F9 rfl rfl rfl hA hz hs ok ?oq ?oi (news_back N9) ?k
  case oq => refine ltN ?_; omega
  case oi => refine ltN ?_; omega
  refine (fun h' tk m' sl' n' ln' u1' t' F2 N2 hs' hln => ?_)
  exact ⟨_, _, _, F2, news_left N2, fun hag hN => k _ _ _ _ _ _ _ hag hN hs' hln⟩
end Mine
end

section
open PySem PySem.W PyProof.Rows
namespace Mine
theorem anew10 : True ∧ True := by
  walk1
  w_top off
  all_goals exact True.intro
end Mine
end

section
open PySem PySem.W PySem.Calls PyProof.Rows
set_option maxRecDepth 100000
set_option maxHeartbeats 1000000
namespace Mine

section
variable {prog : Program} {w : World} {A : Around} {E : Value → Shared → Prop} {s : Shared} {h₀ : Heap} {L D : Addr} {m : Str → Option Value} {news news' : List (Addr × Obj)} {n : Nat}
theorem pop_first {p : List Value} {y : Value} {u : Tok} {Q : Value → Shared → Prop} (F : Fr h₀ L s.heap m) (N : News h₀ L s.heap news) (U : Upd D (W.listOf (y :: p).toArray n) (W.listOf p.toArray (n + 1)) news news')
    (hz : p.length < 100000) (h : ∀ h', Fr h₀ L h' m → News h₀ L h' news' → Q y { s with heap := h' }) : wpAny (model prog w) A (call (.builtin "list.pop") [.ref D, .int 0 u]) Q E s :=
  kl_popAt (k := 0) (p := []) (q := p) (y := y) F N (by decide +kernel) (by simp [seqIndex?]) rfl U (by rw [sizeLine_eq]; simp; omega) h
theorem truthy_cons {p : List Value} {y : Value} {l : Addr} {Q : Bool → Shared → Prop} (hl : s.heap.IsList l (y :: p).toArray) (hz : p.length < 100000) (h : Q true { s with toks := s.toks + 1 + 1 }) :
    wpAny (model prog w) A (truthy (.ref l)) Q E s := by
  refine wpAny_truthy_list hl (by simp; omega) ?_
  rw [show (!(y :: p).toArray.isEmpty) = true from by simp]; exact h
end

theorem gt_push {w : World} {dp un : Nat} {gd : Option (List Code)} {fr : List Env} {h₀ : Heap} {L : Addr} {m : Str → Option Value} {s : Shared} {R : Result → Shared → Prop}
    {r : Rd} {ln : Int} {u1 : Tok} {sl : List Value} {n : Nat} {pn : Nat} {y : Value} {pl : List Value}
    (C : Cx w (AA dp un gd fr) h₀ L m s.heap) (hA : dp ≤ 490) (hz : pl.length < 100000) (ok : r.Ok)
    (N : News h₀ L s.heap (lexNews r ln u1 sl n (y :: pl) pn))
    (k : ∀ h' tk, Agree r.adr s.heap h' → News h₀ L h' (lexNews r ln u1 sl n pl (pn + 1)) → R (.ok (.ret y)) { s with heap := h', toks := tk }) :
    codeAny (model PySem.Challenge.rw_pg0121_01.row.prog w) (AA dp un gd fr) (.call (.ref 65) ⟨[.ref r.x], []⟩) R s := by
  have X₀ := C.kin
  have F₀ := C.fr
  obtain ⟨o1, o2, o3, o4, o5, o6, o7, o8, d1, d2, d3⟩ := ok
  k_dflt (refine' enter (binds := [("self", .ref r.x)]) C N ?ho ?hcd ?hroom ?hb ?hl ?_ ?hc ?h1 ?h2 ?h3; (case ho => k_is); (case hcd => k_is); (case hroom => k_room); (case hb => exact BindsTo.of_eq rfl); (case hl => exact locs rfl); (case hc => decide); (case h1 => exact rfl); (case h2 => exact rfl); (case h3 => exact rfl))
  k_whole
  clear X₀ F₀
  intro base outer env L' h₁ p loose mean mg mb F' N' B' X' T' hlt
  have eF : some fr = some (env :: outer) := B'.stack
  injection eF with eF
  subst eF
  (try dsimp only); (try k_fold)
  repeat' (first | (k_unfold; (try dsimp only)) | ((with_reducible show wpAny _ _ (call (Value.builtin "list.pop") _) _ _ _); k_dflt (refine' pop_first ?zqF ?zqN ?zqU ?zqz ?_; (case zqF => k_asm); (case zqN => k_asm); (case zqU => k_upd); (case zqz => assumption)); (intro _ _ zN'; (try dsimp only [List.nil_append, List.cons_append] at zN'); (try k_sweep))) | ((with_reducible show wpAny _ _ (truthy (Value.ref _)) _ _ _); (k_dflt (first | (refine' truthy_cons ?zqk1 ?zqk2 ?_; (case zqk1 => exact News.isList (by k_asm) (by k_mem)); (case zqk2 => assumption); k_whole) | (refine' truthy_nil ?zqk1 ?_; (case zqk1 => exact News.isList (by k_asm) (by k_mem)); k_whole)))) | (k_end; wrow_close) | walk1 | (dsimp only; walk1) | (leave1; walk_say "STEP leave1"; try dsimp only) | fail "no step")
  dsimp only
  refine ⟨_, _, _, by k_asm, by k_asm, fun hag hN => ?_⟩
  exact k _ _ hag hN

theorem push_tok {w : World} {dp un : Nat} {gd : Option (List Code)} {fr : List Env} {h₀ : Heap} {L : Addr} {m : Str → Option Value} {s : Shared} {R : Result → Shared → Prop}
    {r : Rd} {ln : Int} {u1 : Tok} {sl : List Value} {n : Nat} {pn : Nat} {y : Value} {pl : List Value}
    (C : Cx w (AA dp un gd fr) h₀ L m s.heap) (hA : dp ≤ 490) (hz : pl.length < 100000) (ok : r.Ok)
    (N : News h₀ L s.heap (lexNews r ln u1 sl n pl pn))
    (k : ∀ h' tk, Agree r.adr s.heap h' → News h₀ L h' (lexNews r ln u1 sl n (pl ++ [y]) (pn + 1)) → R (.ok (.ret .none)) { s with heap := h', toks := tk }) :
    codeAny (model PySem.Challenge.rw_pg0121_01.row.prog w) (AA dp un gd fr) (.call (.ref 72) ⟨[.ref r.x, y], []⟩) R s := by
  have X₀ := C.kin
  have F₀ := C.fr
  obtain ⟨o1, o2, o3, o4, o5, o6, o7, o8, d1, d2, d3⟩ := ok
  k_dflt (refine' enter (binds := [("self", .ref r.x), ("token", y)]) C N ?ho ?hcd ?hroom ?hb ?hl ?_ ?hc ?h1 ?h2 ?h3; (case ho => k_is); (case hcd => k_is); (case hroom => k_room); (case hb => exact BindsTo.of_eq rfl); (case hl => exact locs rfl); (case hc => decide); (case h1 => exact rfl); (case h2 => exact rfl); (case h3 => exact rfl))
  k_whole
  clear X₀ F₀
  intro base outer env L' h₁ p loose mean mg mb F' N' B' X' T' hlt
  have eF : some fr = some (env :: outer) := B'.stack
  injection eF with eF
  subst eF
  have hzz : pl.toArray.size ≤ sizeLine := by rw [sizeLine_eq]; simp; omega
  (try dsimp only); (try k_fold)
  repeat' (first | (k_unfold; (try dsimp only)) | ((with_reducible show wpAny _ _ (call (Value.builtin "list.pop") _) _ _ _); k_dflt (refine' pop_first ?zqF ?zqN ?zqU ?zqz ?_; (case zqF => k_asm); (case zqN => k_asm); (case zqU => k_upd); (case zqz => assumption)); (intro _ _ zN'; (try dsimp only [List.nil_append, List.cons_append] at zN'); (try k_sweep))) | ((with_reducible show wpAny _ _ (truthy (Value.ref _)) _ _ _); (k_dflt (first | (refine' truthy_cons ?zqk1 ?zqk2 ?_; (case zqk1 => exact News.isList (by k_asm) (by k_mem)); (case zqk2 => assumption); k_whole) | (refine' truthy_nil ?zqk1 ?_; (case zqk1 => exact News.isList (by k_asm) (by k_mem)); k_whole)))) | (k_end; wrow_close) | walk1 | (dsimp only; walk1) | (leave1; walk_say "STEP leave1"; try dsimp only) | fail "no step")
  refine ⟨_, _, _, by k_asm, by k_asm, fun hag hN => ?_⟩
  rw [List.push_toArray] at hN
  exact k _ _ hag hN

/-- the same, with the iterator through -/
noncomputable abbrev gtNewsE (r : Rd) (q it : Addr) : List (Addr × Obj) := [(q, methodObj (.ref 58) (.ref r.x)), (it, citEnd)]

theorem next_stop {w : World} {dp un : Nat} {gd : Option (List Code)} {fr : List Env} {base g : Heap} {L : Addr} {m : Str → Option Value} {s : Shared} {p loose mean mg mb} {E : Value → Shared → Prop}
    {r : Rd} {ln : Int} {u1 : Tok} {n : Nat} {pl : List Value} {pn : Nat} {q it : Addr} {ts : Tok} {Q : Option Value → Shared → Prop}
    (B : Below (AA dp un gd fr) base fr g) (X : (hd.heap_1 w.params).In g) (T : Top p loose mean mg mb g) (F : Fr g L s.heap m)
    (hA : dp ≤ 490) (ok : r.Ok) (oq : @LT.lt Nat _ r.pb q) (oi : @LT.lt Nat _ q it)
    (N : News g L s.heap (lexNews r ln u1 [] n pl pn ++ gtNews r q it ts))
    (k : ∀ h' tk, Fr g L h' m → News g L h' (lexNews r ln u1 [] n pl pn ++ gtNewsE r q it) → Q none { s with heap := h', toks := tk }) :
    wpAny (model PySem.Challenge.rw_pg0121_01.row.prog w) ((AA dp un gd fr).deeper (gtEnv L)) (pyNext (.ref it)) Q E s := by
  have h58 : ∃ of fd, g.get? 58 = some of ∧ of.data = .func fd := by
    have e : ∃ o, (hd.heap_1 w.params).lookup 58 = some o ∧ ∃ fd, o.data = .func fd := ⟨_, rfl, _, rfl⟩
    obtain ⟨o, e1, fd, e2⟩ := e
    exact ⟨o, fd, X _ _ e1, e2⟩
  obtain ⟨of, fd, hf, hfd⟩ := h58
  have Nl := news_left N
  have Nr := news_right N
  refine pyNext_citStop rfl (Nr (it, _) (.tail _ (.head _))).1 (Nr (q, _) (.head _)).1 (F.keep _ _ hf) hfd ?_
  refine read_none (gt_cx B F X T) (show dp + 1 ≤ 500 by omega) ok Nl fun h' tk tc hag hN => ?_
  have Nr' := after_news Nr hag (gt_off ok oq oi)
  have F' := after_fr F Nl hag
  refine ⟨(Nr' (it, _) (.tail _ (.head _))).1, (Nr' (q, _) (.head _)).1, F'.keep _ _ hf, ⟨_, rfl⟩, fun h2 ha2 hi2 => ?_⟩
  have itf := Nr' (it, citObj (.ref q) (.str (Str.ofString "") ts)) (.tail _ (.head _))
  have F2 : Fr g L h2 m := after_fr (news := [(it, citObj (.ref q) (.str (Str.ofString "") ts))]) F' (fun p hp => by rcases List.mem_cons.mp hp with rfl | hp; exact itf; cases hp) ha2
  have N2 : News g L h2 (lexNews r ln u1 [] n pl pn) := after_news hN ha2 fun p hp hm => adr_above ok (Nat.lt_trans oq oi) (by
    rw [← List.mem_singleton.mp hm]
    exact List.mem_map_of_mem (f := fun p : Addr × Obj => p.1) hp)
  refine k _ _ F2 (news_app N2 fun p hp => ?_)
  rcases List.mem_cons.mp hp with rfl | hp
  · have z := Nr' (q, _) (.head _)
    exact ⟨ha2 _ _ z.1 (fun hm => Nat.ne_of_lt oi (List.mem_singleton.mp hm)), z.2⟩
  · rcases List.mem_cons.mp hp with rfl | hp
    · exact ⟨hi2, itf.2⟩
    · cases hp
end Mine
end

section
open PySem PySem.W PyProof.Rows
namespace Mine
theorem anew11 : True ∧ True := by
  walk1
  w_top off
  all_goals exact True.intro
end Mine
end

section
open PySem PySem.W PySem.Calls PyProof.Rows
set_option maxRecDepth 100000
set_option maxHeartbeats 1000000
namespace Mine

theorem gt_eof {w : World} {dp un : Nat} {gd : Option (List Code)} {fr : List Env} {h₀ : Heap} {L : Addr} {m : Str → Option Value} {s : Shared} {R : Result → Shared → Prop}
    {r : Rd} {ln : Int} {u1 : Tok} {n : Nat} {pn : Nat}
    (C : Cx w (AA dp un gd fr) h₀ L m s.heap) (hA : dp ≤ 490) (ok : r.Ok)
    (N : News h₀ L s.heap (lexNews r ln u1 [] n [] pn))
    (k : ∀ h' tk t', Agree r.adr s.heap h' → News h₀ L h' (lexNews r ln u1 [] n [] pn) → R (.ok (.ret (.str (Str.ofString "") t'))) { s with heap := h', toks := tk }) :
    codeAny (model PySem.Challenge.rw_pg0121_01.row.prog w) (AA dp un gd fr) (.call (.ref 65) ⟨[.ref r.x], []⟩) R s := by
  have X₀ := C.kin
  have F₀ := C.fr
  k_dflt (refine' enter (binds := [("self", .ref r.x)]) C N ?ho ?hcd ?hroom ?hb ?hl ?_ ?hc ?h1 ?h2 ?h3; (case ho => k_is); (case hcd => k_is); (case hroom => k_room); (case hb => exact BindsTo.of_eq rfl); (case hl => exact locs rfl); (case hc => decide); (case h1 => exact rfl); (case h2 => exact rfl); (case h3 => exact rfl))
  k_whole
  clear X₀ F₀
  intro base outer env L' h₁ p loose mean mg mb F' N' B' X' T' hlt
  have eF : some fr = some (env :: outer) := B'.stack
  injection eF with eF
  subst eF
  have l0 := hlt
  (try k_lt l0)
  (try dsimp only); (try k_fold)
  repeat' (first | (k_unfold; (try dsimp only)) | ((with_reducible show wpAny _ _ (compareOp CmpOp.In (Value.str _ _) (Value.str _ _)) _ _ _); k_dflt (refine in_ws ?_)) | ((with_reducible show wpAny _ _ (pyIter (Value.ref _)) _ _ _); (k_dflt (refine' pyIter_cit ?zqa ?zqb ?_; (case zqa => first | exact News.get (by k_asm) (List.mem_append_right _ (.tail _ (.head _))) | exact News.get (by k_asm) (by k_mem)); (case zqb => exact rfl)))) | ((with_reducible show wpAny _ _ (exec (Stmt.For _ (Expr.Name _ _) _ _ _) _) _ _ _); (k_dflt (refine wpAny_For ?_))) | ((with_reducible show wpAny _ _ (call (Value.builtin "iter") _) _ _ _); (k_dflt (refine' iter2_K ?zqF ?zqN ?zqq ?_; (case zqF => k_asm); (case zqN => k_asm); (case zqq => k_mem); k_whole)); walk_at "In9") | ((with_reducible show wpAny _ _ (truthy (Value.ref _)) _ _ _); (k_dflt (refine' truthy_nil ?zqk1 ?_; (case zqk1 => exact News.isList (by k_asm) (by k_mem)); k_whole))) | (k_end; wrow_close) | walk1 | (dsimp only; walk1) | (leave1; walk_say "STEP leave1"; try dsimp only) | fail "no step")
  rename Fr _ _ _ _ => F9
  rename News _ _ _ _ => N9
  refine' forLoop_turn (next_stop B' X' T' F9 hA ok ?oq ?oi (news_back N9) ?k)
  case oq => refine ltN ?_; omega
  case oi => refine ltN ?_; omega
  intro h' tk F2 N2
  clear F9 N9
  refine wpAny_execs_nil ?_
  dsimp only
  repeat' (first | (k_unfold; (try dsimp only)) | ((with_reducible show wpAny _ _ (compareOp CmpOp.In (Value.str _ _) (Value.str _ _)) _ _ _); k_dflt (refine in_ws ?_)) | ((with_reducible show wpAny _ _ (pyIter (Value.ref _)) _ _ _); (k_dflt (refine' pyIter_cit ?zqa ?zqb ?_; (case zqa => first | exact News.get (by k_asm) (List.mem_append_right _ (.tail _ (.head _))) | exact News.get (by k_asm) (by k_mem)); (case zqb => exact rfl)))) | ((with_reducible show wpAny _ _ (exec (Stmt.For _ (Expr.Name _ _) _ _ _) _) _ _ _); (k_dflt (refine wpAny_For ?_))) | ((with_reducible show wpAny _ _ (call (Value.builtin "iter") _) _ _ _); (k_dflt (refine' iter2_K ?zqF ?zqN ?zqq ?_; (case zqF => k_asm); (case zqN => k_asm); (case zqq => k_mem); k_whole)); walk_at "In9") | ((with_reducible show wpAny _ _ (truthy (Value.ref _)) _ _ _); (k_dflt (refine' truthy_nil ?zqk1 ?_; (case zqk1 => exact News.isList (by k_asm) (by k_mem)); k_whole))) | (k_end; wrow_close) | walk1 | (dsimp only; walk1) | (leave1; walk_say "STEP leave1"; try dsimp only) | fail "no step")
  dsimp only
  exact ⟨_, _, _, F2, news_left N2, fun hag hN => k _ _ _ hag hN⟩

theorem z_loop {w : World} {dp un : Nat} {gd : Option (List Code)} {fr : List Env} {base g : Heap} {L : Addr} {m : Str → Option Value} {s : Shared} {p loose mean mg mb}
    {r : Rd} {ln : Int} {u1 : Tok} {n : Nat} {pl : List Value} {pn : Nat} {q it : Addr} {ts tt tc : Tok} {R : Result → Shared → Prop}
    (B : Below (AA dp un gd fr) base fr g) (X : (hd.heap_1 w.params).In g) (T : Top p loose mean mg mb g) (F : Fr g L s.heap m)
    (hm1 : m (Str.ofString "self") = some (.ref r.x)) (hm2 : m (Str.ofString "fiter") = some (.ref it)) (hm3 : m (Str.ofString "token") = some (.str (Str.ofString "") tt))
    (hA : dp ≤ 490) (ok : r.Ok) (oq : @LT.lt Nat _ r.pb q) (oi : @LT.lt Nat _ q it)
    (N : News g L s.heap (lexNews r ln u1 [Value.str ⟨#[122]⟩ tc] n pl pn ++ gtNews r q it ts))
    (k : ∀ h' tk (m' : Str → Option Value) n' u1' t', Fr g L h' (fun y => if y = Str.ofString "token" then some (.str (Str.ofString "z") t') else m' y) → News g L h' (lexNews r ln u1' [] n' pl pn ++ gtNewsE r q it) → R (.ok .next) { s with heap := h', toks := tk }) :
    codeAny (model PySem.Challenge.rw_pg0121_01.row.prog w) ((AA dp un gd fr).deeper (gtEnv L)) (.forLoop (forTarget outerFor) (.ref it) outerBody [] (gtEnv L)) R s := by
  have hln : lnBehind 122 ln = ln := lnBehind_f (by decide +kernel)
  refine forLoop_turn (next_sign (sl := []) B X T F hA (by decide) ok oq oi N fun h' tk u1' F' N' => ?_)
  rw [hln] at N'
  clear F N
  have F2 := fr3 F' hm1 hm2 hm3
  clear F'
  have hws : isWs 122 = false := by decide
  dsimp only
  conv in forTarget outerFor => whnf
  conv in outerBody => whnf
  refine wpAny_assign_Name ?_
  repeat' (first | (k_unfold; (try dsimp only)) | ((with_reducible show wpAny _ _ (compareOp CmpOp.In (Value.str _ _) (Value.str _ _)) _ _ _); k_dflt (refine in_ws ?_)) | ((with_reducible show wpAny _ _ (pyIter (Value.ref _)) _ _ _); (k_dflt (refine' pyIter_cit ?zqa ?zqb ?_; (case zqa => first | exact News.get (by k_asm) (List.mem_append_right _ (.tail _ (.head _))) | exact News.get (by k_asm) (by k_mem)); (case zqb => exact rfl)))) | ((with_reducible show wpAny _ _ (exec (Stmt.For _ (Expr.Name _ _) _ _ _) _) _ _ _); (k_dflt (refine wpAny_For ?_))) | ((with_reducible show wpAny _ _ (call (Value.builtin "iter") _) _ _ _); (k_dflt (refine' iter2_K ?zqF ?zqN ?zqq ?_; (case zqF => k_asm); (case zqN => k_asm); (case zqq => k_mem); k_whole)); walk_at "In9") | ((with_reducible show wpAny _ _ (truthy (Value.ref _)) _ _ _); (k_dflt (refine' truthy_nil ?zqk1 ?_; (case zqk1 => exact News.isList (by k_asm) (by k_mem)); k_whole))) | (k_end; wrow_close) | walk1 | (dsimp only; walk1) | (leave1; walk_say "STEP leave1"; try dsimp only) | fail "no step")
  rename Fr _ _ _ _ => F9
  rename News _ _ _ _ => N9
  refine forLoop_turn (next_stop B X T F9 hA ok oq oi N9 fun h2 tk2 F2 N2 => ?_)
  clear F9 N9
  refine wpAny_execs_nil ?_
  dsimp only
  refine wpAny_execs_nil ?_
  dsimp only
  refine wpAny_execs_nil ?_
  dsimp only
  refine forLoop_turn (pyNext_citEnded rfl (N2 (it, citEnd) (List.mem_append_right _ (.tail _ (.head _)))).1 fun h3 ha3 => ?_)
  dsimp only
  refine wpAny_execs_nil ?_
  refine k _ _ _ _ _ _ (after_fr (news := []) F2 News.nil ha3) (after_news N2 ha3 (by simp))
end Mine
end

section
open PySem PySem.W PyProof.Rows
namespace Mine
theorem anew12 : True ∧ True := by
  walk1
  w_top off
  all_goals exact True.intro
end Mine
end

section
open PySem PySem.W PySem.Calls PyProof.Rows
set_option maxRecDepth 100000
set_option maxHeartbeats 1000000
namespace Mine

noncomputable def bisDef : Stmt := PySem.Challenge.pw_pg0121_01.main.body.getD 1 (.Pass ⟨0, 0, 0, 0⟩)
noncomputable def bisWhile : Stmt := (stBody ((stBody bisDef).getD 2 (.Pass ⟨0, 0, 0, 0⟩))).getD 0 (.Pass ⟨0, 0, 0, 0⟩)
noncomputable abbrev bisEnv (L : Addr) : Env := envOf (Str.ofString "bisect_left") (stScope bisDef) L 23 (.ref 22)

theorem fr4 {g h : Heap} {L : Addr} {m : Str → Option Value} {a b c d : Str} {va vb vc vd : Value} (F : Fr g L h m) (h1 : m a = some va) (h2 : m b = some vb) (h3 : m c = some vc) (h4 : m d = some vd) :
    Fr g L h (fun y => if y = a then some va else if y = b then some vb else if y = c then some vc else if y = d then some vd else m y) := by
  have : (fun y => if y = a then some va else if y = b then some vb else if y = c then some vc else if y = d then some vd else m y) = m := by
    funext y
    by_cases e1 : y = a
    · rw [if_pos e1, e1, h1]
    · rw [if_neg e1]
      by_cases e2 : y = b
      · rw [if_pos e2, e2, h2]
      · rw [if_neg e2]
        by_cases e3 : y = c
        · rw [if_pos e3, e3, h3]
        · rw [if_neg e3]
          by_cases e4 : y = d
          · rw [if_pos e4, e4, h4]
          · rw [if_neg e4]
  rw [this]; exact F

/-- how many of the rising ns lie below x -/
noncomputable def Below' (ns : List Int) (x : Int) (c : Nat) : Prop := c ≤ ns.length ∧ (∀ i, i < c → ns.getD i 0 < x) ∧ ∀ i, c ≤ i → i < ns.length → ¬ ns.getD i 0 < x

theorem bis_loop {w : World} {dp un : Nat} {gd : Option (List Code)} {fr : List Env} {base g : Heap} {L l : Addr} {m : Str → Option Value} {s : Shared} {p loose mean mg mb}
    {vs : List Value} {ns : List Int} {x : Int} {tx t0 t1 : Tok} {Q : Flow → Shared → Prop}
    (B : Below (AA dp un gd fr) base fr g) (X : (hd.heap_1 w.params).In g) (T : Top p loose mean mg mb g) (F : Fr g L s.heap m)
    (gl : g.IsList l vs.toArray) (hi : IntsAre vs ns) (hz : ns.length ≤ 1000) (hA : dp ≤ 490)
    (hs : ∀ i j, i ≤ j → j < ns.length → ns.getD i 0 ≤ ns.getD j 0)
    (hm1 : m (Str.ofString "a") = some (.ref l)) (hm2 : m (Str.ofString "x") = some (.int x tx)) (hm3 : m (Str.ofString "lo") = some (.int 0 t0)) (hm4 : m (Str.ofString "hi") = some (.int (ns.length : Int) t1))
    (k : ∀ h' tk (m' : Str → Option Value) t c, Fr g L h' (fun y => if y = Str.ofString "lo" then some (.int (c : Nat) t) else m' y) → Below' ns x c → Q .next { s with heap := h', toks := tk }) :
    wpAny (model PySem.Challenge.rw_pg0121_01.row.prog w) ((AA dp un gd fr).deeper (bisEnv L)) (exec bisWhile (bisEnv L)) Q (fun _ _ => False) s := by
  conv in bisWhile => whnf
  refine While_inv2 (n₀ := ns.length) (fun n m₁ news₁ => ∃ lo hi' : Int, ∃ ta tb tc td, news₁ = [] ∧ m₁ (Str.ofString "a") = some (.ref l) ∧ m₁ (Str.ofString "x") = some (.int x ta) ∧ m₁ (Str.ofString "lo") = some (.int lo tb) ∧ m₁ (Str.ofString "hi") = some (.int hi' tc) ∧ td = tx ∧
    0 ≤ lo ∧ lo ≤ hi' ∧ hi' ≤ (ns.length : Int) ∧ (∀ i : Nat, (i : Int) < lo → ns.getD i 0 < x) ∧ (∀ i : Nat, hi' ≤ (i : Int) → i < ns.length → ¬ ns.getD i 0 < x) ∧ n = (hi' - lo).toNat) F News.nil
    ⟨0, ns.length, _, _, _, _, rfl, hm1, hm2, hm3, hm4, rfl, by omega, by omega, by omega, by omega, by omega, by omega⟩ ?_
  clear F hm1 hm2 hm3 hm4
  rintro n m₁ news₁ h₁ tk₁ F N ⟨lo, hi', ta, tb, tc, td, rfl, e1, e2, e3, e4, -, q1, q2, q3, q4, q5, q6⟩
  have F0 := F
  have F2 := fr4 F e1 e2 e3 e4
  clear F
  have fd := Int.fdiv_eq_ediv_of_nonneg (lo + hi') (show (0:Int) ≤ 2 by decide)
  k_steps
  · rename ns.getD _ 0 < x => c2
    rename Fr _ _ _ _ => F9
    have hmid : lo ≤ (lo + hi').fdiv 2 ∧ (lo + hi').fdiv 2 < hi' := by rw [fd]; omega
    clear fd
    generalize (lo + hi').fdiv 2 = mid at c2 F9 hmid ⊢
    obtain ⟨g1, g2⟩ := hmid
    refine ⟨_, _, _, [], (hi' - (mid + 1)).toNat, rfl, F9, News.nil, by omega, mid + 1, hi', _, _, _, tx, rfl, rfl, rfl, rfl, rfl, rfl, by omega, by omega, by omega, fun i h => ?_, q5, rfl⟩
    have h9 := hs i mid.toNat (by omega) (by omega)
    omega
  · rename ¬ ns.getD _ 0 < x => c2
    rename Fr _ _ _ _ => F9
    have hmid : lo ≤ (lo + hi').fdiv 2 ∧ (lo + hi').fdiv 2 < hi' := by rw [fd]; omega
    clear fd
    generalize (lo + hi').fdiv 2 = mid at c2 F9 hmid ⊢
    obtain ⟨g1, g2⟩ := hmid
    refine ⟨_, _, _, [], (mid - lo).toNat, rfl, F9, News.nil, by omega, lo, mid, _, _, _, tx, rfl, rfl, rfl, rfl, rfl, rfl, by omega, by omega, by omega, q4, fun i h h' => ?_, rfl⟩
    have h9 := hs mid.toNat i (by omega) (by omega)
    omega
  · have e : lo = ((lo.toNat : Nat) : Int) := by omega
    rw [e] at e3
    have F3 : Fr g L h₁ (fun y => if y = Str.ofString "lo" then some (.int ((lo.toNat : Nat) : Int) tb) else m₁ y) := by
      have : (fun y => if y = Str.ofString "lo" then some (.int ((lo.toNat : Nat) : Int) tb) else m₁ y) = m₁ := by
        funext y
        by_cases e1 : y = Str.ofString "lo"
        · rw [if_pos e1, e1, e3]
        · rw [if_neg e1]
      rw [this]; exact F0
    exact k _ _ _ _ _ F3 ⟨by omega, fun i h => q4 i (by omega), fun i h h' => q5 i (by omega) h'⟩

theorem bisect_spec {w : World} {dp un : Nat} {gd : Option (List Code)} {fr : List Env} {h₀ : Heap} {L l : Addr} {m : Str → Option Value} {s : Shared} {R : Result → Shared → Prop} {vs : List Value} {ns : List Int} {x : Int} {tx : Tok}
    (C : Cx w (AA dp un gd fr) h₀ L m s.heap) (hA : dp ≤ 490) (hl : s.heap.IsList l vs.toArray) (hi : IntsAre vs ns) (hz : ns.length ≤ 1000)
    (hs : ∀ i j, i ≤ j → j < ns.length → ns.getD i 0 ≤ ns.getD j 0)
    (k : ∀ h' tk t c, Agree [] s.heap h' → Below' ns x c → R (.ok (.ret (.int (c : Nat) t))) { s with heap := h', toks := tk }) :
    codeAny (model PySem.Challenge.rw_pg0121_01.row.prog w) (AA dp un gd fr) (.call (.ref 23) ⟨[.ref l, .int x tx], []⟩) R s := by
  have X₀ := C.kin
  have F₀ := C.fr
  k_dflt (refine' enter (binds := [("a", .ref l), ("x", .int x tx), ("lo", .int 0 189), ("hi", .none), ("key", .none)]) C News.nil ?ho ?hcd ?hroom ?hb ?hl ?_ ?hc ?h1 ?h2 ?h3; (case ho => k_is); (case hcd => k_is); (case hroom => k_room); (case hb => (refine' kp_binds ?kx ?ke; (case kx => k_in); (case ke => exact fun _ => rfl))); (case hl => exact locs rfl); (case hc => decide); (case h1 => exact rfl); (case h2 => exact rfl); (case h3 => exact rfl))
  k_whole
  clear X₀ F₀
  intro base outer env L' h₁ p loose mean mg mb F' N' B' X' T' hlt
  have eF : some fr = some (env :: outer) := B'.stack
  injection eF with eF
  subst eF
  have gl : (hideAll s.heap (List.map (·.1) ([] : List (Addr × Obj)))).IsList l vs.toArray := hl
  (try dsimp only); (try k_fold)
  repeat' (first | (k_unfold; (try dsimp only)) | ((with_reducible show wpAny _ _ (exec (Stmt.While _ _ _ _) _) _ _ _); (k_dflt (refine' bis_loop ?zqB ?zqX ?zqT ?zqF ?zqgl ?zqhi ?zqhz ?zqhA ?zqhs ?zqm1 ?zqm2 ?zqm3 ?zqm4 ?_; (case zqB => assumption); (case zqX => assumption); (case zqT => assumption); (case zqF => assumption); (case zqgl => assumption); (case zqhi => assumption); (case zqhz => assumption); (case zqhA => assumption); (case zqhs => assumption); (case zqm1 => exact rfl); (case zqm2 => exact rfl); (case zqm3 => exact rfl); (case zqm4 => exact rfl))); intro _ _ _ _ _ _ _) | (k_end; wrow_close) | walk1 | (dsimp only; walk1) | (leave1; walk_say "STEP leave1"; try dsimp only) | fail "no step")
  dsimp only
  exact ⟨_, _, _, by k_asm, News.nil, fun hag _ => k _ _ _ _ hag (by assumption)⟩
end Mine
end

section
open PySem PySem.W PyProof.Rows
namespace Mine
theorem anew13 : True ∧ True := by
  walk1
  w_top off
  all_goals exact True.intro
end Mine
end

section
open PySem PySem.W PySem.Calls PyProof.Rows
set_option maxRecDepth 100000
set_option maxHeartbeats 2000000
namespace Mine

section
variable {w : World} {A : Around} {h₀ : Heap} {L : Addr} {m : Str → Option Value} {s : Shared} {news : List (Addr × Obj)} {R : Result → Shared → Prop}
  {name qual : Str} {params : Arguments} {body : List Stmt} {scope : Scope} {dV kV doc pm cdv ct oc : Value} {an od : Option Addr} {osl : Array (Option Value)} {f : Addr} {args : Args} {binds : List (Str × Value)}
/-- `enter`, for a def with captured names -/
theorem enterC (C : Cx w A h₀ L m s.heap) (N : News h₀ L s.heap news)
    (ho : (hd.heap_1 w.params).lookup f = some ⟨oc, od, .func (fnOf name qual params body scope dV kV doc pm an cdv ct), osl⟩) (hcd : codeIn (hd.heap_1 w.params) cdv qual = true) (hroom : A.depth < recursionLimit)
    (hbind : BindsTo s (fnOf name qual params body scope dV kV doc pm an cdv ct) args binds)
    (hkind : (binds.all fun y => scope.names.lookup y.1 == some .local || scope.names.lookup y.1 == some .cell) = true)
    (hnd : ((cellsFrom 0 scope.names []).map (·.1)).Nodup)
    (h : ∀ base outer env L' h₁ tk cells p loose mean mg mb, Fr (hideAll s.heap (news.map (·.1))) L' h₁ (bindL (envOfC qual scope L' f cdv).kindOf binds fun _ => none) → News (hideAll s.heap (news.map (·.1))) L' h₁ (cells ++ news) →
      CellsAre (bindC (envOfC qual scope L' f cdv).kindOf binds fun _ => none) (cellsFrom (L' + 1) scope.names []) cells →
      Below A base (env :: outer) (hideAll s.heap (news.map (·.1))) → (hd.heap_1 w.params).In (hideAll s.heap (news.map (·.1))) → Top p loose mean mg mb (hideAll s.heap (news.map (·.1))) → (∀ p ∈ news, p.1 < L') →
      wpAny (model PySem.Challenge.rw_pg0121_01.row.prog w) (A.deeper (envOfC qual scope L' f cdv)) (execs body (envOfC qual scope L' f cdv))
        (fun fl s' => LeaveA (news.map (·.1)) s.heap h₀ L (hideAll s.heap (news.map (·.1))) R (match fl with | .ret v => v | _ => .none) s')
        (fun _ _ => False)
        { s with heap := h₁, toks := tk })
    (hco : scope.isCoroutine = false := by rfl) (hgen : scope.isGenerator = false := by rfl) (hk : scope.kind = .function := by rfl) :
    codeAny (model PySem.Challenge.rw_pg0121_01.row.prog w) A (.call (.ref f) args) R s := by
  obtain ⟨A₀, base, outer, env, p, loose, mean, mg, mb, B, T, hA, hf, hke⟩ := C.rest
  have F := C.fr
  obtain ⟨FG, BG, st, lv⟩ := groundX (R := R) B F N hA hf hke
  have X₀ := C.kin
  refine codeAny_call_function hroom ((X₀.keeps F.keep) _ _ ho) rfl hco hgen rfl (codeRec_of (X₀.keeps F.keep) hcd) (hbind _ _ _ _ ?_)
  refine wpAny_newFunctionEnv_cells hk (kindsX hkind _) fun env' he s' x => ?_
  subst he
  refine ⟨(T.nolimit.keeps F.keep).keeps x.toInCall.keep, codeAny_func ?_⟩
  obtain ⟨h₁, tk, rfl, _⟩ := x.done
  have hk₁ := x.toInCall.keep
  obtain ⟨cells, NC, Y⟩ := Cl.news (h₀ := s.heap) (Nat.le_refl _) fun n c hm => ⟨x.cell n c (lookup_of_mem_nodup (cellsFrom_names scope.names 0 (s.heap.objs.size + 1) [] [] rfl ▸ hnd) hm), x.above n c hm⟩
  refine wpAny_mono (h base outer env s.heap.objs.size h₁ tk cells p loose mean mg mb ⟨x.toInCall.ns, fun b o e => hk₁ b o (of_hideAll _ e), Nat.le_of_eq (hideAll_size _ _)⟩ (fun p hp => ?_) Y BG (X₀.keeps st) (T.keeps st) (fun p hp => Heap.lt_size (N p hp).1)) (fun fl s' hl => ?_) fun _ _ y => y.elim
  · rcases List.mem_append.mp hp with hp | hp
    · refine ⟨(NC p hp).1, (NC p hp).2.1, ?_⟩
      cases q : (hideAll s.heap (news.map (·.1))).get? p.1 with
      | none => rfl
      | some o => have := of_hideAll _ q; rw [(NC p hp).2.2] at this; cases this
    · exact ⟨hk₁ _ _ (N p hp).1, Nat.ne_of_lt (Heap.lt_size (N p hp).1), hideAll_none _ (List.mem_map_of_mem hp)⟩
  · obtain ⟨L', m', news', F', N', k⟩ := hl
    obtain ⟨oL, es, ep, hL, hLd, hLk, hLf⟩ := F.ns
    have nL : L ∉ news.map (·.1) := fun q => by
      obtain ⟨p, hp, e⟩ := List.mem_map.mp q
      exact (N p hp).2.1 e
    have hLg := hideAll_get (news.map (·.1)) hL nL
    refine k (fun b o e hb => F'.keep b o (hideAll_get _ e hb)) fun p hp => ⟨(N' p hp).1, fun q => ?_, ?_⟩
    · have := (N' p hp).2.2; rw [q, hLg] at this; cases this
    · cases q : h₀.get? p.1 with
      | none => rfl
      | some o => have := (N' p hp).2.2; rw [st _ _ q] at this; cases this
end

end Mine
end

section
open PySem PySem.W PyProof.Rows
namespace Mine
theorem anew14 : True ∧ True := by
  walk1
  w_top off
  all_goals exact True.intro
end Mine
end

section
open PySem PySem.W PySem.Calls PyProof.Rows
set_option maxRecDepth 100000
set_option maxHeartbeats 2000000
namespace Mine

noncomputable def defPos : Stmt → Pos
  | .FunctionDef _ _ _ _ _ _ _ _ _ p => p
  | _ => ⟨0, 0, 0, 0⟩
noncomputable def d2iPos : Pos := defPos ((stBody (PySem.Challenge.pw_pg0121_01.main.body.getD 4 (.Pass ⟨0, 0, 0, 0⟩))).getD 0 (.Pass ⟨0, 0, 0, 0⟩))
noncomputable def d2iQual : Str := Str.ofString "_digits2int" ++ Str.ofString ".<locals>." ++ Str.ofString "inner"
/-- the table that keeps inner's code -/
noncomputable abbrev tab32 (c : Addr) : Obj := tabObj #[rawInt d2iPos.line, rawInt d2iPos.col, .ref c]

theorem ret_eq {R : Result → Shared → Prop} {v v' : Int} {t : Tok} {s : Shared} (e : v = v') (h : R (.ok (.ret (.int v' t))) s) : R (.ok (.ret (.int v t))) s := e ▸ h
theorem pick3 {h₀ h : Heap} {L : Addr} {news : List (Addr × Obj)} {a b : Addr × Obj} {c : Addr} {oc : Obj} {vs : Array Value} (N : News h₀ L h news) (_ : oc.data = .fields vs) (h1 : a ∈ news) (h2 : b ∈ news) (h3 : (c, oc) ∈ news) : News h₀ L h [a, b, (c, oc)] := fun p hp => by
  rcases List.mem_cons.mp hp with rfl | hp
  · exact N _ h1
  · rcases List.mem_cons.mp hp with rfl | hp
    · exact N _ h2
    · rcases List.mem_cons.mp hp with rfl | hp
      · exact N _ h3
      · cases hp
end Mine
end

section
open PySem PySem.W PyProof.Rows
namespace Mine
theorem anew15 : True ∧ True := by
  walk1
  w_top off
  all_goals exact True.intro
end Mine
end

section
open PySem PySem.W PySem.Calls PyProof.Rows
set_option maxRecDepth 100000
set_option maxHeartbeats 2000000
namespace Mine

section
variable {w : World} {A : Around} {h₀ : Heap} {L : Addr} {m : Str → Option Value} {s : Shared} {news : List (Addr × Obj)} {R : Result → Shared → Prop}
  {name qual : Str} {params : Arguments} {body : List Stmt} {scope : Scope} {cl : List (Str × Addr)} {doc pm ctv : Value} {c' : Addr} {f : Addr} {args : Args} {binds : List (Str × Value)}
/-- `enter`, for a def made in the call -/
theorem enterN (C : Cx w A h₀ L m s.heap) (N : News h₀ L s.heap news)
    (ho : (f, fnMade name qual params body scope cl doc pm c' ctv) ∈ news) (hcd : s.heap.CodeRec (.ref c') qual) (hroom : A.depth < recursionLimit)
    (hbind : BindsTo s (fnX name qual params body scope cl .none .none doc pm none (.ref c') ctv) args binds) (hloc : ∀ y ∈ binds, scope.names.lookup y.1 = some .local)
    (h : ∀ base outer env L' h₁ p loose mean mg mb, Fr (hideAll s.heap (news.map (·.1))) L' h₁ (fun y => binds.reverse.lookup y) → News (hideAll s.heap (news.map (·.1))) L' h₁ news →
      Below A base (env :: outer) (hideAll s.heap (news.map (·.1))) → (hd.heap_1 w.params).In (hideAll s.heap (news.map (·.1))) → Top p loose mean mg mb (hideAll s.heap (news.map (·.1))) → (∀ p ∈ news, p.1 < L') →
      wpAny (model PySem.Challenge.rw_pg0121_01.row.prog w) (A.deeper (envX qual scope L' f (.ref c') cl)) (execs body (envX qual scope L' f (.ref c') cl))
        (fun fl s' => LeaveA (news.map (·.1)) s.heap h₀ L (hideAll s.heap (news.map (·.1))) R (match fl with | .ret v => v | _ => .none) s')
        (fun _ _ => False)
        { s with heap := h₁, toks := s.toks + binds.length })
    (hcell : ∀ x ∈ scope.names, x.2 ≠ .cell) (hco : scope.isCoroutine = false := by rfl) (hgen : scope.isGenerator = false := by rfl) (hk : scope.kind = .function := by rfl) :
    codeAny (model PySem.Challenge.rw_pg0121_01.row.prog w) A (.call (.ref f) args) R s := by
  obtain ⟨A₀, base, outer, env, p, loose, mean, mg, mb, B, T, hA, hf, hke⟩ := C.rest
  have F := C.fr
  obtain ⟨FG, BG, st, lv⟩ := groundX (R := R) B F N hA hf hke
  have X₀ := C.kin
  refine codeAny_call_def (fd := fnX name qual params body scope cl .none .none doc pm none (.ref c') ctv) (body := body) (binds := binds) hroom (N _ ho).1 rfl (T.nolimit.keeps F.keep) hcd rfl hbind hcell hloc (fun h₁ hns hk₁ => ?_) hco hgen hk
  refine wpAny_mono (h base outer env s.heap.objs.size h₁ p loose mean mg mb ⟨hns, fun b o e => hk₁ b o (of_hideAll _ e), Nat.le_of_eq (hideAll_size _ _)⟩
    (fun p hp => ⟨hk₁ _ _ (N p hp).1, Nat.ne_of_lt (Heap.lt_size (N p hp).1), hideAll_none _ (List.mem_map_of_mem hp)⟩) BG (X₀.keeps st) (T.keeps st) (fun p hp => Heap.lt_size (N p hp).1)) (fun fl s' hl => ?_) fun _ _ y => y.elim
  obtain ⟨L', m', news', F', N', k⟩ := hl
  obtain ⟨oL, es, ep, hL, hLd, hLk, hLf⟩ := F.ns
  have nL : L ∉ news.map (·.1) := fun q => by
    obtain ⟨p, hp, e⟩ := List.mem_map.mp q
    exact (N p hp).2.1 e
  have hLg := hideAll_get (news.map (·.1)) hL nL
  refine k (fun b o e hb => F'.keep b o (hideAll_get _ e hb)) fun p hp => ⟨(N' p hp).1, fun q => ?_, ?_⟩
  · have := (N' p hp).2.2; rw [q, hLg] at this; cases this
  · cases q : h₀.get? p.1 with
    | none => rfl
    | some o => have := (N' p hp).2.2; rw [st _ _ q] at this; cases this
end

/-- the middle of at least two and at most four places -/
theorem half_facts {l r : Int} {b : Nat} (hb4 : b < 4) (hlr : l < r) (hone : ¬ r = l + 1) (hb : r - l ≤ ((b + 1 : Nat) : Int)) : ∃ S : Int, (S = 1 ∨ S = 2) ∧ (l + r) / 2 = l + S ∧ l + S < r ∧ S ≤ (b : Int) ∧ r - (l + S) ≤ (b : Int) := by
  have mid : ∀ d : Int, (l + (l + d)) / 2 = l + d / 2 := fun d => by
    rw [show l + (l + d) = d + l * 2 by omega, Int.add_mul_ediv_right _ _ (by decide), Int.add_comm]
  have h3 : r = l + 2 ∧ 1 ≤ b ∨ r = l + 3 ∧ 2 ≤ b ∨ r = l + 4 ∧ 3 ≤ b := by omega
  have up : ∀ {k : Nat}, k ≤ b → (k : Int) ≤ (b : Int) := fun h => Int.ofNat_le.mpr h
  have sub : ∀ d k : Int, l + d - (l + k) = d - k := fun d k => Int.add_sub_add_left l d k
  rcases h3 with ⟨rfl, h⟩ | ⟨rfl, h⟩ | ⟨rfl, h⟩
  · exact ⟨1, .inl rfl, mid 2, Int.add_lt_add_left (by decide) l, up h, by rw [sub]; exact up h⟩
  · exact ⟨1, .inl rfl, mid 3, Int.add_lt_add_left (by decide) l, up (Nat.le_trans (by decide) h), by rw [sub]; exact up h⟩
  · exact ⟨2, .inr rfl, mid 4, Int.add_lt_add_left (by decide) l, up (Nat.le_trans (by decide) h), by rw [sub]; exact up (Nat.le_trans (by decide) h)⟩

noncomputable def i2dInner : Stmt := (stBody (PySem.Challenge.pw_pg0121_01.main.body.getD 3 (.Pass ⟨0, 0, 0, 0⟩))).getD 1 (.Pass ⟨0, 0, 0, 0⟩)
noncomputable def stPar : Stmt → Arguments
  | .FunctionDef _ a _ _ _ _ _ _ _ _ => a
  | _ => default
noncomputable def i2dPos : Pos := defPos i2dInner
noncomputable def i2dQual : Str := Str.ofString "_int2digits" ++ Str.ofString ".<locals>." ++ Str.ofString "inner"
noncomputable abbrev tab25 (c : Addr) : Obj := tabObj #[rawInt i2dPos.line, rawInt i2dPos.col, .ref c]

/-- what inner of _int2digits needs -/
noncomputable abbrev inNews (f c cn ca ci dg : Addr) (doc pm ctv : Value) (oc on oa oi : Obj) (vs : List Value) (n : Nat) : List (Addr × Obj) :=
  [(f, fnMade (Str.ofString "inner") i2dQual (stPar i2dInner) (stBody i2dInner) (stScope i2dInner) [(Str.ofString "n", cn), (Str.ofString "inner", ci), (Str.ofString "a_digits", ca)] doc pm c ctv),
   (c, oc), (ci, oi), (ca, oa), (cn, on), (dg, W.listOf vs.toArray n)]

/-- bit i of x -/
noncomputable def bitOf (x : Int) (i : Nat) : Int := x / 2 ^ i % 2
/-- the places l .. l + d - 1 are x's bits -/
noncomputable def setBits (ns : List Int) (l d : Nat) (x : Int) : List Int := ns.mapIdx fun j v => if l ≤ j ∧ j < l + d then bitOf x (j - l) else v
theorem setBits_length (ns : List Int) (l d : Nat) (x : Int) : (setBits ns l d x).length = ns.length := by simp [setBits]
theorem setBits_one (ns : List Int) (l : Nat) (x : Int) (h0 : 0 ≤ x) (h1 : x < 2) : setBits ns l 1 x = ns.set l x := by
  apply List.ext_getElem?
  intro j
  simp only [setBits, List.getElem?_mapIdx, List.getElem?_set]
  by_cases e : l = j
  · subst e
    have : bitOf x 0 = x := by unfold bitOf; simp; omega
    by_cases hl : l < ns.length
    · simp [this, hl]
    · simp [hl]
  · have : ¬ (l ≤ j ∧ j < l + 1) := by omega
    simp [this, e]
theorem setBits_two (ns : List Int) (l a b : Nat) (x : Int) (h0 : 0 ≤ x) : setBits (setBits ns l a (x % 2 ^ a)) (l + a) b (x / 2 ^ a) = setBits ns l (a + b) x := by
  apply List.ext_getElem?
  intro j
  simp only [setBits, List.getElem?_mapIdx, Option.map_map]
  congr 1
  funext v
  simp only [Function.comp]
  by_cases h1 : l + a ≤ j ∧ j < l + a + b
  · rw [if_pos h1, if_pos (by omega)]
    unfold bitOf
    rw [Int.ediv_ediv_of_nonneg (by exact Int.le_of_lt (Int.pow_pos (by decide))), ← Int.pow_add]
    congr 3
    omega
  · rw [if_neg h1]
    by_cases h2 : l ≤ j ∧ j < l + a
    · rw [if_pos h2, if_pos (by omega)]
      unfold bitOf
      have h3 : j - l < a := by omega
      generalize j - l = i at h3
      obtain ⟨k, rfl⟩ : ∃ k, a = i + 1 + k := ⟨a - i - 1, by omega⟩
      have e : x % 2 ^ (i + 1 + k) / 2 ^ i % 2 = x / 2 ^ i % 2 := by
        have p1 : (2 : Int) ^ (i + 1 + k) = 2 ^ i * (2 * 2 ^ k) := by rw [Int.pow_add, Int.pow_add]; simp [Int.mul_assoc]
        have hp : (0 : Int) < 2 ^ i := Int.pow_pos (by decide)
        have hk : (0 : Int) < 2 ^ k := Int.pow_pos (by decide)
        have q := Int.mul_ediv_add_emod x (2 ^ (i + 1 + k))
        generalize x % 2 ^ (i + 1 + k) = r at q
        generalize x / 2 ^ (i + 1 + k) = t at q
        rw [p1] at q
        have : x = r + 2 ^ i * (2 * (2 ^ k * t)) := by rw [← q, Int.add_comm]; congr 1; simp only [Int.mul_assoc]
        rw [this, Int.add_mul_ediv_left _ _ (by omega)]
        omega
      exact e
    · rw [if_neg h2, if_neg (by omega)]
end Mine
end

section
open PySem PySem.W PyProof.Rows
namespace Mine
theorem anew16 : True ∧ True := by
  walk1
  w_top off
  all_goals exact True.intro
end Mine
end

section
open PySem PySem.W PySem.Calls PyProof.Rows
set_option maxRecDepth 100000
set_option maxHeartbeats 2000000
namespace Mine
noncomputable def d2iInner : Stmt := (stBody (PySem.Challenge.pw_pg0121_01.main.body.getD 4 (.Pass ⟨0, 0, 0, 0⟩))).getD 0 (.Pass ⟨0, 0, 0, 0⟩)
/-- what inner of _digits2int needs -/
noncomputable abbrev dNews (f c cd cn ci dg : Addr) (doc pm ctv : Value) (oc od on oi : Obj) (vs : List Value) (n : Nat) : List (Addr × Obj) :=
  [(f, fnMade (Str.ofString "inner") d2iQual (stPar d2iInner) (stBody d2iInner) (stScope d2iInner) [(Str.ofString "n", cn), (Str.ofString "inner", ci), (Str.ofString "digits", cd)] doc pm c ctv),
   (c, oc), (ci, oi), (cn, on), (cd, od), (dg, W.listOf vs.toArray n)]
/-- the number of d figures from place l on, to the base q -/
noncomputable def dv (q : Int) (ns : List Int) : Nat → Nat → Int
  | _, 0 => 0
  | l, d + 1 => ns.getD l 0 + q * dv q ns (l + 1) d
theorem dv_one (q : Int) (ns : List Int) (l : Nat) : dv q ns l 1 = ns.getD l 0 := by simp [dv]
theorem dv_add (q : Int) (ns : List Int) : ∀ (a l b : Nat), dv q ns l (a + b) = dv q ns l a + q ^ a * dv q ns (l + a) b
  | 0, l, b => by simp [dv]
  | a + 1, l, b => by
    rw [show a + 1 + b = (a + b) + 1 by omega]
    show ns.getD l 0 + q * dv q ns (l + 1) (a + b) = ns.getD l 0 + q * dv q ns (l + 1) a + q ^ (a + 1) * dv q ns (l + (a + 1)) b
    rw [dv_add q ns a, Int.mul_add, ← Int.mul_assoc, Int.add_assoc, show l + 1 + a = l + (a + 1) by omega, show q * q ^ a = q ^ (a + 1) by rw [Int.pow_succ, Int.mul_comm]]
theorem dv_bound {q : Int} {ns : List Int} (hq : 0 < q) (h : ∀ x ∈ ns, 0 ≤ x ∧ x < q) : ∀ (d l : Nat), 0 ≤ dv q ns l d ∧ dv q ns l d < q ^ d
  | 0, _ => ⟨Int.le_refl _, by show (0 : Int) < q ^ 0; rw [Int.pow_zero]; decide⟩
  | d + 1, l => by
    obtain ⟨i0, i1⟩ := dv_bound hq h d (l + 1)
    have hx : 0 ≤ ns.getD l 0 ∧ ns.getD l 0 < q := by
      rw [List.getD_eq_getElem?_getD]
      cases e : ns[l]? with
      | none => exact ⟨Int.le_refl _, hq⟩
      | some x => exact h x (List.mem_of_getElem? e)
    show 0 ≤ ns.getD l 0 + q * dv q ns (l + 1) d ∧ ns.getD l 0 + q * dv q ns (l + 1) d < q ^ (d + 1)
    have h1 : 0 ≤ q * dv q ns (l + 1) d := Int.mul_nonneg (Int.le_of_lt hq) i0
    have h2 : q * (dv q ns (l + 1) d + 1) ≤ q * q ^ d := Int.mul_le_mul_of_nonneg_left (by omega) (Int.le_of_lt hq)
    rw [Int.mul_add, Int.mul_one] at h2
    rw [Int.pow_succ, Int.mul_comm (q ^ d) q]
    omega
theorem dv_16 {nn : Int} {ns : List Int} (hnn : nn = 1 ∨ nn = 2) (hns : ∀ x ∈ ns, 0 ≤ x ∧ x < 2 ^ nn.toNat) (l d : Nat) (hd : nn * d ≤ 4) : 0 ≤ dv (2 ^ nn.toNat) ns l d ∧ dv (2 ^ nn.toNat) ns l d < 16 := by
  obtain ⟨i0, i1⟩ := dv_bound (q := 2 ^ nn.toNat) (by rcases hnn with rfl | rfl <;> decide) hns d l
  refine ⟨i0, Int.lt_of_lt_of_le i1 ?_⟩
  have h : d = 0 ∨ d = 1 ∨ d = 2 ∨ ((d = 3 ∨ d = 4) ∧ nn = 1) := by rcases hnn with rfl | rfl <;> omega
  rcases h with rfl | rfl | rfl | ⟨rfl | rfl, rfl⟩
  · rcases hnn with rfl | rfl <;> decide
  · rcases hnn with rfl | rfl <;> decide
  · rcases hnn with rfl | rfl <;> decide
  · decide
  · decide
/-- inner of _digits2int, for at most b places -/
noncomputable def DSpec (w : World) (b : Nat) : Prop := ∀ {dp un : Nat} {gd : Option (List Code)} {fr : List Env} {h₀ : Heap} {L : Addr} {m : Str → Option Value} {s : Shared} {R : Result → Shared → Prop}
    {f c cd cn ci dg : Addr} {doc pm ctv : Value} {oc od on oi : Obj} {vs : List Value} {n : Nat} {ns : List Int} {cv : Array Value} {tq tn : Tok} {nn l r : Int} {tl tr : Tok}
    (_ : Cx w (AA dp un gd fr) h₀ L m s.heap) (_ : dp + b ≤ 450)
    (_ : News h₀ L s.heap (dNews f c cd cn ci dg doc pm ctv oc od on oi vs n)) (_ : oc.data = .fields cv) (_ : cv[1]? = some (.str d2iQual tq))
    (_ : on.data = .cell (some (.int nn tn))) (_ : od.data = .cell (some (.ref dg))) (_ : oi.data = .cell (some (.ref f)))
    (_ : nn = 1 ∨ nn = 2) (_ : IntsAre vs ns) (_ : ∀ x ∈ ns, 0 ≤ x ∧ x < 2 ^ nn.toNat) (_ : nn * ns.length ≤ 4) (_ : 0 ≤ l) (_ : l < r) (_ : r ≤ (ns.length : Int)) (_ : r - l ≤ (b : Int))
    (_ : ∀ h' tk t, Agree ((dNews f c cd cn ci dg doc pm ctv oc od on oi vs n).map (·.1)) s.heap h' → News h₀ L h' (dNews f c cd cn ci dg doc pm ctv oc od on oi vs n) → R (.ok (.ret (.int (dv (2 ^ nn.toNat) ns l.toNat (r - l).toNat) t))) { s with heap := h', toks := tk }),
    codeAny (model PySem.Challenge.rw_pg0121_01.row.prog w) (AA dp un gd fr) (.call (.ref f) ⟨[.int l tl, .int r tr], []⟩) R s
theorem d_step {w : World} {b : Nat} (hb4 : b < 4) (IH : DSpec w b) : DSpec w (b + 1) := by
  intro dp un gd fr h₀ L m s R f c cd cn ci dg doc pm ctv oc od on oi vs n ns cv tq tn nn l r tl tr C hA N d1 d2 e1 e2 e3 hnn hi hns hz hl hlr hr hb k
  have h4 : (ns.length : Int) ≤ 4 := by rcases hnn with rfl | rfl <;> omega
  have X₀ := C.kin
  have F₀ := C.fr
  have hcd : s.heap.CodeRec (.ref c) d2iQual := codeRec_news N (.tail _ (.head _)) d1 d2
  k_dflt (refine' enterN (binds := [("L", .int l tl), ("R", .int r tr)]) C N (.head _) hcd ?hroom ?hb ?hl ?_ ?hc ?h1 ?h2 ?h3; (case hroom => k_room); (case hb => exact BindsTo.of_eq rfl); (case hl => exact locs rfl); (case hc => decide +kernel); (case h1 => exact rfl); (case h2 => exact rfl); (case h3 => exact rfl))
  clear X₀ F₀
  intro base outer env L' h₁ p loose mean mg mb F' N' B' X' T' hlt
  have H36 := codeHd36 X'
  have eF : some fr = some (env :: outer) := B'.stack
  injection eF with eF
  subst eF
  have l0 := hlt
  (try k_lt l0)
  conv in stBody d2iInner => whnf
  by_cases hone : r = l + 1
  · subst hone
    (try dsimp only); (try k_fold)
    repeat' ((fail_if_success (with_reducible show (if _ then _ else _))); first | (k_unfold; (try dsimp only)) | walk1 | (dsimp only; walk1))
    rw [if_pos (by simp)]
    repeat' ((fail_if_success (with_reducible show wpAny _ _ (subscriptTail _ _ _ _) _ _ _)); first | (k_unfold; (try dsimp only)) | walk1 | (dsimp only; walk1))
    rename Fr _ _ _ _ => F9
    rename News _ _ _ _ => N9
    refine item_anyK (News.isList N9 (by k_mem)) hi hl (by omega) (by omega) (fun t => ?_) (by with_unfolding_all rfl)
    dsimp only
    refine ⟨_, _, _, F9, N9, fun hag hN => ret_eq ?_ (k _ _ _ hag hN)⟩
    rw [show (l + 1 - l).toNat = 1 by omega, dv_one]
  · obtain ⟨S, hS1, hS2, hS3, hS4, hS5⟩ : ∃ S : Int, (l + r) / 2 = l + S ∧ 1 ≤ S ∧ l + S < r ∧ S ≤ (b : Int) ∧ r - (l + S) ≤ (b : Int) := by
      obtain ⟨S, q1, q2, q3⟩ := half_facts hb4 hlr hone hb
      exact ⟨S, q2, by rcases q1 with rfl | rfl <;> decide, q3⟩
    have hmid : (l + r).fdiv (2 ^ Int.toNat 1) = l + S := by rw [show ((2 : Int) ^ Int.toNat 1) = 2 from rfl, Int.fdiv_eq_ediv_of_nonneg _ (by decide)]; exact hS1
    (try dsimp only); (try k_fold)
    repeat' ((fail_if_success (with_reducible show (if _ then _ else _))); first | (k_unfold; (try dsimp only)) | walk1 | (dsimp only; walk1))
    rw [if_neg (by simp; omega)]
    repeat' ((fail_if_success (with_reducible show wpAny _ _ (storeName _ (Str.ofString "mid") _) _ _ _)); first | (k_unfold; (try dsimp only)) | walk1 | (dsimp only; walk1))
    rw [hmid]
    repeat' ((fail_if_success (with_reducible show wpAny _ _ (storeName _ (Str.ofString "shift") _) _ _ _)); first | (k_unfold; (try dsimp only)) | walk1 | (dsimp only; walk1))
    have hsh : ∃ d : Int, (l + S - l) * nn = d ∧ 1 ≤ d ∧ d ≤ 2 ∧ d = S * nn := by
      rcases hnn with rfl | rfl
      · exact ⟨S, by omega, hS2, by omega, by omega⟩
      · exact ⟨2 * S, by omega, by omega, by omega, by omega⟩
    obtain ⟨d, hd, hd1, hd2, hd3⟩ := hsh
    rw [hd]
    repeat' ((fail_if_success (with_reducible show wpAny _ _ (call (Value.ref _) _) _ _ _)); first | (k_unfold; (try dsimp only)) | walk1 | (dsimp only; walk1))
    have hq : ((2 : Int) ^ nn.toNat) ^ S.toNat = 2 ^ d.toNat := by
      have hS : S = 1 ∨ S = 2 := by rcases hnn with rfl | rfl <;> omega
      rcases hnn with rfl | rfl
      · rcases hS with rfl | rfl
        · rw [show d = 1 by omega]; rfl
        · rw [show d = 2 by omega]; rfl
      · rw [show S = 1 by omega, show d = 2 by omega]; rfl
    have hval : dv (2 ^ nn.toNat) ns l.toNat (r - l).toNat = dv (2 ^ nn.toNat) ns (l + S).toNat (r - (l + S)).toNat * 2 ^ d.toNat + dv (2 ^ nn.toNat) ns l.toNat S.toNat := by
      have := dv_add (2 ^ nn.toNat) ns S.toNat l.toNat (r - (l + S)).toNat
      rw [show S.toNat + (r - (l + S)).toNat = (r - l).toNat by omega, show l.toNat + S.toNat = (l + S).toNat by omega, hq] at this
      rw [this, Int.add_comm, Int.mul_comm]
    have h16 : ∀ l d : Nat, nn * d ≤ 4 → 0 ≤ dv (2 ^ nn.toNat) ns l d ∧ dv (2 ^ nn.toNat) ns l d < 16 := fun l d hd => dv_16 hnn hns l d hd
    rename Fr _ _ _ _ => F9
    rename News _ _ _ _ => N9
    refine wpAny_call (IH (dp := dp + 1) ⟨F9, X', ⟨AA dp un gd (env :: outer), base, env :: outer, _, p, loose, mean, mg, mb, B', T', rfl, rfl, rfl⟩⟩ (by omega) N9 d1 d2 e1 e2 e3 hnn hi hns hz (by omega) (by omega) hr (by omega) fun h2 tk2 t2 hag2 hN2 => ?_)
    obtain ⟨x0, x1⟩ := h16 (l + S).toNat (r - (l + S)).toNat (by rcases hnn with rfl | rfl <;> omega)
    generalize dv (2 ^ nn.toNat) ns (l + S).toNat (r - (l + S)).toNat = v1 at x0 x1 hval ⊢
    have F2 := after_fr F9 N9 hag2
    clear F9 N9
    dsimp only
    repeat' ((fail_if_success (with_reducible show wpAny _ _ (call (Value.ref _) _) _ _ _)); first | (k_unfold; (try dsimp only)) | walk1 | (dsimp only; walk1))
    refine wpAny_call (IH (dp := dp + 1) ⟨F2, X', ⟨AA dp un gd (env :: outer), base, env :: outer, _, p, loose, mean, mg, mb, B', T', rfl, rfl, rfl⟩⟩ (by omega) hN2 d1 d2 e1 e2 e3 hnn hi hns hz hl (by omega) (by omega) (by omega) fun h3 tk3 t3 hag3 hN3 => ?_)
    rw [show (l + S - l).toNat = S.toNat by rw [show l + S - l = S by omega]]
    obtain ⟨y0, y1⟩ := h16 l.toNat S.toNat (by rcases hnn with rfl | rfl <;> omega)
    generalize dv (2 ^ nn.toNat) ns l.toNat S.toNat = v2 at y0 y1 hval ⊢
    have F3 := after_fr F2 hN2 hag3
    clear F2 hN2
    have hv : 0 ≤ v1 * 2 ^ d.toNat ∧ v1 * 2 ^ d.toNat < 64 := by
      have hd' : d = 1 ∨ d = 2 := by omega
      rcases hd' with h | h
      · rw [h, show (2 : Int) ^ (1 : Int).toNat = 2 from rfl]; omega
      · rw [h, show (2 : Int) ^ (2 : Int).toNat = 4 from rfl]; omega
    generalize v1 * 2 ^ d.toNat = v3 at hv hval ⊢
    dsimp only
    k_steps
    dsimp only
    refine ⟨_, _, _, F3, hN3, fun hag hN => ret_eq ?_ (k _ _ _ hag hN)⟩
    exact hval.symm
theorem d_all (w : World) : DSpec w 4 := by
  have h0 : DSpec w 0 := by
    intro dp un gd fr h₀ L m s R f c cd cn ci dg doc pm ctv oc od on oi vs n ns cv tq tn nn l r tl tr C hA N d1 d2 e1 e2 e3 hnn hi hns hz hl hlr hr hb
    omega
  exact @d_step w 3 (by decide) (@d_step w 2 (by decide) (@d_step w 1 (by decide) (@d_step w 0 (by decide) @h0)))
end Mine
end

section
open PySem PySem.W PyProof.Rows
namespace Mine
theorem anew17 : True ∧ True := by
  walk1
  w_top off
  all_goals exact True.intro
end Mine
end

section
open PySem PySem.W PySem.Calls PyProof.Rows
set_option maxRecDepth 100000
set_option maxHeartbeats 2000000
namespace Mine

/-- inner of _int2digits, for at most b places -/
noncomputable def InSpec (w : World) (b : Nat) : Prop := ∀ {dp un : Nat} {gd : Option (List Code)} {fr : List Env} {h₀ : Heap} {L : Addr} {m : Str → Option Value} {s : Shared} {R : Result → Shared → Prop}
    {f c cn ca ci dg : Addr} {doc pm ctv : Value} {oc on oa oi : Obj} {vs : List Value} {n : Nat} {ns : List Int} {cv : Array Value} {tq tn : Tok} {x l r : Int} {tx tl tr : Tok}
    (_ : Cx w (AA dp un gd fr) h₀ L m s.heap) (_ : dp + b ≤ 450)
    (_ : @LT.lt Nat _ cn ca) (_ : @LT.lt Nat _ ca ci) (_ : @LT.lt Nat _ ci dg) (_ : @LT.lt Nat _ dg f) (_ : (@LT.lt Nat _ c cn) ∨ (@LT.lt Nat _ dg c ∧ @LT.lt Nat _ c f))
    (_ : News h₀ L s.heap (inNews f c cn ca ci dg doc pm ctv oc on oa oi vs n)) (_ : oc.data = .fields cv) (_ : cv[1]? = some (.str i2dQual tq))
    (_ : on.data = .cell (some (.int 1 tn))) (_ : oa.data = .cell (some (.ref dg))) (_ : oi.data = .cell (some (.ref f)))
    (_ : IntsAre vs ns) (_ : ns.length ≤ 100) (_ : 0 ≤ l) (_ : l < r) (_ : r ≤ (ns.length : Int)) (_ : r - l ≤ (b : Int)) (_ : 0 ≤ x) (_ : x < 2 ^ (r - l).toNat)
    (_ : ∀ h' tk vs' n', Agree ((inNews f c cn ca ci dg doc pm ctv oc on oa oi vs n).map (·.1)) s.heap h' → News h₀ L h' (inNews f c cn ca ci dg doc pm ctv oc on oa oi vs' n') → IntsAre vs' (setBits ns l.toNat (r - l).toNat x) → R (.ok (.ret .none)) { s with heap := h', toks := tk }),
    codeAny (model PySem.Challenge.rw_pg0121_01.row.prog w) (AA dp un gd fr) (.call (.ref f) ⟨[.int x tx, .int l tl, .int r tr], []⟩) R s

theorem xor_lo : ∀ (x : Nat) (s : Nat), x < 16 → s < 3 → Builtin.bitXor (x : Int) (Int.fdiv (x : Int) (2 ^ s) * 2 ^ s) = (x : Int) % 2 ^ s := by
  have h : ∀ x : Fin 16, ∀ s : Fin 3, Builtin.bitXor (x.val : Int) (Int.fdiv (x.val : Int) (2 ^ s.val) * 2 ^ s.val) = (x.val : Int) % 2 ^ s.val := by decide +kernel
  intro x s hx hs
  exact h ⟨x, hx⟩ ⟨s, hs⟩

theorem in_step {w : World} {b : Nat} (hb4 : b < 4) (IH : InSpec w b) : InSpec w (b + 1) := by
  intro dp un gd fr h₀ L m s R f c cn ca ci dg doc pm ctv oc on oa oi vs n ns cv tq tn x l r tx tl tr C hA o1 o2 o3 o4 o5 N d1 d2 e1 e2 e3 hi hz hl hlr hr hb hx0 hx1 k
  have X₀ := C.kin
  have F₀ := C.fr
  have hcd : s.heap.CodeRec (.ref c) i2dQual := codeRec_news N (.tail _ (.head _)) d1 d2
  k_dflt (refine' enterN (binds := [("x", .int x tx), ("L", .int l tl), ("R", .int r tr)]) C N (.head _) hcd ?hroom ?hb ?hl ?_ ?hc ?h1 ?h2 ?h3; (case hroom => k_room); (case hb => exact BindsTo.of_eq rfl); (case hl => exact locs rfl); (case hc => decide +kernel); (case h1 => exact rfl); (case h2 => exact rfl); (case h3 => exact rfl))
  clear X₀ F₀
  intro base outer env L' h₁ p loose mean mg mb F' N' B' X' T' hlt
  have H29 := codeHd29 X'
  have eF : some fr = some (env :: outer) := B'.stack
  injection eF with eF
  subst eF
  have l0 := hlt
  (try k_lt l0)
  conv in stBody i2dInner => whnf
  by_cases hone : r = l + 1
  · subst hone
    (try dsimp only); (try k_fold)
    repeat' ((fail_if_success (with_reducible show (if _ then _ else _))); first | (k_unfold; (try dsimp only)) | walk1 | (dsimp only; walk1))
    rw [if_pos (by simp)]
    k_steps
    dsimp only
    rename Fr _ _ _ _ => F9
    rename News _ _ _ _ => N9
    refine ⟨_, _, _, F9, N9, fun hag hN => k _ _ _ _ hag hN ?_⟩
    rw [show (l + 1 - l).toNat = 1 by omega, setBits_one _ _ _ hx0 (by rw [show (l + 1 - l).toNat = 1 by omega] at hx1; simpa using hx1)]
    assumption
  · obtain ⟨S, hS, hS1, hS2, hS3⟩ : ∃ S : Int, (S = 1 ∨ S = 2) ∧ (l + r) / 2 = l + S ∧ l + S < r ∧ S ≤ (b : Int) ∧ r - (l + S) ≤ (b : Int) := half_facts hb4 hlr hone hb
    have hmid : (l + r).fdiv (2 ^ Int.toNat 1) = l + S := by rw [show ((2 : Int) ^ Int.toNat 1) = 2 from rfl, Int.fdiv_eq_ediv_of_nonneg _ (by decide)]; exact hS1
    have hsh : (l + S - l) * 1 = S := by omega
    have hx16 : x < 16 := by
      have : (r - l).toNat ≤ 4 := by omega
      have h2 : (2 : Int) ^ (r - l).toNat ≤ 2 ^ 4 := by
        rw [show (2 : Int) ^ (r - l).toNat = ((2 ^ (r - l).toNat : Nat) : Int) by simp, show (2 : Int) ^ 4 = ((2 ^ 4 : Nat) : Int) by rfl]
        exact Int.ofNat_le.mpr (Nat.pow_le_pow_right (by decide) this)
      omega
    have hlow : Builtin.bitXor x (x.fdiv (2 ^ S.toNat) * 2 ^ S.toNat) = x % 2 ^ S.toNat := by
      have := xor_lo x.toNat S.toNat (by omega) (by omega)
      rw [show ((x.toNat : Nat) : Int) = x by omega] at this
      exact this
    have hup : x.fdiv (2 ^ S.toNat) = x / 2 ^ S.toNat := Int.fdiv_eq_ediv_of_nonneg _ (Int.le_of_lt (Int.pow_pos (by decide)))
    have hlo1 : 0 ≤ x % 2 ^ S.toNat ∧ x % 2 ^ S.toNat < 2 ^ S.toNat := ⟨Int.emod_nonneg _ (by have : (0:Int) < 2 ^ S.toNat := Int.pow_pos (by decide); omega), Int.emod_lt_of_pos _ (Int.pow_pos (by decide))⟩
    have hup1 : 0 ≤ x / 2 ^ S.toNat ∧ x / 2 ^ S.toNat < 2 ^ (r - (l + S)).toNat := by
      refine ⟨Int.ediv_nonneg hx0 (Int.le_of_lt (Int.pow_pos (by decide))), Int.ediv_lt_of_lt_mul (Int.pow_pos (by decide)) ?_⟩
      rw [← Int.pow_add, show (r - (l + S)).toNat + S.toNat = (r - l).toNat by omega]
      exact hx1
    have hset : setBits (setBits ns l.toNat S.toNat (x % 2 ^ S.toNat)) (l + S).toNat (r - (l + S)).toNat (x / 2 ^ S.toNat) = setBits ns l.toNat (r - l).toNat x := by
      have := setBits_two ns l.toNat S.toNat (r - (l + S)).toNat x hx0
      rw [show l.toNat + S.toNat = (l + S).toNat by omega, show S.toNat + (r - (l + S)).toNat = (r - l).toNat by omega] at this
      exact this
    (try dsimp only); (try k_fold)
    repeat' ((fail_if_success (with_reducible show (if _ then _ else _))); first | (k_unfold; (try dsimp only)) | walk1 | (dsimp only; walk1))
    rw [if_neg (by simp; omega)]
    repeat' ((fail_if_success (with_reducible show wpAny _ _ (storeName _ (Str.ofString "mid") _) _ _ _)); first | (k_unfold; (try dsimp only)) | walk1 | (dsimp only; walk1))
    rw [hmid]
    repeat' ((fail_if_success (with_reducible show wpAny _ _ (storeName _ (Str.ofString "shift") _) _ _ _)); first | (k_unfold; (try dsimp only)) | walk1 | (dsimp only; walk1))
    rw [hsh]
    have hS12 : 1 ≤ S ∧ S ≤ 2 := by omega
    clear hS
    repeat' ((fail_if_success (with_reducible show wpAny _ _ (call (Value.ref _) _) _ _ _)); first | (k_unfold; (try dsimp only)) | walk1 | (dsimp only; walk1))
    rw [hlow]
    rename Fr _ _ _ _ => F9
    rename News _ _ _ _ => N9
    refine wpAny_call (IH (dp := dp + 1) ⟨F9, X', ⟨AA dp un gd (env :: outer), base, env :: outer, _, p, loose, mean, mg, mb, B', T', rfl, rfl, rfl⟩⟩ (by omega) o1 o2 o3 o4 o5 N9 d1 d2 e1 e2 e3 hi hz hl (by omega) (by omega) (by omega) hlo1.1 ?_ fun h2 tk2 vs2 n2 hag2 hN2 hI2 => ?_)
    · rw [show (l + S - l).toNat = S.toNat by rw [show l + S - l = S by omega]]; exact hlo1.2
    have F2 := after_fr F9 N9 hag2
    clear F9 N9
    dsimp only
    repeat' ((fail_if_success (with_reducible show wpAny _ _ (call (Value.ref _) _) _ _ _)); first | (k_unfold; (try dsimp only)) | walk1 | (dsimp only; walk1))
    rw [hup]
    have hlen := setBits_length
    refine wpAny_call (IH (dp := dp + 1) ⟨F2, X', ⟨AA dp un gd (env :: outer), base, env :: outer, _, p, loose, mean, mg, mb, B', T', rfl, rfl, rfl⟩⟩ (by omega) o1 o2 o3 o4 o5 hN2 d1 d2 e1 e2 e3 hI2 (by rw [hlen]; exact hz) (by omega) (by omega) (by rw [hlen]; omega) (by omega) hup1.1 hup1.2 fun h3 tk3 vs3 n3 hag3 hN3 hI3 => ?_)
    have F3 := after_fr F2 hN2 hag3
    clear F2 hN2
    dsimp only
    k_steps
    dsimp only
    refine ⟨_, _, _, F3, hN3, fun hag hN => k _ _ _ _ hag hN ?_⟩
    rw [← hset]
    rw [show (l + S - l).toNat = S.toNat by rw [show l + S - l = S by omega]] at hI3
    exact hI3

theorem in_all (w : World) : InSpec w 4 := by
  have h0 : InSpec w 0 := by
    intro dp un gd fr h₀ L m s R f c cn ca ci dg doc pm ctv oc on oa oi vs n ns cv tq tn x l r tx tl tr C hA o1 o2 o3 o4 o5 N d1 d2 e1 e2 e3 hi hz hl hlr hr hb
    omega
  exact @in_step w 3 (by decide) (@in_step w 2 (by decide) (@in_step w 1 (by decide) (@in_step w 0 (by decide) @h0)))
end Mine
end

section
open PySem PySem.W PyProof.Rows
namespace Mine
theorem anew18 : True ∧ True := by
  walk1
  w_top off
  all_goals exact True.intro
end Mine
end

section
open PySem PySem.W PySem.Calls PyProof.Rows
set_option maxRecDepth 100000
set_option maxHeartbeats 400000
namespace Mine

/-- a's bits, the lowest first -/
noncomputable def figsOf (a : Int) : List Int := setBits (List.replicate (Builtin.Int.intBits a) 0) 0 (Builtin.Int.intBits a) a
theorem bits_facts : ∀ a : Int, 0 < a → a < 16 → 1 ≤ Builtin.Int.intBits a ∧ Builtin.Int.intBits a ≤ 4 ∧ a < 2 ^ Builtin.Int.intBits a := by
  have h : ∀ a : Fin 16, 0 < a.val → 1 ≤ Builtin.Int.intBits (a.val : Int) ∧ Builtin.Int.intBits (a.val : Int) ≤ 4 ∧ (a.val : Int) < 2 ^ Builtin.Int.intBits (a.val : Int) := by decide +kernel
  intro a h0 h1
  have := h ⟨a.toNat, by omega⟩ (by show 0 < a.toNat; omega)
  dsimp only at this
  rw [show ((a.toNat : Nat) : Int) = a by omega] at this
  exact this
theorem ints_replicate (t : Tok) : ∀ n : Nat, IntsAre (List.replicate n (.int 0 t)) (List.replicate n 0)
  | 0 => .nil
  | n + 1 => .cons 0 t (ints_replicate t n)
theorem flat_one {α : Type} (v : α) : ∀ n : Nat, (List.replicate n [v]).flatten = List.replicate n v
  | 0 => rfl
  | n + 1 => by rw [List.replicate_succ, List.flatten_cons, flat_one v n]; rfl

theorem pick6 {h₀ h : Heap} {L : Addr} {news : List (Addr × Obj)} {a b c d e f : Addr × Obj} (N : News h₀ L h news) (h1 : a ∈ news) (h2 : b ∈ news) (h3 : c ∈ news) (h4 : d ∈ news) (h5 : e ∈ news) (h6 : f ∈ news) : News h₀ L h [a, b, c, d, e, f] := fun p hp => by
  simp only [List.mem_cons, List.not_mem_nil, or_false] at hp
  rcases hp with rfl | rfl | rfl | rfl | rfl | rfl
  · exact N _ h1
  · exact N _ h2
  · exact N _ h3
  · exact N _ h4
  · exact N _ h5
  · exact N _ h6
theorem len_any {prog : Program} {w : World} {A : Around} {E : Value → Shared → Prop} {s : Shared} {l : Addr} {vs : List Value} {Q : Value → Shared → Prop} (hl : s.heap.IsList l vs.toArray) (hz : vs.length < 100000)
    (h : Q (.int (vs.length : Nat) (s.toks + 1)) { s with toks := s.toks + 1 + 1 }) : wpAny (model prog w) A (call (.builtin "len") [.ref l]) Q E s := by
  refine PyProof.Rows.len_list hl (by simp; omega) ?_
  simpa using h
theorem i2d_hit {w : World} {dp un : Nat} {gd : Option (List Code)} {fr : List Env} {h₀ : Heap} {L cc : Addr} {m : Str → Option Value} {s : Shared} {R : Result → Shared → Prop} {a : Int} {ta tn tq : Tok} {oc : Obj} {cv : Array Value}
    (C : Cx w (AA dp un gd fr) h₀ L m s.heap) (hA : dp ≤ 400) (ha0 : 0 < a) (ha1 : a < 16) (o1 : @LT.lt Nat _ 25 cc)
    (N : News h₀ L s.heap [(25, tab25 cc), (cc, oc)]) (d1 : oc.data = .fields cv) (d2 : cv[1]? = some (.str i2dQual tq))
    (k : ∀ h' tk D vs n, Agree [25, cc] s.heap h' → News h₀ L h' [(25, tab25 cc), (cc, oc), (D, W.listOf vs.toArray n)] → s.heap.objs.size ≤ D → IntsAre vs (figsOf a) → R (.ok (.ret (.ref D))) { s with heap := h', toks := tk }) :
    codeAny (model PySem.Challenge.rw_pg0121_01.row.prog w) (AA dp un gd fr) (.call (.ref 30) ⟨[.int a ta, .int 1 tn], []⟩) R s := by
  have X₀ := C.kin
  have F₀ := C.fr
  obtain ⟨b1, b2, b3⟩ := bits_facts a ha0 ha1
  have hb : (((Builtin.Int.intBits a : Nat) : Int) + 1 - 1).fdiv 1 = ((Builtin.Int.intBits a : Nat) : Int) := by rw [Int.add_sub_cancel, Int.fdiv_one]
  k_dflt (refine' enterC (binds := [("a", .int a ta), ("n", .int 1 tn)]) C N ?ho ?hcd ?hroom ?hb ?hl ?hn ?_ ?h1 ?h2 ?h3; (case ho => k_is); (case hcd => k_is); (case hroom => k_room); (case hb => exact BindsTo.of_eq rfl); (case hl => exact rfl); (case hn => decide +kernel); (case h1 => exact rfl); (case h2 => exact rfl); (case h3 => exact rfl))
  k_whole
  clear X₀ F₀
  intro base outer env L' h₁ tk cells p loose mean mg mb F' N' Y' B' X' T' hlt
  have H29 := codeHd29 X'
  have hab : @LE.le Nat _ s.heap.objs.size L' := Nat.le_trans (Nat.le_of_eq (hideAll_size _ _).symm) F'.above
  have eF : some fr = some (env :: outer) := B'.stack
  injection eF with eF
  subst eF
  have l0 := hlt
  (try k_lt l0)
  k_cells Y'
  (try simp only [List.cons_append, List.nil_append] at N')
  (try dsimp only); (try k_fold)
  repeat' ((fail_if_success (with_reducible show wpAny _ _ (binaryOp Operator.Mult (Value.ref _) _) _ _ _)); first | (k_unfold; (try dsimp only)) | walk1 | (dsimp only; walk1))
  rw [hb]
  obtain ⟨nb, hnb⟩ : ∃ nb, Builtin.Int.intBits a = nb := ⟨_, rfl⟩
  rw [hnb] at b1 b2 b3 ⊢
  k_dflt (refine' KMa.mul ?F ?N ?l ?lo ?hi ?z ?e ?_; (case F => k_asm); (case N => k_asm); (case l => is_list); (case lo => omega); (case hi => omega); (case z => (simp; omega)); (case e => exact flat_one _ _))
  intro dg h2 F2 N2 l2
  (try k_lt l2)
  (try k_sweep)
  repeat' ((fail_if_success (with_reducible show wpAny _ _ (call (Value.builtin "len") _) _ _ _)); first | (k_unfold; (try dsimp only)) | walk1 | (dsimp only; walk1))
  · refine len_any (News.isList (by k_asm) (by k_mem)) (by simp; omega) ?_
    rw [List.length_replicate]
    repeat' ((fail_if_success (with_reducible show wpAny _ _ (call (Value.ref _) _) _ _ _)); first | (k_unfold; (try dsimp only)) | walk1 | (dsimp only; walk1))
    rename Fr _ _ _ _ => F9
    rename News _ _ _ _ => N9
    k_dflt (refine' wpAny_call (in_all w (dp := dp + 1) (dg := dg) (ns := List.replicate nb 0) ⟨F9, X', ⟨AA dp un gd (env :: outer), base, env :: outer, _, p, loose, mean, mg, mb, B', T', rfl, rfl, rfl⟩⟩ (by omega) ?o1 ?o2 ?o3 ?o4 ?o5 (pick6 N9 ?m1 ?m2 ?m3 ?m4 ?m5 ?m6) ?d1 ?d2 ?e1 ?e2 ?e3 ?hi ?hz ?hl ?hlr ?hr ?hb ?hx0 ?hx1 ?k))
    (case m1 => k_mem)
    (case m2 => k_mem)
    (case m3 => k_mem)
    (case m4 => k_mem)
    (case m5 => k_mem)
    (case m6 => k_mem)
    (case d1 => assumption)
    (case d2 => assumption)
    (case e1 => assumption)
    (case e2 => assumption)
    (case e3 => assumption)
    (case o1 => refine ltN ?_; omega)
    (case o2 => refine ltN ?_; omega)
    (case o3 => refine ltN ?_; omega)
    (case o4 => refine ltN ?_; omega)
    (case o5 => refine Or.inl (ltN ?_); omega)
    (case hi => exact ints_replicate _ _)
    (case hz => simp; omega)
    (case hl => omega)
    (case hlr => omega)
    (case hr => simp)
    (case hb => omega)
    (case hx0 => omega)
    (case hx1 => rw [Int.sub_zero, Int.toNat_natCast]; exact b3)
    intro h3 tk3 vs3 n3 hag3 hN3 hI3
    have N25 : News (hideAll s.heap (List.map (fun x => x.fst) [(25, tab25 cc), (cc, oc)])) L' h3 [(25, tab25 cc)] := after_news (fun q hq => by rcases List.mem_cons.mp hq with rfl | hq; exact N9 _ (by k_mem); cases hq) hag3 (by
      intro q hq
      rw [List.mem_singleton.mp hq]
      simp only [inNews, List.map_cons, List.map_nil, List.mem_cons, List.not_mem_nil, or_false, not_or]
      refine ⟨neN ?_, neN ?_, neN ?_, neN ?_, neN ?_, neN ?_⟩ <;> omega)
    have F3 : Fr (hideAll s.heap (List.map (fun x => x.fst) [(25, tab25 cc), (cc, oc)])) L' h3 _ := after_fr F9 (pick6 N9 (by k_mem) (by k_mem) (by k_mem) (by k_mem) (by k_mem) (by k_mem)) hag3
    have N7 := news_app N25 hN3
    clear F9 N9 N25 hN3
    dsimp only [inNews, List.cons_append, List.nil_append] at N7
    dsimp only
    k_steps
    dsimp only
    have NE : News (hideAll s.heap (List.map (fun x => x.fst) [(25, tab25 cc), (cc, oc)])) L' h3 [(25, tab25 cc), (cc, oc), (dg, W.listOf vs3.toArray n3)] := fun q hq => by
      simp only [List.mem_cons, List.not_mem_nil, or_false] at hq
      rcases hq with rfl | rfl | rfl
      · exact N7 _ (by k_mem)
      · exact N7 _ (by k_mem)
      · exact N7 _ (by k_mem)
    refine ⟨_, _, _, F3, NE, fun hag hN => k _ _ _ _ _ hag hN ?_ ?_⟩
    · exact Nat.le_trans (Nat.le_refl _) (by omega)
    · rw [show figsOf a = setBits (List.replicate nb 0) (Int.toNat 0) ((nb : Int) - 0).toNat a from ?_]
      · exact hI3
      · rw [Int.sub_zero, Int.toNat_natCast, figsOf, hnb]; rfl
  · exfalso; omega
end Mine
end

section
open PySem PySem.W PyProof.Rows
namespace Mine
theorem anew19 : True ∧ True := by
  walk1
  w_top off
  all_goals exact True.intro
end Mine
end

section
open PySem PySem.W PySem.Calls PyProof.Rows
set_option maxRecDepth 100000
set_option maxHeartbeats 2000000
namespace Mine
theorem nin_cons' {q a : Addr} {S : List Addr} (h1 : q ≠ a) (h2 : q ∉ S) : q ∉ a :: S := fun h => by
  rcases List.mem_cons.mp h with e | e
  · exact h1 e
  · exact h2 e
theorem d2i_hit {w : World} {dp un : Nat} {gd : Option (List Code)} {fr : List Env} {h₀ : Heap} {L dg cc : Addr} {m : Str → Option Value} {s : Shared} {R : Result → Shared → Prop} {tn : Tok} {n : Nat} {oc : Obj} {ys : List Value} {ns : List Int} {cv : Array Value} {tq : Tok} {nn : Int}
    (C : Cx w (AA dp un gd fr) h₀ L m s.heap) (hA : dp ≤ 400) (o1 : @LT.lt Nat _ 32 cc) (o2 : @Ne Nat cc dg) (o3 : @Ne Nat 32 dg) (hnn : nn = 1 ∨ nn = 2) (hi : IntsAre ys ns) (hns : ∀ x ∈ ns, 0 ≤ x ∧ x < 2 ^ nn.toNat) (hz : nn * ns.length ≤ 4) (hn1 : 1 ≤ ns.length)
    (N : News h₀ L s.heap [(dg, W.listOf ys.toArray n), (32, tab32 cc), (cc, oc)]) (d1 : oc.data = .fields cv) (d2 : cv[1]? = some (.str d2iQual tq))
    (k : ∀ h' tk t, Agree [dg, 32, cc] s.heap h' → News h₀ L h' [(dg, W.listOf ys.toArray n), (32, tab32 cc), (cc, oc)] → R (.ok (.ret (.int (dv (2 ^ nn.toNat) ns 0 ns.length) t))) { s with heap := h', toks := tk }) :
    codeAny (model PySem.Challenge.rw_pg0121_01.row.prog w) (AA dp un gd fr) (.call (.ref 37) ⟨[.ref dg, .int nn tn], []⟩) R s := by
  have h4 : ns.length ≤ 4 := by rcases hnn with rfl | rfl <;> omega
  have hyl := hi.length
  have X₀ := C.kin
  have F₀ := C.fr
  k_dflt (refine' enterC (binds := [("digits", .ref dg), ("n", .int nn tn)]) C N ?ho ?hcd ?hroom ?hb ?hl ?hn ?_ ?h1 ?h2 ?h3; (case ho => k_is); (case hcd => k_is); (case hroom => k_room); (case hb => exact BindsTo.of_eq rfl); (case hl => exact rfl); (case hn => decide +kernel); (case h1 => exact rfl); (case h2 => exact rfl); (case h3 => exact rfl))
  k_whole
  clear X₀ F₀
  intro base outer env L' h₁ tk cells p loose mean mg mb F' N' Y' B' X' T' hlt
  have H36 := codeHd36 X'
  have eF : some fr = some (env :: outer) := B'.stack
  injection eF with eF
  subst eF
  have l0 := hlt
  (try k_lt l0)
  k_cells Y'
  (try simp only [List.cons_append, List.nil_append] at N')
  (try dsimp only); (try k_fold)
  repeat' ((fail_if_success (with_reducible show wpAny _ _ (call (Value.builtin "len") _) _ _ _)); first | (k_unfold; (try dsimp only)) | walk1 | (dsimp only; walk1))
  refine len_any (News.isList (by k_asm) (by k_mem)) (by omega) ?_
  repeat' ((fail_if_success (with_reducible show wpAny _ _ (call (Value.ref _) _) _ _ _)); first | (k_unfold; (try dsimp only)) | walk1 | (dsimp only; walk1))
  rename Fr _ _ _ _ => F9
  rename News _ _ _ _ => N9
  k_dflt (refine' wpAny_call (d_all w (dp := dp + 1) (dg := dg) (ns := ns) ⟨F9, X', ⟨AA dp un gd (env :: outer), base, env :: outer, _, p, loose, mean, mg, mb, B', T', rfl, rfl, rfl⟩⟩ (by omega) (pick6 N9 ?m1 ?m2 ?m3 ?m4 ?m5 ?m6) ?d1 ?d2 ?e1 ?e2 ?e3 hnn hi hns hz ?hl ?hlr ?hr ?hb ?k))
  (case m1 => k_mem)
  (case m2 => k_mem)
  (case m3 => k_mem)
  (case m4 => k_mem)
  (case m5 => k_mem)
  (case m6 => k_mem)
  (case d1 => assumption)
  (case d2 => assumption)
  (case e1 => assumption)
  (case e2 => assumption)
  (case e3 => assumption)
  (case hl => omega)
  (case hlr => omega)
  (case hr => omega)
  (case hb => omega)
  intro h3 tk3 t3 hag3 hN3
  rw [Int.sub_zero, hyl, Int.toNat_natCast]
  have N32 : News (hideAll s.heap (List.map (fun x => x.fst) [(dg, W.listOf ys.toArray n), (32, tab32 cc), (cc, oc)])) L' h3 [(32, tab32 cc)] := after_news (fun q hq => by rw [List.mem_singleton.mp hq]; exact N9 _ (by k_mem)) hag3 (by
    intro q hq
    rw [List.mem_singleton.mp hq]
    refine nin_cons' (neN ?_) (nin_cons' (neN ?_) (nin_cons' (neN ?_) (nin_cons' (neN ?_) (nin_cons' (neN ?_) (nin_cons' (neN ?_) (by simp)))))) <;> dsimp only <;> omega)
  have F3 := after_fr F9 (pick6 N9 (by k_mem) (by k_mem) (by k_mem) (by k_mem) (by k_mem) (by k_mem)) hag3
  have N7 := news_app N32 hN3
  clear F9 N9 N32 hN3
  dsimp only [dNews, List.cons_append, List.nil_append] at N7
  dsimp only
  have N3 := pick3 (a := (dg, W.listOf ys.toArray n)) (b := (32, tab32 cc)) N7 d1 (by k_mem) (by k_mem) (by k_mem)
  exact ⟨_, _, _, F3, N3, fun hag hN => k _ _ _ hag hN⟩
theorem d2i_first2g {w : World} {dp un : Nat} {gd : Option (List Code)} {fr : List Env} {h₀ : Heap} {L dg : Addr} {m : Str → Option Value} {s : Shared} {R : Result → Shared → Prop} {tn : Tok} {n : Nat} {ys : List Value} {ns : List Int} {nn : Int}
    (C : Cx w (AA dp un gd fr) h₀ L m s.heap) (hA : dp ≤ 400) (o3 : @Ne Nat 32 dg) (hnn : nn = 1 ∨ nn = 2) (hi : IntsAre ys ns) (hns : ∀ x ∈ ns, 0 ≤ x ∧ x < 2 ^ nn.toNat) (hz : nn * ns.length ≤ 4) (hn1 : 1 ≤ ns.length)
    (N : News h₀ L s.heap [(dg, W.listOf ys.toArray n), (32, tabObj #[])])
    (k : ∀ h' tk t c oc vs tq, Agree [dg, 32] s.heap h' → News h₀ L h' [(dg, W.listOf ys.toArray n), (32, tab32 c), (c, oc)] → oc.data = .fields vs → vs[1]? = some (.str d2iQual tq) → s.heap.objs.size ≤ c → R (.ok (.ret (.int (dv (2 ^ nn.toNat) ns 0 ns.length) t))) { s with heap := h', toks := tk }) :
    codeAny (model PySem.Challenge.rw_pg0121_01.row.prog w) (AA dp un gd fr) (.call (.ref 37) ⟨[.ref dg, .int nn tn], []⟩) R s := by
  have h4 : ns.length ≤ 4 := by rcases hnn with rfl | rfl <;> omega
  have hyl := hi.length
  have X₀ := C.kin
  have F₀ := C.fr
  k_dflt (refine' enterC (binds := [("digits", .ref dg), ("n", .int nn tn)]) C N ?ho ?hcd ?hroom ?hb ?hl ?hn ?_ ?h1 ?h2 ?h3; (case ho => k_is); (case hcd => k_is); (case hroom => k_room); (case hb => exact BindsTo.of_eq rfl); (case hl => exact rfl); (case hn => decide +kernel); (case h1 => exact rfl); (case h2 => exact rfl); (case h3 => exact rfl))
  k_whole
  clear X₀ F₀
  intro base outer env L' h₁ tk cells p loose mean mg mb F' N' Y' B' X' T' hlt
  have H36 := codeHd36 X'
  have eF : some fr = some (env :: outer) := B'.stack
  injection eF with eF
  subst eF
  have hab : @LE.le Nat _ s.heap.objs.size L' := Nat.le_trans (Nat.le_of_eq (hideAll_size _ _).symm) F'.above
  have l0 := hlt
  (try k_lt l0)
  k_cells Y'
  (try simp only [List.cons_append, List.nil_append] at N')
  (try dsimp only); (try k_fold)
  repeat' ((fail_if_success (with_reducible show wpAny _ _ (call (Value.builtin "len") _) _ _ _)); first | (k_unfold; (try dsimp only)) | walk1 | (dsimp only; walk1))
  refine len_any (News.isList (by k_asm) (by k_mem)) (by omega) ?_
  repeat' ((fail_if_success (with_reducible show wpAny _ _ (call (Value.ref _) _) _ _ _)); first | (k_unfold; (try dsimp only)) | walk1 | (dsimp only; walk1))
  rename Fr _ _ _ _ => F9
  rename News _ _ _ _ => N9
  k_dflt (refine' wpAny_call (d_all w (dp := dp + 1) (dg := dg) (ns := ns) ⟨F9, X', ⟨AA dp un gd (env :: outer), base, env :: outer, _, p, loose, mean, mg, mb, B', T', rfl, rfl, rfl⟩⟩ (by omega) (pick6 N9 ?m1 ?m2 ?m3 ?m4 ?m5 ?m6) ?d1 ?d2 ?e1 ?e2 ?e3 hnn hi hns hz ?hl ?hlr ?hr ?hb ?k))
  (case m1 => k_mem)
  (case m2 => k_mem)
  (case m3 => k_mem)
  (case m4 => k_mem)
  (case m5 => k_mem)
  (case m6 => k_mem)
  (case d1 => assumption)
  (case d2 => assumption)
  (case e1 => assumption)
  (case e2 => assumption)
  (case e3 => assumption)
  (case hl => omega)
  (case hlr => omega)
  (case hr => omega)
  (case hb => omega)
  intro h3 tk3 t3 hag3 hN3
  rw [Int.sub_zero, hyl, Int.toNat_natCast]
  have N32 : News (hideAll s.heap (List.map (fun x => x.fst) [(dg, W.listOf ys.toArray n), (32, tabObj #[])])) L' h3 [(32, tab32 _)] := after_news (fun q hq => by rw [List.mem_singleton.mp hq]; exact N9 _ (by k_mem)) hag3 (by
    intro q hq
    rw [List.mem_singleton.mp hq]
    refine nin_cons' (neN ?_) (nin_cons' (neN ?_) (nin_cons' (neN ?_) (nin_cons' (neN ?_) (nin_cons' (neN ?_) (nin_cons' (neN ?_) (by simp)))))) <;> dsimp only <;> omega)
  have F3 := after_fr F9 (pick6 N9 (by k_mem) (by k_mem) (by k_mem) (by k_mem) (by k_mem) (by k_mem)) hag3
  have N7 := news_app N32 hN3
  clear F9 N9 N32 hN3
  dsimp only [dNews, List.cons_append, List.nil_append] at N7
  dsimp only
  have N3 := pick3 (a := (dg, W.listOf ys.toArray n)) (b := (32, _)) N7 (by assumption) (by k_mem) (by k_mem) (by k_mem)
  exact ⟨_, _, _, F3, N3, fun hag hN => k _ _ _ _ _ _ _ hag hN (by assumption) (by assumption) (Nat.le_trans hab (by omega))⟩
theorem d2i_1 {w : World} {dp un : Nat} {gd : Option (List Code)} {fr : List Env} {h₀ : Heap} {L dg cc : Addr} {m : Str → Option Value} {s : Shared} {R : Result → Shared → Prop} {a : Int} {ta : Tok} {tn : Tok} {n : Nat} {oc : Obj} {vs : Array Value} {tq : Tok}
    (C : Cx w (AA dp un gd fr) h₀ L m s.heap) (hA : dp ≤ 400) (o1 : @LT.lt Nat _ 32 cc) (o2 : @Ne Nat cc dg) (o3 : @Ne Nat 32 dg) (ha : 0 ≤ a ∧ a < 4)
    (N : News h₀ L s.heap [(dg, W.listOf #[.int a ta] n), (32, tab32 cc), (cc, oc)]) (d1 : oc.data = .fields vs) (d2 : vs[1]? = some (.str d2iQual tq))
    (k : ∀ h' tk t, Agree [dg, 32, cc] s.heap h' → News h₀ L h' [(dg, W.listOf #[.int a ta] n), (32, tab32 cc), (cc, oc)] → R (.ok (.ret (.int (a) t))) { s with heap := h', toks := tk }) :
    codeAny (model PySem.Challenge.rw_pg0121_01.row.prog w) (AA dp un gd fr) (.call (.ref 37) ⟨[.ref dg, .int 2 tn], []⟩) R s :=
  d2i_hit (ys := [.int a ta]) (ns := [a]) C hA o1 o2 o3 (.inr rfl) (.cons _ _ .nil) (fun x hx => by rw [List.mem_singleton.mp hx]; exact ha) (show (2 : Int) * ((1 : Nat) : Int) ≤ 4 by decide) (Nat.le_refl 1) N d1 d2
    fun h' tk t hag hN => ret_eq (v' := a) (show a + _ * 0 = a by rw [Int.mul_zero, Int.add_zero]) (k h' tk t hag hN)
theorem d2i_2 {w : World} {dp un : Nat} {gd : Option (List Code)} {fr : List Env} {h₀ : Heap} {L dg cc : Addr} {m : Str → Option Value} {s : Shared} {R : Result → Shared → Prop} {a b : Int} {ta tb : Tok} {tn : Tok} {n : Nat} {oc : Obj} {vs : Array Value} {tq : Tok}
    (C : Cx w (AA dp un gd fr) h₀ L m s.heap) (hA : dp ≤ 400) (o1 : @LT.lt Nat _ 32 cc) (o2 : @Ne Nat cc dg) (o3 : @Ne Nat 32 dg) (ha : 0 ≤ a ∧ a < 4) (hb : 0 ≤ b ∧ b < 4)
    (N : News h₀ L s.heap [(dg, W.listOf #[.int a ta, .int b tb] n), (32, tab32 cc), (cc, oc)]) (d1 : oc.data = .fields vs) (d2 : vs[1]? = some (.str d2iQual tq))
    (k : ∀ h' tk t, Agree [dg, 32, cc] s.heap h' → News h₀ L h' [(dg, W.listOf #[.int a ta, .int b tb] n), (32, tab32 cc), (cc, oc)] → R (.ok (.ret (.int (a + 4 * b) t))) { s with heap := h', toks := tk }) :
    codeAny (model PySem.Challenge.rw_pg0121_01.row.prog w) (AA dp un gd fr) (.call (.ref 37) ⟨[.ref dg, .int 2 tn], []⟩) R s :=
  d2i_hit (ys := [.int a ta, .int b tb]) (ns := [a, b]) C hA o1 o2 o3 (.inr rfl) (.cons _ _ (.cons _ _ .nil)) (fun x hx => by
      rcases List.mem_cons.mp hx with rfl | hx
      · exact ha
      · rw [List.mem_singleton.mp hx]; exact hb) (show (2 : Int) * ((2 : Nat) : Int) ≤ 4 by decide) (show 1 ≤ 2 by decide) N d1 d2
    fun h' tk t hag hN => ret_eq (v' := a + 4 * b) (show a + 4 * (b + 4 * 0) = a + 4 * b by rw [Int.mul_zero, Int.add_zero]) (k h' tk t hag hN)
theorem d2i_4 {w : World} {dp un : Nat} {gd : Option (List Code)} {fr : List Env} {h₀ : Heap} {L dg cc : Addr} {m : Str → Option Value} {s : Shared} {R : Result → Shared → Prop} {a b c d : Int} {ta tb tc td : Tok} {tn : Tok} {n : Nat} {oc : Obj} {vs : Array Value} {tq : Tok}
    (C : Cx w (AA dp un gd fr) h₀ L m s.heap) (hA : dp ≤ 400) (o1 : @LT.lt Nat _ 32 cc) (o2 : @LT.lt Nat _ cc dg) (ha : 0 ≤ a ∧ a < 2) (hb : 0 ≤ b ∧ b < 2) (hc : 0 ≤ c ∧ c < 2) (hd : 0 ≤ d ∧ d < 2)
    (N : News h₀ L s.heap [(dg, W.listOf #[.int a ta, .int b tb, .int c tc, .int d td] n), (32, tab32 cc), (cc, oc)]) (d1 : oc.data = .fields vs) (d2 : vs[1]? = some (.str d2iQual tq))
    (k : ∀ h' tk t, Agree [dg, 32, cc] s.heap h' → News h₀ L h' [(dg, W.listOf #[.int a ta, .int b tb, .int c tc, .int d td] n), (32, tab32 cc), (cc, oc)] → R (.ok (.ret (.int (a + 2 * b + 4 * c + 8 * d) t))) { s with heap := h', toks := tk }) :
    codeAny (model PySem.Challenge.rw_pg0121_01.row.prog w) (AA dp un gd fr) (.call (.ref 37) ⟨[.ref dg, .int 1 tn], []⟩) R s :=
  d2i_hit (ys := [.int a ta, .int b tb, .int c tc, .int d td]) (ns := [a, b, c, d]) C hA o1 (Nat.ne_of_lt o2) (Nat.ne_of_lt (Nat.lt_trans o1 o2)) (.inl rfl) (.cons _ _ (.cons _ _ (.cons _ _ (.cons _ _ .nil)))) (fun x hx => by
      rcases List.mem_cons.mp hx with rfl | hx
      · exact ha
      rcases List.mem_cons.mp hx with rfl | hx
      · exact hb
      rcases List.mem_cons.mp hx with rfl | hx
      · exact hc
      · rw [List.mem_singleton.mp hx]; exact hd) (show (1 : Int) * ((4 : Nat) : Int) ≤ 4 by decide) (show 1 ≤ 4 by decide) N d1 d2
    fun h' tk t hag hN => ret_eq (v' := a + 2 * b + 4 * c + 8 * d) (show a + 2 * (b + 2 * (c + 2 * (d + 2 * 0))) = a + 2 * b + 4 * c + 8 * d by omega) (k h' tk t hag hN)
theorem d2i_first2 {w : World} {dp un : Nat} {gd : Option (List Code)} {fr : List Env} {h₀ : Heap} {L dg : Addr} {m : Str → Option Value} {s : Shared} {R : Result → Shared → Prop} {ta tb tn : Tok} {n : Nat}
    (C : Cx w (AA dp un gd fr) h₀ L m s.heap) (hA : dp ≤ 400) (o1 : @Ne Nat 32 dg)
    (N : News h₀ L s.heap [(dg, W.listOf #[.int 1 ta, .int 2 tb] n), (32, tabObj #[])])
    (k : ∀ h' tk t c oc vs tq, Agree [dg, 32] s.heap h' → News h₀ L h' [(dg, W.listOf #[.int 1 ta, .int 2 tb] n), (32, tab32 c), (c, oc)] → oc.data = .fields vs → vs[1]? = some (.str d2iQual tq) → s.heap.objs.size ≤ c → R (.ok (.ret (.int 9 t))) { s with heap := h', toks := tk }) :
    codeAny (model PySem.Challenge.rw_pg0121_01.row.prog w) (AA dp un gd fr) (.call (.ref 37) ⟨[.ref dg, .int 2 tn], []⟩) R s :=
  d2i_first2g (ys := [.int 1 ta, .int 2 tb]) (ns := [1, 2]) C hA o1 (.inr rfl) (.cons _ _ (.cons _ _ .nil)) (fun x hx => by
      rcases List.mem_cons.mp hx with rfl | hx
      · decide
      · rw [List.mem_singleton.mp hx]; decide) (by decide) (by decide) N k
end Mine
end

section
open PySem PySem.W PyProof.Rows
namespace Mine
theorem anew20 : True ∧ True := by
  walk1
  w_top off
  all_goals exact True.intro
end Mine
end

section
open PySem PySem.W PySem.Calls PyProof.Rows
set_option maxRecDepth 100000
set_option maxHeartbeats 1000000
namespace Mine

noncomputable def askDef : Stmt := PySem.Challenge.pw_pg0121_01.main.body.getD 11 (.Pass ⟨0, 0, 0, 0⟩)
noncomputable def askFor : Stmt := (stBody askDef).getD 1 (.Pass ⟨0, 0, 0, 0⟩)
noncomputable abbrev askEnv (L : Addr) : Env := envOf (Str.ofString "_law_asked") (stScope askDef) L 105 (.ref 104)

/-- what the loop of _law_asked makes -/
inductive Ask : List (List Int) → Int → Int → Int → List Int → Int → Int → Int → Prop
  | nil (f b k : Int) : Ask [] f b k [] f b k
  | zero {z : List Int} {zs : List (List Int)} {f b k : Int} {c e : Nat} {figs : List Int} {f' b' k' : Int} : Below' z f c → Below' z b e → k < (e : Int) - c → Ask zs c e k figs f' b' k' → Ask (z :: zs) f b k (0 :: figs) f' b' k'
  | one {z : List Int} {zs : List (List Int)} {f b k : Int} {c e : Nat} {figs : List Int} {f' b' k' : Int} : Below' z f c → Below' z b e → ¬ k < (e : Int) - c → Ask zs (z.length + f - c) (z.length + b - e) (k - ((e : Int) - c)) figs f' b' k' → Ask (z :: zs) f b k (1 :: figs) f' b' k'

noncomputable def Rises (ns : List Int) : Prop := ∀ i j, i ≤ j → j < ns.length → ns.getD i 0 ≤ ns.getD j 0
/-- the noted places lie in the heap -/
inductive LevelsAt (g : Heap) : List Value → List (List Int) → Prop
  | nil : LevelsAt g [] []
  | cons {z : Addr} {vs : List Value} {ns : List Int} {zl : List Value} {zs : List (List Int)} : g.IsList z vs.toArray → IntsAre vs ns → ns.length ≤ 1000 → Rises ns → LevelsAt g zl zs → LevelsAt g (.ref z :: zl) (ns :: zs)

theorem cx_of {w : World} {dp un : Nat} {gd : Option (List Code)} {fr : List Env} {base g : Heap} {L : Addr} {m : Str → Option Value} {h : Heap} {p loose mean mg mb} {un' : Nat} {env : Env}
    (B : Below (AA dp un gd fr) base fr g) (F : Fr g L h m) (X : (hd.heap_1 w.params).In g) (T : Top p loose mean mg mb g) (hf : env.frame = some L := by rfl) (hk : env.scope.kind = .function := by rfl) :
    Cx w (AA (dp + 1) un' gd (env :: fr)) g L m h := ⟨F, X, ⟨AA dp un gd fr, base, fr, env, p, loose, mean, mg, mb, B, T, rfl, hf, hk⟩⟩

theorem bis_here {w : World} {dp un : Nat} {gd : Option (List Code)} {fr : List Env} {base g : Heap} {L z : Addr} {m : Str → Option Value} {s : Shared} {p loose mean mg mb} {E : Value → Shared → Prop} {Q : Value → Shared → Prop}
    {vs : List Value} {ns : List Int} {x : Int} {tx : Tok} {news : List (Addr × Obj)}
    (B : Below (AA dp un gd fr) base fr g) (X : (hd.heap_1 w.params).In g) (T : Top p loose mean mg mb g) (F : Fr g L s.heap m) (N : News g L s.heap news) (hA : dp ≤ 480)
    (gz : g.IsList z vs.toArray) (hi : IntsAre vs ns) (hz : ns.length ≤ 1000) (hs : Rises ns)
    (k : ∀ h' tk t c, Fr g L h' m → News g L h' news → Below' ns x c → Q (.int (c : Nat) t) { s with heap := h', toks := tk }) :
    wpAny (model PySem.Challenge.rw_pg0121_01.row.prog w) ((AA dp un gd fr).deeper (askEnv L)) (call (.ref 23) [.ref z, .int x tx]) Q E s :=
  wpAny_call (bisect_spec (cx_of (env := askEnv L) B F X T rfl rfl) (show dp + 1 ≤ 490 by omega) (gz.at fun o e => F.keep z o e) hi hz hs fun h' tk t c hag hb =>
    k _ _ _ _ (after_fr (news := []) F News.nil hag) (after_news N hag (by simp)) hb)


noncomputable abbrev itObj (l : Addr) (i : Nat) : Obj := { cls := .type "list_iterator", data := .fields #[.ref l, .int i 0] }

theorem ask_turn {w : World} {dp un : Nat} {gd : Option (List Code)} {fr : List Env} {base g : Heap} {L fg z cc it : Addr} {m : Str → Option Value} {s : Shared} {p loose mean mg mb} {Q : Flow → Shared → Prop}
    {vs : List Value} {ns : List Int} {f b k : Int} {tf tb tk0 : Tok} {figs : List Value} {n : Nat} {oc oi : Obj} {tab : Obj}
    (B : Below (AA dp un gd fr) base fr g) (X : (hd.heap_1 w.params).In g) (T : Top p loose mean mg mb g) (F : Fr g L s.heap m) (hA : dp ≤ 480)
    (N : News g L s.heap [(it, oi), (fg, W.listOf figs.toArray n), (32, tab), (cc, oc)])
    (o1 : @LT.lt Nat _ fg it) (o2 : @LT.lt Nat _ cc fg) (o3 : @LT.lt Nat _ 32 cc) (hfl : figs.length < 1000)
    (gz : g.IsList z vs.toArray) (hi : IntsAre vs ns) (hz : ns.length ≤ 1000) (hs : Rises ns)
    (hm1 : m (Str.ofString "figures") = some (.ref fg)) (hm2 : m (Str.ofString "first") = some (.int f tf)) (hm3 : m (Str.ofString "behind") = some (.int b tb)) (hm4 : m (Str.ofString "k") = some (.int k tk0))
    (done : ∀ h' tk (m' : Str → Option Value) (n' : Nat) (d : Int) (t0 t1 t2 t3 : Tok) (c e : Nat) (f' b' k' : Int), Fr g L h' m' → m' (Str.ofString "figures") = some (.ref fg) → m' (Str.ofString "first") = some (.int f' t1) → m' (Str.ofString "behind") = some (.int b' t2) → m' (Str.ofString "k") = some (.int k' t3) →
      News g L h' [(it, oi), (fg, W.listOf (figs ++ [Value.int d t0]).toArray n'), (32, tab), (cc, oc)] → Below' ns f c → Below' ns b e →
      ((k < (e : Int) - c ∧ d = 0 ∧ f' = c ∧ b' = e ∧ k' = k) ∨ (¬ k < (e : Int) - c ∧ d = 1 ∧ f' = ns.length + f - c ∧ b' = ns.length + b - e ∧ k' = k - ((e : Int) - c))) → Q .next { s with heap := h', toks := tk }) :
    wpAny (model PySem.Challenge.rw_pg0121_01.row.prog w) ((AA dp un gd fr).deeper (askEnv L)) (assign (forTarget askFor) (askEnv L) (.ref z)) (fun _ s₂ => wpAny (model PySem.Challenge.rw_pg0121_01.row.prog w) ((AA dp un gd fr).deeper (askEnv L)) (execs (stBody askFor) (askEnv L)) Q (fun _ _ => False) s₂) (fun _ _ => False) s := by
  have F2 := fr4 F hm1 hm2 hm3 hm4
  clear F
  have hzz : figs.toArray.size ≤ sizeLine := by rw [sizeLine_eq]; simp; omega
  conv in forTarget askFor => whnf
  conv in stBody askFor => whnf
  refine wpAny_assign_Name ?_
  repeat' (first | (k_unfold; (try dsimp only)) | ((with_reducible show wpAny _ _ (call (Value.ref 23) _) _ _ _); (k_dflt (refine' bis_here ?zqB ?zqX ?zqT ?zqF ?zqN ?zqhA ?zqgz ?zqhi ?zqhz ?zqhs ?_; (case zqB => assumption); (case zqX => assumption); (case zqT => assumption); (case zqF => assumption); (case zqN => assumption); (case zqhA => assumption); (case zqgz => assumption); (case zqhi => assumption); (case zqhz => assumption); (case zqhs => assumption))); intro _ _ _ _ _ _ _; (try k_sweep)) | (k_end; wrow_close) | walk1 | (dsimp only; walk1) | (leave1; walk_say "STEP leave1"; try dsimp only) | fail "no step")
  · rename Fr _ _ _ _ => F9
    rename News _ _ _ _ => N9
    rename Below' ns f _ => bf
    rename Below' ns b _ => bb
    rw [List.push_toArray] at N9
    exact done _ _ _ _ _ _ _ _ _ _ _ _ _ _ F9 rfl rfl rfl rfl N9 bf bb (.inl ⟨by assumption, rfl, rfl, rfl, rfl⟩)
  · rename Fr _ _ _ _ => F9
    rename News _ _ _ _ => N9
    rename Below' ns f _ => bf
    rename Below' ns b _ => bb
    exact done _ _ _ _ _ _ _ _ _ _ _ _ _ _ F9 rfl rfl rfl rfl N9 bf bb (.inr ⟨by assumption, rfl, rfl, rfl, rfl⟩)

theorem ints_snoc {vs : List Value} {ns : List Int} (h : IntsAre vs ns) (d : Int) (t : Tok) : IntsAre (vs ++ [.int d t]) (ns ++ [d]) := by
  induction h with
  | nil => exact .cons d t .nil
  | cons k u _ ih => exact .cons k u ih
/-- the figures so far -/
theorem ask_loop {g : Heap} {zl : List Value} {zs : List (List Int)} (lv : LevelsAt g zl zs) : ∀ {w : World} {dp un : Nat} {gd : Option (List Code)} {fr : List Env} {base : Heap} {L fg l cc it : Addr} {m : Str → Option Value} {s : Shared} {p loose mean mg mb} {R : Result → Shared → Prop}
    {pre : List Value} {f b k : Int} {tf tb tk0 : Tok} {figs : List Value} {n : Nat} {oc oi : Obj} {tab : Obj} {ds : List Int}
    (_ : Below (AA dp un gd fr) base fr g) (_ : (hd.heap_1 w.params).In g) (_ : Top p loose mean mg mb g) (_ : Fr g L s.heap m) (_ : dp ≤ 480)
    (_ : News g L s.heap [(it, oi), (fg, W.listOf figs.toArray n), (32, tab), (cc, oc)]) (_ : oi.cls = .type "list_iterator") (_ : oi.data = .fields #[.ref l, .int (pre.length : Nat) 0])
    (_ : @LT.lt Nat _ fg it) (_ : @LT.lt Nat _ cc fg) (_ : @LT.lt Nat _ 32 cc) (_ : figs.length + zl.length < 1000) (_ : g.IsList l (pre ++ zl).toArray) (_ : IntsAre figs ds)
    (_ : m (Str.ofString "figures") = some (.ref fg)) (_ : m (Str.ofString "first") = some (.int f tf)) (_ : m (Str.ofString "behind") = some (.int b tb)) (_ : m (Str.ofString "k") = some (.int k tk0))
    (_ : ∀ h' tk (m' : Str → Option Value) (n' : Nat) (t1 t2 t3 : Tok) (f' b' k' : Int) figs' ds', Fr g L h' m' → m' (Str.ofString "figures") = some (.ref fg) → m' (Str.ofString "first") = some (.int f' t1) → m' (Str.ofString "behind") = some (.int b' t2) → m' (Str.ofString "k") = some (.int k' t3) →
      News g L h' [(fg, W.listOf figs'.toArray n'), (32, tab), (cc, oc)] → IntsAre figs' (ds ++ ds') → Ask zs f b k ds' f' b' k' → R (.ok .next) { s with heap := h', toks := tk }),
    codeAny (model PySem.Challenge.rw_pg0121_01.row.prog w) ((AA dp un gd fr).deeper (askEnv L)) (.forLoop (forTarget askFor) (.ref it) (stBody askFor) [] (askEnv L)) R s := by
  induction lv with
  | nil =>
    intro w dp un gd fr base L fg l cc it m s p loose mean mg mb R pre f b k tf tb tk0 figs n oc oi tab ds B X T F hA N hc1 hc2 o1 o2 o3 hl gl hi hm1 hm2 hm3 hm4 done
    have hit : s.heap.IsListIter it l pre.length := ⟨_, (N (it, _) (.head _)).1, hc1, hc2⟩
    refine forLoop_turn (wpAny_pyNext_list_end rfl hit (gl.at fun o e => F.keep l o e) (by simp) fun h' hx => ?_)
    dsimp only
    refine wpAny_execs_nil ?_
    have F' : Fr g L h' m := after_fr (news := [(it, oi)]) F (fun q hq => N q (by rw [List.mem_singleton.mp hq]; exact .head _)) (fun b o e hb => hx b o (by simpa using hb) e)
    refine done _ _ _ n _ _ _ _ _ _ figs [] F' hm1 hm2 hm3 hm4 (fun q hq => ?_) (by simpa using hi) (.nil _ _ _)
    have hq' := N q (.tail _ hq)
    refine ⟨hx _ _ ?_ hq'.1, hq'.2⟩
    simp only [List.mem_cons, List.not_mem_nil, or_false] at hq
    rcases hq with rfl | rfl | rfl <;> (refine neN ?_; dsimp only; omega)
  | cons gz hi0 hz hr lv ih =>
    rename_i z vs ns zl zs
    intro w dp un gd fr base L fg l cc it m s p loose mean mg mb R pre f b k tf tb tk0 figs n oc oi tab ds B X T F hA N hc1 hc2 o1 o2 o3 hl gl hi hm1 hm2 hm3 hm4 done
    have hit : s.heap.IsListIter it l pre.length := ⟨_, (N (it, _) (.head _)).1, hc1, hc2⟩
    refine forLoop_turn (wpAny_pyNext_list_item hit (gl.at fun o e => F.keep l o e) (x := .ref z) (by simp) fun h' hit' hx => ?_)
    obtain ⟨oj, ho1, ho2, ho3⟩ := hit'
    have F' : Fr g L h' m := after_fr (news := [(it, oi)]) F (fun q hq => N q (by rw [List.mem_singleton.mp hq]; exact .head _)) (fun b o e hb => (hx.2 b (by simpa using hb)).trans e)
    have N' : News g L h' [(it, oj), (fg, W.listOf figs.toArray n), (32, tab), (cc, oc)] := fun q hq => by
      rcases List.mem_cons.mp hq with rfl | hq
      · exact ⟨ho1, (N (it, _) (.head _)).2⟩
      · have hq' := N q (.tail _ hq)
        refine ⟨(hx.2 _ ?_).trans hq'.1, hq'.2⟩
        simp only [List.mem_cons, List.not_mem_nil, or_false] at hq
        rcases hq with rfl | rfl | rfl <;> (refine neN ?_; dsimp only; omega)
    simp only [List.length_cons] at hl
    dsimp only
    refine ask_turn B X T F' hA N' o1 o2 o3 (by omega) gz hi0 hz hr hm1 hm2 hm3 hm4 fun h2 tk2 m2 n2 d t0 t1 t2 t3 c e f2 b2 k2 F2 e1 e2 e3 e4 N2 bf bb hc => ?_
    refine ih (l := l) (pre := pre ++ [Value.ref z]) (ds := ds ++ [d]) B X T F2 hA N2 ho2 (by rw [ho3, List.length_append]; rfl) o1 o2 o3 (by simp; omega) (by simpa using gl) ?_ e1 e2 e3 e4 fun h3 tk3 m3 n3 t1' t2' t3' f3 b3 k3 figs3 ds3 F3 q1 q2 q3 q4 N3 hI hask => ?_
    · exact ints_snoc hi d t0
    · refine done _ _ _ _ _ _ _ _ _ _ _ (d :: ds3) F3 q1 q2 q3 q4 N3 (by simpa using hI) ?_
      rcases hc with ⟨h1, rfl, rfl, rfl, rfl⟩ | ⟨h1, rfl, rfl, rfl, rfl⟩
      · exact .zero bf bb h1 hask
      · exact .one bf bb h1 hask
end Mine
end

section
open PySem PySem.W PyProof.Rows
namespace Mine
theorem anew21 : True ∧ True := by
  walk1
  w_top off
  all_goals exact True.intro
end Mine
end

section
open PySem PySem.W PySem.Calls PyProof.Rows
set_option maxRecDepth 100000
set_option maxHeartbeats 1000000
namespace Mine

theorem pyIter_listK {prog : Program} {w : World} {A : Around} {E : Value → Shared → Prop} {s : Shared} {h₀ : Heap} {L l : Addr} {m : Str → Option Value} {news : List (Addr × Obj)} {items : Array Value} {Q : Value → Shared → Prop}
    (F : Fr h₀ L s.heap m) (N : News h₀ L s.heap news) (hl : s.heap.IsList l items)
    (h : ∀ it h', Fr h₀ L h' m → News h₀ L h' ((it, itObj l 0) :: news) → (∀ p ∈ news, p.1 < it) → Q (.ref it) { s with heap := h' }) :
    wpAny (model prog w) A (pyIter (.ref l)) Q E s :=
  wpAny_pyIter_list hl (h _ _ (F.push _) (N.push F _) fun p hp => Heap.lt_size (N p hp).1)

theorem ints4 {vs : List Value} {d0 d1 d2 d3 : Int} (h : IntsAre vs [d0, d1, d2, d3]) : ∃ t0 t1 t2 t3, vs = [.int d0 t0, .int d1 t1, .int d2 t2, .int d3 t3] := by
  cases h with
  | cons _ t0 h => cases h with
    | cons _ t1 h => cases h with
      | cons _ t2 h => cases h with
        | cons _ t3 h => cases h; exact ⟨t0, t1, t2, t3, rfl⟩
theorem ask_length {zs : List (List Int)} {f b k : Int} {ds : List Int} {f' b' k' : Int} (h : Ask zs f b k ds f' b' k') : ds.length = zs.length ∧ ∀ d ∈ ds, 0 ≤ d ∧ d < 2 := by
  induction h with
  | nil => exact ⟨rfl, fun _ h => nomatch h⟩
  | zero _ _ _ _ ih => exact ⟨by simp [ih.1], fun d hd => by rcases List.mem_cons.mp hd with rfl | hd; decide; exact ih.2 d hd⟩
  | one _ _ _ _ ih => exact ⟨by simp [ih.1], fun d hd => by rcases List.mem_cons.mp hd with rfl | hd; decide; exact ih.2 d hd⟩

theorem d2i4_here {w : World} {dp un : Nat} {gd : Option (List Code)} {fr : List Env} {base g : Heap} {L fg cc : Addr} {m : Str → Option Value} {s : Shared} {p loose mean mg mb} {E : Value → Shared → Prop} {Q : Value → Shared → Prop}
    {a b c d : Int} {ta tb tc td tn tq : Tok} {n : Nat} {oc : Obj} {cv : Array Value}
    (B : Below (AA dp un gd fr) base fr g) (X : (hd.heap_1 w.params).In g) (T : Top p loose mean mg mb g) (F : Fr g L s.heap m) (hA : dp ≤ 380) (o1 : @LT.lt Nat _ 32 cc) (o2 : @LT.lt Nat _ cc fg)
    (ha : 0 ≤ a ∧ a < 2) (hb : 0 ≤ b ∧ b < 2) (hc : 0 ≤ c ∧ c < 2) (hd' : 0 ≤ d ∧ d < 2)
    (N : News g L s.heap [(fg, W.listOf #[.int a ta, .int b tb, .int c tc, .int d td] n), (32, tab32 cc), (cc, oc)]) (d1 : oc.data = .fields cv) (d2 : cv[1]? = some (.str d2iQual tq))
    (k : ∀ h' tk t, Fr g L h' m → News g L h' [(fg, W.listOf #[.int a ta, .int b tb, .int c tc, .int d td] n), (32, tab32 cc), (cc, oc)] → Q (.int (a + 2 * b + 4 * c + 8 * d) t) { s with heap := h', toks := tk }) :
    wpAny (model PySem.Challenge.rw_pg0121_01.row.prog w) ((AA dp un gd fr).deeper (askEnv L)) (call (.ref 37) [.ref fg, .int 1 tn]) Q E s :=
  wpAny_call (d2i_4 (cx_of (env := askEnv L) B F X T rfl rfl) (show dp + 1 ≤ 400 by omega) o1 o2 ha hb hc hd' N d1 d2 fun h' tk t hag hN => k _ _ _ (after_fr F N hag) hN)
theorem pick3' {h₀ h : Heap} {L : Addr} {news : List (Addr × Obj)} {a b c : Addr × Obj} (N : News h₀ L h news) (h1 : a ∈ news) (h2 : b ∈ news) (h3 : c ∈ news) : News h₀ L h [b, c, a] := fun p hp => by
  simp only [List.mem_cons, List.not_mem_nil, or_false] at hp
  rcases hp with rfl | rfl | rfl
  · exact N _ h2
  · exact N _ h3
  · exact N _ h1
theorem none_of_hide {h : Heap} {S : List Addr} {a : Addr} (e : (hideAll h S).get? a = none) (hn : a ∉ S) : h.get? a = none := by
  cases q : h.get? a with
  | none => rfl
  | some o => rw [hideAll_get _ q hn] at e; cases e
theorem asked {w : World} {dp un : Nat} {gd : Option (List Code)} {fr : List Env} {h₀ : Heap} {L lv cc : Addr} {m : Str → Option Value} {s : Shared} {R : Result → Shared → Prop} {zl : List Value} {zs : List (List Int)} {f b k : Int} {tf tb tk0 : Tok} {oc : Obj} {cv : Array Value} {tq : Tok}
    (C : Cx w (AA dp un gd fr) h₀ L m s.heap) (hA : dp ≤ 380) (o1 : @LT.lt Nat _ 32 cc)
    (N : News h₀ L s.heap [(32, tab32 cc), (cc, oc)]) (d1 : oc.data = .fields cv) (d2 : cv[1]? = some (.str d2iQual tq))
    (hl : s.heap.IsList lv zl.toArray) (hz : LevelsAt s.heap zl zs) (h4 : zs.length = 4) (hl4 : zl.length = 4)
    (hlc : lv ≠ 32 ∧ lv ≠ cc) (hlz : ∀ z, .ref z ∈ zl → z ≠ 32 ∧ z ≠ cc)
    (done : ∀ h' tk D t0 t1 t2 f' b' k' e0 e1 e2 e3, Agree [32, cc] s.heap h' → News h₀ L h' [(32, tab32 cc), (cc, oc), (D, W.listOf #[.int (e3 + 2 * e2 + 4 * e1 + 8 * e0) t0, .int (f' + k') t1, .int (b' - f') t2] 0)] → s.heap.get? D = none → Ask zs f b k [e0, e1, e2, e3] f' b' k' → R (.ok (.ret (.ref D))) { s with heap := h', toks := tk }) :
    codeAny (model PySem.Challenge.rw_pg0121_01.row.prog w) (AA dp un gd fr) (.call (.ref 105) ⟨[.ref lv, .int f tf, .int b tb, .int k tk0], []⟩) R s := by
  have X₀ := C.kin
  have F₀ := C.fr
  k_dflt (refine' enter (binds := [("levels", .ref lv), ("first", .int f tf), ("behind", .int b tb), ("k", .int k tk0)]) C N ?ho ?hcd ?hroom ?hb ?hl ?_ ?hc ?h1 ?h2 ?h3; (case ho => k_is); (case hcd => k_is); (case hroom => k_room); (case hb => exact BindsTo.of_eq rfl); (case hl => exact locs rfl); (case hc => decide); (case h1 => exact rfl); (case h2 => exact rfl); (case h3 => exact rfl))
  k_whole
  clear X₀ F₀
  intro base outer env L' h₁ p loose mean mg mb F' N' B' X' T' hlt
  have hab : @LE.le Nat _ s.heap.objs.size L' := Nat.le_trans (Nat.le_of_eq (hideAll_size _ _).symm) F'.above
  have eF : some fr = some (env :: outer) := B'.stack
  injection eF with eF
  subst eF
  have l0 := hlt
  (try k_lt l0)
  have keep : ∀ a o, s.heap.get? a = some o → a ≠ 32 → a ≠ cc → (hideAll s.heap (List.map (fun x => x.fst) [(32, tab32 cc), (cc, oc)])).get? a = some o := fun a o e n1 n2 => hideAll_get _ e (by simp [n1, n2])
  have gl : (hideAll s.heap (List.map (fun x => x.fst) [(32, tab32 cc), (cc, oc)])).IsList lv zl.toArray := hl.at fun o e => keep _ _ e hlc.1 hlc.2
  have gz : LevelsAt (hideAll s.heap (List.map (fun x => x.fst) [(32, tab32 cc), (cc, oc)])) zl zs := by
    clear hl4 h4 hl gl done
    induction hz with
    | nil => exact .nil
    | cons a1 a2 a3 a4 _ ih =>
      have hh := hlz _ (.head _)
      exact .cons (a1.at fun o e => keep _ _ e hh.1 hh.2) a2 a3 a4 (ih fun z hz => hlz z (.tail _ hz))
  (try dsimp only); (try k_fold)
  repeat' (first | (k_unfold; (try dsimp only)) | ((with_reducible show wpAny _ _ (call (Value.ref 37) _) _ _ _); (k_dflt (refine' d2i4_here ?zqB ?zqX ?zqT ?zqF ?zqhA ?zqo1 ?zqo2 ?zqha ?zqhb ?zqhc ?zqhd ?zqN ?zqd1 ?zqd2 ?_; (case zqB => assumption); (case zqX => assumption); (case zqT => assumption); (case zqF => assumption); (case zqN => assumption); (case zqhA => assumption); (case zqo1 => assumption); (case zqo2 => (refine ltN ?_; omega)); (case zqha => assumption); (case zqhb => assumption); (case zqhc => assumption); (case zqhd => assumption); (case zqd1 => assumption); (case zqd2 => assumption))); intro _ _ _ _ _; (try k_sweep)) | ((with_reducible show wpAny _ _ (pyIter (Value.ref _)) _ _ _); (k_dflt (refine' pyIter_listK ?zqF ?zqN ?zql ?_; (case zqF => k_asm); (case zqN => k_asm); (case zql => is_list))); walk_at "In9") | ((with_reducible show wpAny _ _ (exec (Stmt.For _ (Expr.Name _ _) _ _ _) _) _ _ _); (k_dflt (refine wpAny_For ?_))) | (k_end; wrow_close) | walk1 | (dsimp only; walk1) | (leave1; walk_say "STEP leave1"; try dsimp only) | fail "no step")
  rename Fr _ _ _ _ => F9
  rename News _ _ _ _ => N9
  refine' ask_loop gz (pre := []) (figs := []) (ds := []) B' X' T' F9 (by omega) N9 rfl rfl ?p1 ?p2 o1 (by simp; omega) gl .nil rfl rfl rfl rfl ?dn
  case p1 => refine ltN ?_; omega
  case p2 => refine ltN ?_; omega
  intro h2 tk2 m2 n2 t1 t2 t3 f2 b2 k2 figs2 ds2 F2 e1 e2 e3 e4 N2 hI hask
  clear F9 N9
  obtain ⟨hlen, hbits⟩ := ask_length hask
  obtain ⟨c0, c1, c2, c3, rfl⟩ : ∃ c0 c1 c2 c3, ds2 = [c0, c1, c2, c3] := by
    rw [h4] at hlen
    match ds2, hlen with
    | [c0, c1, c2, c3], _ => exact ⟨c0, c1, c2, c3, rfl⟩
  obtain ⟨u0, u1, u2, u3, rfl⟩ := ints4 (by simpa using hI)
  have hb0 := hbits c0 (by simp)
  have hb1 := hbits c1 (by simp)
  have hb2 := hbits c2 (by simp)
  have hb3 := hbits c3 (by simp)
  have F4 := fr4 F2 e1 e2 e3 e4
  clear F2
  dsimp only
  repeat' (first | (k_unfold; (try dsimp only)) | ((with_reducible show wpAny _ _ (call (Value.ref 37) _) _ _ _); (k_dflt (refine' d2i4_here ?zqB ?zqX ?zqT ?zqF ?zqhA ?zqo1 ?zqo2 ?zqha ?zqhb ?zqhc ?zqhd ?zqN ?zqd1 ?zqd2 ?_; (case zqB => assumption); (case zqX => assumption); (case zqT => assumption); (case zqF => assumption); (case zqN => assumption); (case zqhA => assumption); (case zqo1 => assumption); (case zqo2 => (refine ltN ?_; omega)); (case zqha => assumption); (case zqhb => assumption); (case zqhc => assumption); (case zqhd => assumption); (case zqd1 => assumption); (case zqd2 => assumption))); intro _ _ _ _ _; (try k_sweep)) | ((with_reducible show wpAny _ _ (pyIter (Value.ref _)) _ _ _); (k_dflt (refine' pyIter_listK ?zqF ?zqN ?zql ?_; (case zqF => k_asm); (case zqN => k_asm); (case zql => is_list))); walk_at "In9") | ((with_reducible show wpAny _ _ (exec (Stmt.For _ (Expr.Name _ _) _ _ _) _) _ _ _); (k_dflt (refine wpAny_For ?_))) | (k_end; wrow_close) | walk1 | (dsimp only; walk1) | (leave1; walk_say "STEP leave1"; try dsimp only) | fail "no step")
  dsimp only
  rename Fr _ _ _ _ => F9
  rename News _ _ _ _ => N9
  have NE := pick3' (b := (32, tab32 cc)) (c := (cc, oc)) N9 (.head _) (by k_mem) (by k_mem)
  refine ⟨_, _, _, F9, NE, fun hag hN => done _ _ _ _ _ _ _ _ _ c0 c1 c2 c3 hag hN ?_ hask⟩
  have hz0 := (N9 _ (.head _)).2.2
  refine none_of_hide hz0 ?_
  simp only [List.map_cons, List.map_nil, List.mem_cons, List.not_mem_nil, or_false, not_or]
  refine ⟨neN ?_, neN ?_⟩ <;> omega
end Mine
end

section
open PySem PySem.W PyProof.Rows
namespace Mine
theorem anew22 : True ∧ True := by
  walk1
  w_top off
  all_goals exact True.intro
end Mine
end

section
open PySem PySem.W PySem.Calls PyProof.Rows PyProof.Rows.LCg
set_option maxRecDepth 100000
set_option maxHeartbeats 1000000
namespace Mine
section
variable {prog : Program} {w : World} {A : Around} {E : Value → Shared → Prop} {s : Shared} {h₀ : Heap} {L : Addr} {m : Str → Option Value} {env : Env}
/-- a list comprehension over a text's signs -/
theorem ListComp_S {elt iter : Expr} {x : Str} {px : Pos} {scope : Scope} {cl : List (Str × Addr)} {pos : Pos} {Q : Value → Shared → Prop}
    (hclos : closureFor scope env = pure cl) (hcell : ∀ y ∈ scope.names, y.2 ≠ .cell) (hkind : scope.kind = .function)
    (hnames : ∀ y ∈ scope.names, y.2 = .local → scope.names.lookup y.1 = some .local) (hx : scope.names.lookup x = some .local)
    (h : wpAny (model prog w) A (eval iter env) (fun xv s₁ => ∃ y t news, xv = .str y t ∧ A.handled = none ∧ Fr h₀ L s₁.heap m ∧ News h₀ L s₁.heap news ∧ y.cps.all (· < 128) = true ∧ y.cps.size ≤ sizeLine ∧
      ∀ s₂ : Shared, (∃ h, s₂ = { s₁ with heap := h }) → CompRest prog w A h₀ L m env elt x scope cl s₂ (fun _ => True) (SignAt y) (FinE h₀ L m s₂ Q) y.cps.size 0 [] news) E s)
    (hs : ∀ x, foldedSetIterable iter env x = pure x := by intro _; rfl) :
    wpAny (model prog w) A (eval (.ListComp elt [⟨.Name x px, iter, [], 0⟩] scope pos) env) Q E s := by
  show wpAny (model prog w) A (comprehension (.ListComp elt [⟨.Name x px, iter, [], 0⟩] scope pos) scope env _ (newList []) false (eval iter env)) Q E s
  refine wpAny_comprehension_free (use := none) rfl hs hclos hkind hnames (wpAny_mono h (fun xv s₁ h₁ => ?_) fun _ _ e => e)
  obtain ⟨y, t, news, rfl, hh, F, N, ha, hsz, R⟩ := h₁
  refine wpAny_pyIter_ascii ha ?_
  refine block_U (Walks.strAscii hh s₁.heap.objs.size y t) hsz (fun i h st => by obtain ⟨o, e, _⟩ := st; exact ⟨o, e⟩)
    (fun i h h' o nw st e e' _ _ _ => by obtain ⟨o2, e2, r⟩ := st; rw [e] at e2; cases e2; exact ⟨o, e', r⟩) hcell hkind hx ⟨_, Heap.get?_push_size _ rfl, rfl, rfl⟩ (fun b hb => ?_)
    (F.keeps fun _ _ e => Heap.get?_push_of_some _ e) (N.grown fun _ _ e => Heap.get?_push_of_some _ e) (Nat.ne_of_lt F.ns.lt) (next_is_new F) (fun p hp => Nat.ne_of_lt (Heap.lt_size (N p hp).1)) trivial (R _ ⟨_, rfl⟩) ?_
  · rw [List.mem_singleton.mp hb]
    show s₁.heap.objs.size < (s₁.heap.push _).objs.size
    rw [Heap.size_push]; exact Nat.lt_succ_self _
  · intro D C h tk m' ys news' F' N' o1 hn hC₀ hD₀ hCL hDL hCD offC fin
    refine ⟨m', hn, fun h'' hs'' => fin D h'' tk (F'.change hs'' hCL hC₀) (fun p hp => ?_) o1⟩
    refine ⟨hs''.extBut _ _ ?_ (N' p hp).1, (N' p hp).2⟩
    rcases List.mem_cons.mp hp with rfl | hp
    · exact Ne.symm hCD
    · exact offC p hp
end
end Mine
end

section
open PySem PySem.W PyProof.Rows
namespace Mine
theorem anew23 : True ∧ True := by
  walk1
  w_top off
  all_goals exact True.intro
end Mine
end

section
open PySem PySem.W PySem.Calls PyProof.Rows PyProof.Rows.LCg
set_option maxRecDepth 100000
set_option maxHeartbeats 1000000
namespace Mine
noncomputable def wriDef : Stmt := PySem.Challenge.pw_pg0121_01.main.body.getD 9 (.Pass ⟨0, 0, 0, 0⟩)
noncomputable abbrev wriEnv (L : Addr) : Env := envOf (Str.ofString "_law_written") (stScope wriDef) L 91 (.ref 90)
noncomputable def retExpr : Stmt → Expr
  | .Return (some e) _ => e
  | _ => .Constant .none 0 ⟨0, 0, 0, 0⟩
noncomputable def callArg : Expr → Expr
  | .Call _ (a :: _) _ _ => a
  | e => e
noncomputable def binL : Expr → Expr
  | .BinOp l _ _ _ => l
  | e => e
noncomputable def binR : Expr → Expr
  | .BinOp _ _ r _ => r
  | e => e
noncomputable def compElt : Expr → Expr
  | .ListComp e _ _ _ => e
  | e => e
noncomputable def compSco : Expr → Scope
  | .ListComp _ _ s _ => s
  | _ => default
noncomputable def wriC1 : Expr := callArg (retExpr ((stBody ((stBody wriDef).getD 0 (.Pass ⟨0, 0, 0, 0⟩))).getD 0 (.Pass ⟨0, 0, 0, 0⟩)))
noncomputable def wriC2 : Expr := callArg (binR (binL (retExpr ((stBody wriDef).getD 1 (.Pass ⟨0, 0, 0, 0⟩)))))
/-- a sign behind a backslash -/
noncomputable def escB (c : Nat) : Str := Str.ofString "\\" ++ one c
/-- a sign between quotation marks -/
noncomputable def escQ (c : Nat) : Str := if c = 34 ∨ c = 92 then escB c else one c

theorem strs_snoc {vs : List Value} {ns : List Str} (h : StrsAre vs ns) (d : Str) (t : Tok) : StrsAre (vs ++ [.str d t]) (ns ++ [d]) := by
  induction h with
  | nil => exact .cons d t .nil
  | cons k u _ ih => exact .cons k u ih
theorem take_map_snoc {α : Type} {l : Array Nat} {i c : Nat} (f : Nat → α) (hc : l[i]? = some c) : (l.toList.take (i + 1)).map f = (l.toList.take i).map f ++ [f c] := by
  rw [List.take_add_one, List.map_append, show l.toList[i]? = some c from by simpa using hc]
  rfl
theorem wri1_rest {w : World} {dp un : Nat} {gd : Option (List Code)} {fr : List Env} {base g : Heap} {L : Addr} {m : Str → Option Value} {p loose mean mg mb} {y : Str} {s₂ : Shared} {Fin : List Value → List (Addr × Obj) → Prop}
    (B : Below (AA dp un gd fr) base fr g) (X : (hd.heap_1 w.params).In g) (T : Top p loose mean mg mb g) (hA : dp ≤ 480)
    (fin : ∀ ys, StrsAre ys (y.cps.toList.map escB) → Fin ys []) : ∀ k i ys, i + k = y.cps.size → StrsAre ys ((y.cps.toList.take i).map escB) →
    CompRest PySem.Challenge.rw_pg0121_01.row.prog w ((AA dp un gd fr).deeper (wriEnv L)) g L m (wriEnv L) (compElt wriC1) (Str.ofString "sign") (compSco wriC1) [] s₂ (fun _ => True) (SignAt y) Fin k i ys [] := by
  intro k
  induction k with
  | zero =>
    intro i ys hi hy
    refine CompRest.zero (fin ys ?_)
    rw [List.take_of_length_le (by simp; omega)] at hy
    exact hy
  | succ k ih =>
    intro i ys hi hy
    refine CompRest.succ ?_
    intro v I oI C oC D m₂ h tk E' hP hNs hmx F N off ne
    obtain ⟨c, u, hc, rfl⟩ := hP
    conv in compElt wriC1 => whnf
    k_steps
    refine ih _ _ (by omega) ?_
    rw [take_map_snoc escB hc]
    exact strs_snoc hy _ _

theorem in_two {prog : Program} {w : World} {A : Around} {E : Value → Shared → Prop} {s : Shared} {c : Nat} {u t : Tok} {Q : Value → Shared → Prop} (h : Q (.bool (decide (c = 34 ∨ c = 92))) s) :
    wpAny (model prog w) A (compareOp .In (.str ⟨#[c]⟩ u) (.str (Str.ofString "\"\\") t)) Q E s := by
  refine PyProof.Rows.in_str ?_
  have e : (!(Builtin.Str.occurrences (Str.ofString "\"\\") ⟨#[c]⟩ 0 (Str.ofString "\"\\").length 1).isEmpty) = decide (c = 34 ∨ c = 92) := by
    refine (StrLaws.found_one _ _).trans ?_
    rw [show (Str.ofString "\"\\").cps.toList = [34, 92] from by decide +kernel]
    simp
  rw [e]; exact h

theorem wri2_rest {w : World} {dp un : Nat} {gd : Option (List Code)} {fr : List Env} {base g : Heap} {L : Addr} {m : Str → Option Value} {p loose mean mg mb} {y : Str} {s₂ : Shared} {Fin : List Value → List (Addr × Obj) → Prop}
    (B : Below (AA dp un gd fr) base fr g) (X : (hd.heap_1 w.params).In g) (T : Top p loose mean mg mb g) (hA : dp ≤ 480)
    (fin : ∀ ys, StrsAre ys (y.cps.toList.map escQ) → Fin ys []) : ∀ k i ys, i + k = y.cps.size → StrsAre ys ((y.cps.toList.take i).map escQ) →
    CompRest PySem.Challenge.rw_pg0121_01.row.prog w ((AA dp un gd fr).deeper (wriEnv L)) g L m (wriEnv L) (compElt wriC2) (Str.ofString "sign") (compSco wriC2) [] s₂ (fun _ => True) (SignAt y) Fin k i ys [] := by
  intro k
  induction k with
  | zero =>
    intro i ys hi hy
    refine CompRest.zero (fin ys ?_)
    rw [List.take_of_length_le (by simp; omega)] at hy
    exact hy
  | succ k ih =>
    intro i ys hi hy
    refine CompRest.succ ?_
    intro v I oI C oC D m₂ h tk E' hP hNs hmx F N off ne
    obtain ⟨c, u, hc, rfl⟩ := hP
    conv in compElt wriC2 => whnf
    by_cases hcc : c = 34 ∨ c = 92
    · have hd : decide (c = 34 ∨ c = 92) = true := decide_eq_true hcc
      repeat' (first | (k_unfold; (try dsimp only)) | ((with_reducible show wpAny _ _ (compareOp CmpOp.In (Value.str _ _) (Value.str _ _)) _ _ _); k_dflt (refine in_two ?_)) | (k_end; wrow_close) | walk1 | (dsimp only; walk1) | (leave1; walk_say "STEP leave1"; try dsimp only) | fail "no step")
      refine ih _ _ (by omega) ?_
      rw [take_map_snoc escQ hc, show escQ c = escB c from if_pos hcc]
      exact strs_snoc hy _ _
    · have hd : decide (c = 34 ∨ c = 92) = false := decide_eq_false hcc
      repeat' (first | (k_unfold; (try dsimp only)) | ((with_reducible show wpAny _ _ (compareOp CmpOp.In (Value.str _ _) (Value.str _ _)) _ _ _); k_dflt (refine in_two ?_)) | (k_end; wrow_close) | walk1 | (dsimp only; walk1) | (leave1; walk_say "STEP leave1"; try dsimp only) | fail "no step")
      refine ih _ _ (by omega) ?_
      rw [take_map_snoc escQ hc, show escQ c = one c from if_neg hcc]
      exact strs_snoc hy _ _
end Mine
end

section
open PySem PySem.W PyProof.Rows
namespace Mine
theorem anew24 : True ∧ True := by
  walk1
  w_top off
  all_goals exact True.intro
end Mine
end

section
open PySem PySem.W PySem.Calls PyProof.Rows PyProof.Rows.LCg
set_option maxRecDepth 100000
set_option maxHeartbeats 1000000
namespace Mine

/-- a word as it is written: bare, or between quotation marks -/
noncomputable def writtenB (x : Str) : Str := Txt.join (Str.ofString "") (x.cps.toList.map escB)
noncomputable def writtenQ (x : Str) : Str := Str.ofString "\"" ++ Txt.join (Str.ofString "") (x.cps.toList.map escQ) ++ Str.ofString "\""

theorem escB_len (c : Nat) : (escB c).length = 2 := by rw [escB, Str.length_append]; rfl
theorem escQ_len (c : Nat) : (escQ c).length ≤ 2 := by
  unfold escQ; split
  · rw [escB_len]; exact Nat.le_refl _
  · exact Nat.le_succ 1
theorem sum_le2 (f : Nat → Str) (hf : ∀ c, (f c).length ≤ 2) : ∀ l : List Nat, ((l.map f).map (·.length)).sum ≤ 2 * l.length
  | [] => Nat.le_refl _
  | c :: l => by
    have h1 := sum_le2 f hf l
    have h2 := hf c
    simp only [List.map_cons, List.sum_cons, List.length_cons] at *
    omega
theorem join_here {prog : Program} {w : World} {A : Around} {E : Value → Shared → Prop} {s : Shared} {t : Tok} {Q : Value → Shared → Prop} {D : Addr} {ys : List Value} {l : List Nat} {f : Nat → Str} (hf : ∀ c, (f c).length ≤ 2)
    (hl : s.heap.IsList D ys.toArray) (hi : StrsAre ys (l.map f)) (hz : l.length ≤ 2) (h : ∀ t' k, Q (.str (Txt.join (Str.ofString "") (l.map f)) t') { s with toks := k }) :
    wpAny (model prog w) A (call (.builtin "str.join") [.str (Str.ofString "") t, .ref D]) Q E s :=
  join_listW hl (by simpa using hi) (by decide +kernel) (by have := sum_le2 f hf l; simp only [List.length_map] at *; omega) h
theorem joined_len {l : List Nat} {f : Nat → Str} (hf : ∀ c, (f c).length ≤ 2) (hz : l.length ≤ 2) : (Txt.join (Str.ofString "") (l.map f)).length ≤ 4 := by
  have h1 := sum_le2 f hf l
  show (Builtin.Str.glued (Str.ofString "") (l.map f)).length ≤ 4
  rw [StrLaws.glued_eq_join]
  refine Nat.le_trans (StrLaws.join_length_le _ _) ?_
  rw [show (Str.ofString "").length = 0 from by decide +kernel, Nat.mul_zero]
  omega
theorem add_here {prog : Program} {w : World} {A : Around} {E : Value → Shared → Prop} {s : Shared} {x y : Str} {t u : Tok} {Q : Value → Shared → Prop} (hx : x.length ≤ 1000) (hy : y.length ≤ 1000)
    (h : ∀ t' tk, Q (.str (x ++ y) t') { s with toks := tk }) : wpAny (model prog w) A (binaryOp .Add (.str x t) (.str y u)) Q E s :=
  PyProof.Rows.add_str h (by rw [sizeLine_eq]; omega)
theorem truthy_here {prog : Program} {w : World} {A : Around} {E : Value → Shared → Prop} {s : Shared} {x : Str} {t : Tok} {Q : Bool → Shared → Prop} (hx : x.cps.size ≤ 1000) (hn : x.cps.size ≠ 0)
    (h : Q true { s with toks := s.toks + 1 + 1 }) : wpAny (model prog w) A (truthy (.str x t)) Q E s := by
  refine SBL.truthy (show ((x.cps.size : Nat) : Int) < _ by omega) ?_
  rw [show ((x.length : Int) != 0) = true from by simp only [bne_iff_ne, ne_eq]; show ¬ ((x.cps.size : Nat) : Int) = 0; omega]
  exact h
/-- ListComp_S, the frame told -/
theorem ListComp_SF {prog : Program} {w : World} {A : Around} {E : Value → Shared → Prop} {s : Shared} {h₀ : Heap} {L : Addr} {m : Str → Option Value} {env : Env} {elt iter : Expr} {x : Str} {px : Pos} {scope : Scope} {cl : List (Str × Addr)} {pos : Pos} {Q : Value → Shared → Prop}
    (_ : Fr h₀ L s.heap m) (hclos : closureFor scope env = pure cl) (hcell : ∀ y ∈ scope.names, y.2 ≠ .cell) (hkind : scope.kind = .function)
    (hnames : ∀ y ∈ scope.names, y.2 = .local → scope.names.lookup y.1 = some .local) (hx : scope.names.lookup x = some .local)
    (h : wpAny (model prog w) A (eval iter env) (fun xv s₁ => ∃ y t news, xv = .str y t ∧ A.handled = none ∧ Fr h₀ L s₁.heap m ∧ News h₀ L s₁.heap news ∧ y.cps.all (· < 128) = true ∧ y.cps.size ≤ sizeLine ∧
      ∀ s₂ : Shared, (∃ h, s₂ = { s₁ with heap := h }) → CompRest prog w A h₀ L m env elt x scope cl s₂ (fun _ => True) (SignAt y) (FinE h₀ L m s₂ Q) y.cps.size 0 [] news) E s)
    (hs : ∀ x, foldedSetIterable iter env x = pure x := by intro _; rfl) :
    wpAny (model prog w) A (eval (.ListComp elt [⟨.Name x px, iter, [], 0⟩] scope pos) env) Q E s := ListComp_S hclos hcell hkind hnames hx h hs
theorem written_q {w : World} {dp un : Nat} {gd : Option (List Code)} {fr : List Env} {h₀ : Heap} {L : Addr} {m : Str → Option Value} {s : Shared} {R : Result → Shared → Prop} {x : Str} {t tb : Tok}
    (C : Cx w (AA dp un gd fr) h₀ L m s.heap) (hA : dp ≤ 400) (hx : x.cps.toList.length ≤ 2) (ha : x.cps.all (· < 128) = true)
    (k : ∀ h' tk t', Agree [] s.heap h' → R (.ok (.ret (.str (writtenQ x) t'))) { s with heap := h', toks := tk }) :
    codeAny (model PySem.Challenge.rw_pg0121_01.row.prog w) (AA dp un gd fr) (.call (.ref 91) ⟨[.str x t, .int 0 tb], []⟩) R s := by
  have X₀ := C.kin
  have F₀ := C.fr
  have hx2 : x.cps.size ≤ 2 := by simpa using hx
  have hjQ := joined_len (f := escQ) escQ_len hx
  have hjB := joined_len (f := escB) (fun c => Nat.le_of_eq (escB_len c)) hx
  k_dflt (refine' enter (binds := [("word", .str x t), ("bare", .int 0 tb)]) C News.nil ?ho ?hcd ?hroom ?hb ?hl ?_ ?hc ?h1 ?h2 ?h3; (case ho => k_is); (case hcd => k_is); (case hroom => k_room); (case hb => exact BindsTo.of_eq rfl); (case hl => exact locs rfl); (case hc => decide); (case h1 => exact rfl); (case h2 => exact rfl); (case h3 => exact rfl))
  k_whole
  clear X₀ F₀
  intro base outer env L' h₁ p loose mean mg mb F' N' B' X' T' hlt
  have eF : some fr = some (env :: outer) := B'.stack
  injection eF with eF
  subst eF
  (try dsimp only); (try k_fold)
  repeat' ((fail_if_success (with_reducible show wpAny _ _ (eval (Expr.ListComp _ _ _ _) _) _ _ _)); first | (k_unfold; (try dsimp only)) | ((with_reducible show wpAny _ _ (call (Value.builtin "str.join") _) _ _ _); (k_dflt (first | refine join_here escQ_len (News.isList (by k_asm) (by k_mem)) (by assumption) (by assumption) ?_ | refine join_here (fun c => Nat.le_of_eq (escB_len c)) (News.isList (by k_asm) (by k_mem)) (by assumption) (by assumption) ?_)); intro _ _) | ((with_reducible show wpAny _ _ (truthy (Value.str _ _)) _ _ _); (k_dflt (refine truthy_here (by omega) (by assumption) ?_))) | ((with_reducible show wpAny _ _ (binaryOp Operator.Add (Value.str _ _) (Value.str _ _)) _ _ _); (k_dflt (refine' add_here ?zqa ?zqb ?_; (case zqa => (first | (simp only [Str.length_append]; omega) | (simp only [Str.length_append]; (have zh9 : (Str.ofString "\"").length = 1 := by decide +kernel); omega) | exact Nat.le_of_ble_eq_true rfl)); (case zqb => first | omega | exact Nat.le_of_ble_eq_true rfl))); intro _ _) | walk1 | (dsimp only; walk1))
  rename Fr _ _ _ _ => F8
  refine ListComp_SF F8 (by rfl) (by decide) (by rfl) (by decide) (by rfl) ?_
  repeat' ((fail_if_success (with_reducible show Exists _)); first | (k_unfold; (try dsimp only)) | ((with_reducible show wpAny _ _ (call (Value.builtin "str.join") _) _ _ _); (k_dflt (first | refine join_here escQ_len (News.isList (by k_asm) (by k_mem)) (by assumption) (by assumption) ?_ | refine join_here (fun c => Nat.le_of_eq (escB_len c)) (News.isList (by k_asm) (by k_mem)) (by assumption) (by assumption) ?_)); intro _ _) | ((with_reducible show wpAny _ _ (truthy (Value.str _ _)) _ _ _); (k_dflt (refine truthy_here (by omega) (by assumption) ?_))) | ((with_reducible show wpAny _ _ (binaryOp Operator.Add (Value.str _ _) (Value.str _ _)) _ _ _); (k_dflt (refine' add_here ?zqa ?zqb ?_; (case zqa => (first | (simp only [Str.length_append]; omega) | (simp only [Str.length_append]; (have zh9 : (Str.ofString "\"").length = 1 := by decide +kernel); omega) | exact Nat.le_of_ble_eq_true rfl)); (case zqb => first | omega | exact Nat.le_of_ble_eq_true rfl))); intro _ _) | walk1 | (dsimp only; walk1))
  rename Fr _ _ _ _ => F9
  rename News _ _ _ _ => N9
  refine ⟨x, t, [], rfl, rfl, F9, N9, ha, by rw [sizeLine_eq]; omega, fun s₂ hs₂ => wri2_rest B' X' T' (by omega) (fun ys hys => ?_) _ 0 [] (by omega) .nil⟩
  intro D h2 tk2 F2 N2 o2
  obtain ⟨h9, rfl⟩ := hs₂
  clear F9 N9
  dsimp only
  repeat' (first | (k_unfold; (try dsimp only)) | ((with_reducible show wpAny _ _ (call (Value.builtin "str.join") _) _ _ _); (k_dflt (first | refine join_here escQ_len (News.isList (by k_asm) (by k_mem)) (by assumption) (by assumption) ?_ | refine join_here (fun c => Nat.le_of_eq (escB_len c)) (News.isList (by k_asm) (by k_mem)) (by assumption) (by assumption) ?_)); intro _ _) | ((with_reducible show wpAny _ _ (truthy (Value.str _ _)) _ _ _); (k_dflt (refine truthy_here (by omega) (by assumption) ?_))) | ((with_reducible show wpAny _ _ (binaryOp Operator.Add (Value.str _ _) (Value.str _ _)) _ _ _); (k_dflt (refine' add_here ?zqa ?zqb ?_; (case zqa => (first | (simp only [Str.length_append]; omega) | (simp only [Str.length_append]; (have zh9 : (Str.ofString "\"").length = 1 := by decide +kernel); omega) | exact Nat.le_of_ble_eq_true rfl)); (case zqb => first | omega | exact Nat.le_of_ble_eq_true rfl))); intro _ _) | (k_end; wrow_close) | walk1 | (dsimp only; walk1) | (leave1; walk_say "STEP leave1"; try dsimp only) | fail "no step")
  dsimp only
  exact ⟨_, _, _, by k_asm, News.nil, fun hag _ => k _ _ _ hag⟩
theorem written_b {w : World} {dp un : Nat} {gd : Option (List Code)} {fr : List Env} {h₀ : Heap} {L : Addr} {m : Str → Option Value} {s : Shared} {R : Result → Shared → Prop} {x : Str} {t tb : Tok}
    (C : Cx w (AA dp un gd fr) h₀ L m s.heap) (hA : dp ≤ 400) (hx : x.cps.toList.length ≤ 2) (ha : x.cps.all (· < 128) = true) (hne : x.cps.size ≠ 0)
    (k : ∀ h' tk t', Agree [] s.heap h' → R (.ok (.ret (.str (writtenB x) t'))) { s with heap := h', toks := tk }) :
    codeAny (model PySem.Challenge.rw_pg0121_01.row.prog w) (AA dp un gd fr) (.call (.ref 91) ⟨[.str x t, .int 1 tb], []⟩) R s := by
  have X₀ := C.kin
  have F₀ := C.fr
  have hx2 : x.cps.size ≤ 2 := by simpa using hx
  have hjQ := joined_len (f := escQ) escQ_len hx
  have hjB := joined_len (f := escB) (fun c => Nat.le_of_eq (escB_len c)) hx
  k_dflt (refine' enter (binds := [("word", .str x t), ("bare", .int 1 tb)]) C News.nil ?ho ?hcd ?hroom ?hb ?hl ?_ ?hc ?h1 ?h2 ?h3; (case ho => k_is); (case hcd => k_is); (case hroom => k_room); (case hb => exact BindsTo.of_eq rfl); (case hl => exact locs rfl); (case hc => decide); (case h1 => exact rfl); (case h2 => exact rfl); (case h3 => exact rfl))
  k_whole
  clear X₀ F₀
  intro base outer env L' h₁ p loose mean mg mb F' N' B' X' T' hlt
  have eF : some fr = some (env :: outer) := B'.stack
  injection eF with eF
  subst eF
  (try dsimp only); (try k_fold)
  repeat' ((fail_if_success (with_reducible show wpAny _ _ (eval (Expr.ListComp _ _ _ _) _) _ _ _)); first | (k_unfold; (try dsimp only)) | ((with_reducible show wpAny _ _ (call (Value.builtin "str.join") _) _ _ _); (k_dflt (first | refine join_here escQ_len (News.isList (by k_asm) (by k_mem)) (by assumption) (by assumption) ?_ | refine join_here (fun c => Nat.le_of_eq (escB_len c)) (News.isList (by k_asm) (by k_mem)) (by assumption) (by assumption) ?_)); intro _ _) | ((with_reducible show wpAny _ _ (truthy (Value.str _ _)) _ _ _); (k_dflt (refine truthy_here (by omega) (by assumption) ?_))) | ((with_reducible show wpAny _ _ (binaryOp Operator.Add (Value.str _ _) (Value.str _ _)) _ _ _); (k_dflt (refine' add_here ?zqa ?zqb ?_; (case zqa => (first | (simp only [Str.length_append]; omega) | (simp only [Str.length_append]; (have zh9 : (Str.ofString "\"").length = 1 := by decide +kernel); omega) | exact Nat.le_of_ble_eq_true rfl)); (case zqb => first | omega | exact Nat.le_of_ble_eq_true rfl))); intro _ _) | walk1 | (dsimp only; walk1))
  rename Fr _ _ _ _ => F8
  refine ListComp_SF F8 (by rfl) (by decide) (by rfl) (by decide) (by rfl) ?_
  repeat' ((fail_if_success (with_reducible show Exists _)); first | (k_unfold; (try dsimp only)) | ((with_reducible show wpAny _ _ (call (Value.builtin "str.join") _) _ _ _); (k_dflt (first | refine join_here escQ_len (News.isList (by k_asm) (by k_mem)) (by assumption) (by assumption) ?_ | refine join_here (fun c => Nat.le_of_eq (escB_len c)) (News.isList (by k_asm) (by k_mem)) (by assumption) (by assumption) ?_)); intro _ _) | ((with_reducible show wpAny _ _ (truthy (Value.str _ _)) _ _ _); (k_dflt (refine truthy_here (by omega) (by assumption) ?_))) | ((with_reducible show wpAny _ _ (binaryOp Operator.Add (Value.str _ _) (Value.str _ _)) _ _ _); (k_dflt (refine' add_here ?zqa ?zqb ?_; (case zqa => (first | (simp only [Str.length_append]; omega) | (simp only [Str.length_append]; (have zh9 : (Str.ofString "\"").length = 1 := by decide +kernel); omega) | exact Nat.le_of_ble_eq_true rfl)); (case zqb => first | omega | exact Nat.le_of_ble_eq_true rfl))); intro _ _) | walk1 | (dsimp only; walk1))
  rename Fr _ _ _ _ => F9
  rename News _ _ _ _ => N9
  refine ⟨x, t, [], rfl, rfl, F9, N9, ha, by rw [sizeLine_eq]; omega, fun s₂ hs₂ => wri1_rest B' X' T' (by omega) (fun ys hys => ?_) _ 0 [] (by omega) .nil⟩
  intro D h2 tk2 F2 N2 o2
  obtain ⟨h9, rfl⟩ := hs₂
  clear F9 N9
  dsimp only
  repeat' (first | (k_unfold; (try dsimp only)) | ((with_reducible show wpAny _ _ (call (Value.builtin "str.join") _) _ _ _); (k_dflt (first | refine join_here escQ_len (News.isList (by k_asm) (by k_mem)) (by assumption) (by assumption) ?_ | refine join_here (fun c => Nat.le_of_eq (escB_len c)) (News.isList (by k_asm) (by k_mem)) (by assumption) (by assumption) ?_)); intro _ _) | ((with_reducible show wpAny _ _ (truthy (Value.str _ _)) _ _ _); (k_dflt (refine truthy_here (by omega) (by assumption) ?_))) | ((with_reducible show wpAny _ _ (binaryOp Operator.Add (Value.str _ _) (Value.str _ _)) _ _ _); (k_dflt (refine' add_here ?zqa ?zqb ?_; (case zqa => (first | (simp only [Str.length_append]; omega) | (simp only [Str.length_append]; (have zh9 : (Str.ofString "\"").length = 1 := by decide +kernel); omega) | exact Nat.le_of_ble_eq_true rfl)); (case zqb => first | omega | exact Nat.le_of_ble_eq_true rfl))); intro _ _) | (k_end; wrow_close) | walk1 | (dsimp only; walk1) | (leave1; walk_say "STEP leave1"; try dsimp only) | fail "no step")
  dsimp only
  exact ⟨_, _, _, by k_asm, News.nil, fun hag _ => k _ _ _ hag⟩
end Mine
end

section
open PySem PySem.W PyProof.Rows
namespace Mine
theorem anew25 : True ∧ True := by
  walk1
  w_top off
  all_goals exact True.intro
end Mine
end

section
open PySem PySem.W PySem.Calls PyProof.Rows
set_option maxRecDepth 100000
set_option maxHeartbeats 400000
namespace Mine

theorem i2d_zero {w : World} {dp un : Nat} {gd : Option (List Code)} {fr : List Env} {h₀ : Heap} {L cc : Addr} {m : Str → Option Value} {s : Shared} {R : Result → Shared → Prop} {ta tn tq : Tok} {oc : Obj} {cv : Array Value}
    (C : Cx w (AA dp un gd fr) h₀ L m s.heap) (hA : dp ≤ 400) (o1 : @LT.lt Nat _ 25 cc)
    (N : News h₀ L s.heap [(25, tab25 cc), (cc, oc)]) (d1 : oc.data = .fields cv) (d2 : cv[1]? = some (.str i2dQual tq))
    (k : ∀ h' tk D vs n, Agree [25, cc] s.heap h' → News h₀ L h' [(25, tab25 cc), (cc, oc), (D, W.listOf vs.toArray n)] → s.heap.objs.size ≤ D → vs = [] → R (.ok (.ret (.ref D))) { s with heap := h', toks := tk }) :
    codeAny (model PySem.Challenge.rw_pg0121_01.row.prog w) (AA dp un gd fr) (.call (.ref 30) ⟨[.int 0 ta, .int 1 tn], []⟩) R s := by
  have X₀ := C.kin
  have F₀ := C.fr
  have hb : (((Builtin.Int.intBits 0 : Nat) : Int) + 1 - 1).fdiv 1 = 0 := by decide +kernel
  k_dflt (refine' enterC (binds := [("a", .int 0 ta), ("n", .int 1 tn)]) C N ?ho ?hcd ?hroom ?hb ?hl ?hn ?_ ?h1 ?h2 ?h3; (case ho => k_is); (case hcd => k_is); (case hroom => k_room); (case hb => exact BindsTo.of_eq rfl); (case hl => exact rfl); (case hn => decide +kernel); (case h1 => exact rfl); (case h2 => exact rfl); (case h3 => exact rfl))
  k_whole
  clear X₀ F₀
  intro base outer env L' h₁ tk cells p loose mean mg mb F' N' Y' B' X' T' hlt
  have H29 := codeHd29 X'
  have hab : @LE.le Nat _ s.heap.objs.size L' := Nat.le_trans (Nat.le_of_eq (hideAll_size _ _).symm) F'.above
  have eF : some fr = some (env :: outer) := B'.stack
  injection eF with eF
  subst eF
  have l0 := hlt
  (try k_lt l0)
  k_cells Y'
  (try simp only [List.cons_append, List.nil_append] at N')
  (try dsimp only); (try k_fold)
  repeat' ((fail_if_success (with_reducible show wpAny _ _ (binaryOp Operator.Mult (Value.ref _) _) _ _ _)); first | (k_unfold; (try dsimp only)) | walk1 | (dsimp only; walk1))
  rw [hb]
  k_dflt (refine' KMa.mul (ws := []) ?F ?N ?l ?lo ?hi ?z ?e ?_; (case F => k_asm); (case N => k_asm); (case l => is_list); (case lo => omega); (case hi => omega); (case z => simp); (case e => rfl))
  intro dg h2 F2 N2 l2
  (try k_lt l2)
  (try k_sweep)
  k_steps
  dsimp only
  rename Fr _ _ _ _ => F9
  rename News _ _ _ _ => N9
  have NE : News (hideAll s.heap (List.map (fun x => x.fst) [(25, tab25 cc), (cc, oc)])) L' _ [(25, tab25 cc), (cc, oc), (dg, W.listOf ([] : List Value).toArray 0)] := fun q hq => by
    simp only [List.mem_cons, List.not_mem_nil, or_false] at hq
    rcases hq with rfl | rfl | rfl
    · exact N9 _ (by k_mem)
    · exact N9 _ (by k_mem)
    · exact N9 _ (by k_mem)
  exact ⟨_, _, _, F9, NE, fun hag hN => k _ _ _ _ _ hag hN (Nat.le_trans (Nat.le_refl _) (by omega)) rfl⟩
end Mine
end

section
open PySem PySem.W PyProof.Rows
namespace Mine
theorem anew26 : True ∧ True := by
  walk1
  w_top off
  all_goals exact True.intro
end Mine
end

section
open PySem PySem.W PySem.Calls PyProof.Rows
set_option maxRecDepth 100000
set_option maxHeartbeats 400000
namespace Mine

theorem first_end {g h₀ h3 : Heap} {L L' : Addr} {m' : Str → Option Value} {s : Shared} {R : Result → Shared → Prop} {f c cn ca ci dg : Addr} {doc pm ctv : Value} {oc on oa oi : Obj} {vs : List Value} {n tk : Nat} {cv : Array Value} {tq : Tok}
    (k : ∀ h' tk D vs n cc oc cv tq, Agree [25] s.heap h' → News h₀ L h' [(25, tab25 cc), (cc, oc), (D, W.listOf vs.toArray n)] → oc.data = .fields cv → cv[1]? = some (.str i2dQual tq) → s.heap.objs.size ≤ D → s.heap.objs.size ≤ cc → IntsAre vs (figsOf 9) → R (.ok (.ret (.ref D))) { s with heap := h', toks := tk })
    (F3 : Fr g L' h3 m') (N7 : News g L' h3 ((25, tab25 c) :: inNews f c cn ca ci dg doc pm ctv oc on oa oi vs n)) (d1 : oc.data = .fields cv) (d2 : cv[1]? = some (.str i2dQual tq))
    (hI : IntsAre vs (figsOf 9)) (hD : @LE.le Nat _ s.heap.objs.size dg) (hc : @LE.le Nat _ s.heap.objs.size c) : LeaveA [25] s.heap h₀ L g R (.ref dg) { s with heap := h3, toks := tk } := by
  have NE : News g L' h3 [(25, tab25 c), (c, oc), (dg, W.listOf vs.toArray n)] := fun q hq => by
    simp only [List.mem_cons, List.not_mem_nil, or_false] at hq
    rcases hq with rfl | rfl | rfl
    · exact N7 _ (.head _)
    · exact N7 _ (.tail _ (.tail _ (.head _)))
    · exact N7 _ (.tail _ (.tail _ (.tail _ (.tail _ (.tail _ (.tail _ (.head _)))))))
  exact ⟨_, _, _, F3, NE, fun hag hN => k _ _ _ _ _ _ _ _ _ hag hN d1 d2 hD hc hI⟩
theorem i2d_first {w : World} {dp un : Nat} {gd : Option (List Code)} {fr : List Env} {h₀ : Heap} {L : Addr} {m : Str → Option Value} {s : Shared} {R : Result → Shared → Prop} {ta tn : Tok}
    (C : Cx w (AA dp un gd fr) h₀ L m s.heap) (hA : dp ≤ 400) 
    (N : News h₀ L s.heap [(25, tabObj #[])])
    (k : ∀ h' tk D vs n cc oc cv tq, Agree [25] s.heap h' → News h₀ L h' [(25, tab25 cc), (cc, oc), (D, W.listOf vs.toArray n)] → oc.data = .fields cv → cv[1]? = some (.str i2dQual tq) → s.heap.objs.size ≤ D → s.heap.objs.size ≤ cc → IntsAre vs (figsOf 9) → R (.ok (.ret (.ref D))) { s with heap := h', toks := tk }) :
    codeAny (model PySem.Challenge.rw_pg0121_01.row.prog w) (AA dp un gd fr) (.call (.ref 30) ⟨[.int 9 ta, .int 1 tn], []⟩) R s := by
  have X₀ := C.kin
  have F₀ := C.fr
  obtain ⟨b1, b2, b3⟩ := bits_facts 9 (by decide) (by decide)
  have hb : (((Builtin.Int.intBits 9 : Nat) : Int) + 1 - 1).fdiv 1 = ((Builtin.Int.intBits 9 : Nat) : Int) := by rw [Int.add_sub_cancel, Int.fdiv_one]
  k_dflt (refine' enterC (binds := [("a", .int 9 ta), ("n", .int 1 tn)]) C N ?ho ?hcd ?hroom ?hb ?hl ?hn ?_ ?h1 ?h2 ?h3; (case ho => k_is); (case hcd => k_is); (case hroom => k_room); (case hb => exact BindsTo.of_eq rfl); (case hl => exact rfl); (case hn => decide +kernel); (case h1 => exact rfl); (case h2 => exact rfl); (case h3 => exact rfl))
  k_whole
  clear X₀ F₀
  intro base outer env L' h₁ tk cells p loose mean mg mb F' N' Y' B' X' T' hlt
  have H29 := codeHd29 X'
  have hab : @LE.le Nat _ s.heap.objs.size L' := Nat.le_trans (Nat.le_of_eq (hideAll_size _ _).symm) F'.above
  have eF : some fr = some (env :: outer) := B'.stack
  injection eF with eF
  subst eF
  have l0 := hlt
  (try k_lt l0)
  k_cells Y'
  (try simp only [List.cons_append, List.nil_append] at N')
  (try dsimp only); (try k_fold)
  repeat' ((fail_if_success (with_reducible show wpAny _ _ (binaryOp Operator.Mult (Value.ref _) _) _ _ _)); first | (k_unfold; (try dsimp only)) | walk1 | (dsimp only; walk1))
  rw [hb]
  obtain ⟨nb, hnb⟩ : ∃ nb, Builtin.Int.intBits 9 = nb := ⟨_, rfl⟩
  rw [hnb] at b1 b2 b3 ⊢
  k_dflt (refine' KMa.mul ?F ?N ?l ?lo ?hi ?z ?e ?_; (case F => k_asm); (case N => k_asm); (case l => is_list); (case lo => omega); (case hi => omega); (case z => (simp; omega)); (case e => exact flat_one _ _))
  intro dg h2 F2 N2 l2
  (try k_lt l2)
  (try k_sweep)
  repeat' ((fail_if_success (with_reducible show wpAny _ _ (call (Value.builtin "len") _) _ _ _)); first | (k_unfold; (try dsimp only)) | walk1 | (dsimp only; walk1))
  · refine len_any (News.isList (by k_asm) (by k_mem)) (by simp; omega) ?_
    rw [List.length_replicate]
    repeat' ((fail_if_success (with_reducible show wpAny _ _ (call (Value.ref _) _) _ _ _)); first | (k_unfold; (try dsimp only)) | walk1 | (dsimp only; walk1))
    rename Fr _ _ _ _ => F9
    rename News _ _ _ _ => N9
    k_dflt (refine' wpAny_call (in_all w (dp := dp + 1) (dg := dg) (ns := List.replicate nb 0) ⟨F9, X', ⟨AA dp un gd (env :: outer), base, env :: outer, _, p, loose, mean, mg, mb, B', T', rfl, rfl, rfl⟩⟩ (by omega) ?o1 ?o2 ?o3 ?o4 ?o5 (pick6 N9 ?m1 ?m2 ?m3 ?m4 ?m5 ?m6) ?d1 ?d2 ?e1 ?e2 ?e3 ?hi ?hz ?hl ?hlr ?hr ?hb ?hx0 ?hx1 ?k))
    (case m1 => k_mem)
    (case m2 => k_mem)
    (case m3 => k_mem)
    (case m4 => k_mem)
    (case m5 => k_mem)
    (case m6 => k_mem)
    (case d1 => assumption)
    (case d2 => assumption)
    (case e1 => assumption)
    (case e2 => assumption)
    (case e3 => assumption)
    (case o1 => refine ltN ?_; omega)
    (case o2 => refine ltN ?_; omega)
    (case o3 => refine ltN ?_; omega)
    (case o4 => refine ltN ?_; omega)
    (case o5 => refine Or.inr ⟨ltN ?_, ltN ?_⟩ <;> omega)
    (case hi => exact ints_replicate _ _)
    (case hz => simp; omega)
    (case hl => omega)
    (case hlr => omega)
    (case hr => simp)
    (case hb => omega)
    (case hx0 => omega)
    (case hx1 => rw [Int.sub_zero, Int.toNat_natCast]; exact b3)
    intro h3 tk3 vs3 n3 hag3 hN3 hI3
    have N25 : News _ L' h3 [(25, _)] := after_news (fun q hq => by rcases List.mem_cons.mp hq with rfl | hq; exact N9 _ (by k_mem); cases hq) hag3 (by
      intro q hq
      rw [List.mem_singleton.mp hq]
      simp only [inNews, List.map_cons, List.map_nil, List.mem_cons, List.not_mem_nil, or_false, not_or]
      refine ⟨neN ?_, neN ?_, neN ?_, neN ?_, neN ?_, neN ?_⟩ <;> omega)
    have F3 : Fr _ L' h3 _ := after_fr F9 (pick6 N9 (by k_mem) (by k_mem) (by k_mem) (by k_mem) (by k_mem) (by k_mem)) hag3
    have N7 := news_app N25 hN3
    clear F9 N9 N25 hN3
    dsimp only [inNews, List.cons_append, List.nil_append] at N7
    dsimp only
    k_steps
    dsimp only
    rename Obj.data _ = Data.fields _ => d1
    rename getElem? _ 1 = some _ => d2
    refine first_end k F3 N7 d1 d2 ?_ ?_ ?_
    · rw [show figsOf 9 = setBits (List.replicate nb 0) (Int.toNat 0) ((nb : Int) - 0).toNat 9 from ?_]
      · exact hI3
      · rw [Int.sub_zero, Int.toNat_natCast, figsOf, hnb]; rfl
    · exact Nat.le_trans (Nat.le_refl _) (by omega)
    · exact Nat.le_trans (Nat.le_refl _) (by omega)
end Mine
end

section
open PySem PySem.W PyProof.Rows
namespace Mine
theorem anew27 : True ∧ True := by
  walk1
  w_top off
  all_goals exact True.intro
end Mine
end

section
open PySem PySem.W PySem.Calls PyProof.Rows
set_option maxRecDepth 100000
set_option maxHeartbeats 2000000
namespace Mine
theorem d2i_0 {w : World} {dp un : Nat} {gd : Option (List Code)} {fr : List Env} {h₀ : Heap} {L dg cc : Addr} {m : Str → Option Value} {s : Shared} {R : Result → Shared → Prop}  {tn : Tok} {n : Nat} {oc : Obj} {vs : Array Value} {tq : Tok}
    (C : Cx w (AA dp un gd fr) h₀ L m s.heap) (hA : dp ≤ 400) (o1 : @LT.lt Nat _ 32 cc) (o2 : @Ne Nat cc dg) (o3 : @Ne Nat 32 dg) 
    (N : News h₀ L s.heap [(dg, W.listOf #[] n), (32, tab32 cc), (cc, oc)]) (d1 : oc.data = .fields vs) (d2 : vs[1]? = some (.str d2iQual tq))
    (k : ∀ h' tk t, Agree [dg, 32, cc] s.heap h' → News h₀ L h' [(dg, W.listOf #[] n), (32, tab32 cc), (cc, oc)] → R (.ok (.ret (.int (0) t))) { s with heap := h', toks := tk }) :
    codeAny (model PySem.Challenge.rw_pg0121_01.row.prog w) (AA dp un gd fr) (.call (.ref 37) ⟨[.ref dg, .int 2 tn], []⟩) R s := by
  have X₀ := C.kin
  have F₀ := C.fr
  k_dflt (refine' enterC (binds := [("digits", .ref dg), ("n", .int 2 tn)]) C N ?ho ?hcd ?hroom ?hb ?hl ?hn ?_ ?h1 ?h2 ?h3; (case ho => k_is); (case hcd => k_is); (case hroom => k_room); (case hb => exact BindsTo.of_eq rfl); (case hl => exact rfl); (case hn => decide +kernel); (case h1 => exact rfl); (case h2 => exact rfl); (case h3 => exact rfl))
  k_whole
  clear X₀ F₀
  intro base outer env L' h₁ tk cells p loose mean mg mb F' N' Y' B' X' T' hlt
  have H36 := codeHd36 X'
  have eF : some fr = some (env :: outer) := B'.stack
  injection eF with eF
  subst eF
  have l0 := hlt
  (try k_lt l0)
  k_cells Y'
  (try simp only [List.cons_append, List.nil_append] at N')
  (try dsimp only); (try k_fold)
  k_steps
  (try dsimp only)
  rename Fr _ _ _ _ => F9
  rename News _ _ _ _ => N9
  have N3 := pick3 (a := (dg, W.listOf #[] n)) (b := (32, tab32 cc)) N9 d1 (by k_mem) (by k_mem) (by k_mem)
  refine ⟨_, _, _, F9, N3, fun hag hN => ?_⟩
  exact k _ _ _ hag hN
end Mine
end

section
open PySem PySem.W PyProof.Rows
namespace Mine
theorem anew28 : True ∧ True := by
  walk1
  w_top off
  all_goals exact True.intro
end Mine
end

section
open PySem PySem.W PySem.Calls PyProof.Rows
set_option maxRecDepth 100000
set_option maxHeartbeats 1000000
namespace Mine
theorem sub_nil {α : Type} {n : List α} : ∀ q ∈ ([] : List α), q ∈ n := fun _ h => nomatch h
theorem sub_refl {α : Type} {n : List α} : ∀ q ∈ n, q ∈ n := fun _ h => h
theorem sub_cons {α : Type} {p : α} {l n : List α} (h : p ∈ n) (t : ∀ q ∈ l, q ∈ n) : ∀ q ∈ p :: l, q ∈ n := fun q hq => by
  rcases List.mem_cons.mp hq with rfl | hq
  · exact h
  · exact t q hq
theorem sub_tail {α : Type} {p : α} {l n : List α} (t : ∀ q ∈ l, q ∈ n) : ∀ q ∈ l, q ∈ p :: n := fun q hq => .tail _ (t q hq)

noncomputable abbrev PP : Program := PySem.Challenge.rw_pg0121_01.row.prog
noncomputable abbrev LA : Around := AA 301 4 (some []) []
noncomputable abbrev lawEnv (L fa : Addr) (cd : Value) : Env := envOfC (Str.ofString "law") lawScope L fa cd
noncomputable def lawRest (i : Nat) : List Stmt := lawBody.drop i

/-- what stands beneath law's frame -/
structure Bas (w : World) (g : Heap) : Prop where
  h85 : CodeHd g 85 81
  h36 : CodeHd g 36 32
  h29 : CodeHd g 29 25
  X : (hd.heap_1 w.params).In g
  rest : ∃ base p loose mean mg mb, Below LA base [] g ∧ Top p loose mean mg mb g

/-- every live object of the call lies below D -/
noncomputable def Fresh (g : Heap) (L : Addr) (h : Heap) (D : Addr) : Prop := ∀ a o, h.get? a = some o → a ≠ L → g.get? a = none → @LT.lt Nat _ a D
theorem Fresh.of_size {g : Heap} {L : Addr} {h : Heap} {D : Addr} (x : h.objs.size ≤ D) : Fresh g L h D := fun _ _ e _ _ => Nat.lt_of_lt_of_le (Heap.lt_size e) x
theorem Fresh.news {g : Heap} {L : Addr} {h : Heap} {D : Addr} {news : List (Addr × Obj)} (x : Fresh g L h D) (N : News g L h news) : ∀ p ∈ news, @LT.lt Nat _ p.1 D := fun p hp => x _ _ (N p hp).1 (N p hp).2.1 (N p hp).2.2

/-- the names outside S hold what they held -/
noncomputable def Keep (S : List Str) (m m' : Str → Option Value) : Prop := ∀ y, y ∉ S → m' y = m y
theorem Keep.refl {S : List Str} {m : Str → Option Value} : Keep S m m := fun _ _ => rfl
theorem Keep.trans {S : List Str} {m m' m'' : Str → Option Value} (a : Keep S m m') (b : Keep S m' m'') : Keep S m m'' := fun y hy => (b y hy).trans (a y hy)
theorem Keep.mono {S S' : List Str} {m m' : Str → Option Value} (a : Keep S m m') (h : ∀ y ∈ S, y ∈ S') : Keep S' m m' := fun y hy => a y fun q => hy (h y q)
theorem Keep.set {S : List Str} {m m' : Str → Option Value} {x : Str} {v : Option Value} (a : Keep S m m') (h : x ∈ S) : Keep S m (fun y => if y = x then v else m' y) := fun y hy => by
  have : y ≠ x := fun q => hy (by rw [q]; exact h)
  show (if y = x then v else m' y) = m y
  rw [if_neg this]; exact a y hy

/-- m with these values laid over it -/
noncomputable def ov : List (Str × Value) → (Str → Option Value) → Str → Option Value
  | [], m => m
  | (a, v) :: r, m => fun y => if y = a then some v else ov r m y
theorem ov_eq {m : Str → Option Value} : ∀ {l : List (Str × Value)}, (∀ p ∈ l, m p.1 = some p.2) → ov l m = m
  | [], _ => rfl
  | (a, v) :: r, h => by
    funext y
    show (if y = a then some v else ov r m y) = m y
    rw [ov_eq fun p hp => h p (.tail _ hp)]
    by_cases e : y = a
    · rw [if_pos e, e]; exact (h _ (.head _)).symm
    · rw [if_neg e]
theorem fr_ov {g h : Heap} {L : Addr} {m : Str → Option Value} (l : List (Str × Value)) (F : Fr g L h m) (hl : ∀ p ∈ l, m p.1 = some p.2) : Fr g L h (ov l m) := by rw [ov_eq hl]; exact F

noncomputable def AtM (m : Str → Option Value) : List (Str × Value) → Prop
  | [] => True
  | p :: r => m p.1 = some p.2 ∧ AtM m r
theorem AtM.all {m : Str → Option Value} {l : List (Str × Value)} (h : AtM m l) : ∀ p ∈ l, m p.1 = some p.2 := by
  induction l with
  | nil => intro p hp; cases hp
  | cons q r ih =>
    intro p hp
    rcases List.mem_cons.mp hp with rfl | hp
    · exact h.1
    · exact ih h.2 p hp

/-- all else that the call has made -/
theorem framed {g h : Heap} {L : Addr} {rel : List (Addr × Obj)} (N : News g L h rel) : ∃ own, News g L h (rel ++ own) ∧ OwnOff own (rel.map (·.1)) ∧
    ∀ a o, h.get? a = some o → a ≠ L → g.get? a = none → a ∉ rel.map (·.1) → (a, o) ∈ own := by
  classical
  refine ⟨((List.range h.objs.size).filterMap fun a => (h.get? a).map fun o => (a, o)).filter fun p => decide (p.1 ≠ L ∧ g.get? p.1 = none ∧ p.1 ∉ rel.map (·.1)), ?_, ?_, ?_⟩
  · intro p hp
    rcases List.mem_append.mp hp with hp | hp
    · exact N p hp
    · obtain ⟨h1, h2⟩ := List.mem_filter.mp hp
      obtain ⟨a, _, ha⟩ := List.mem_filterMap.mp h1
      have h3 := of_decide_eq_true h2
      cases e : h.get? a with
      | none => rw [e] at ha; cases ha
      | some o =>
        rw [e] at ha
        simp only [Option.map_some, Option.some.injEq] at ha
        subst ha
        exact ⟨e, h3.1, h3.2.1⟩
  · intro p hp b hb e
    obtain ⟨_, h2⟩ := List.mem_filter.mp hp
    have h3 := of_decide_eq_true h2
    exact h3.2.2 (e ▸ hb)
  · intro a o e h1 h2 h3
    refine List.mem_filter.mpr ⟨List.mem_filterMap.mpr ⟨a, List.mem_range.mpr (Heap.lt_size e), by rw [e]; rfl⟩, decide_eq_true ⟨h1, h2, h3⟩⟩
theorem framed_agree {g h h' : Heap} {L : Addr} {m m' : Str → Option Value} {rel own news' : List (Addr × Obj)} (F : Fr g L h m) (cov : ∀ a o, h.get? a = some o → a ≠ L → g.get? a = none → a ∉ rel.map (·.1) → (a, o) ∈ own)
    (F' : Fr g L h' m') (N' : News g L h' news') (sub : ∀ p ∈ own, p ∈ news') : Agree (L :: rel.map (·.1)) h h' := by
  intro b o e hb
  cases q : g.get? b with
  | some o' =>
    have := F.keep b o' q
    rw [e] at this
    cases this
    exact F'.keep b o q
  | none => exact (N' (b, o) (sub _ (cov b o e (fun q => hb (q ▸ .head _)) q fun q => hb (.tail _ q)))).1
theorem allLt_all {D : Addr} {l : List (Addr × Obj)} (h : AllLt D l) : ∀ p ∈ l, @LT.lt Nat _ p.1 D := by
  induction l with
  | nil => intro p hp; cases hp
  | cons q r ih =>
    intro p hp
    rcases List.mem_cons.mp hp with rfl | hp
    · exact h.1
    · exact ih h.2 p hp
theorem framed_fresh {g h : Heap} {L D : Addr} {rel own : List (Addr × Obj)} (cov : ∀ a o, h.get? a = some o → a ≠ L → g.get? a = none → a ∉ rel.map (·.1) → (a, o) ∈ own) (hr : AllLt D rel) (ho : AllLt D own) : Fresh g L h D := by
  intro a o e h1 h2
  by_cases h3 : a ∈ rel.map (·.1)
  · obtain ⟨p, hp, rfl⟩ := List.mem_map.mp h3
    exact allLt_all hr p hp
  · exact allLt_all ho _ (cov a o e h1 h2 h3)
theorem allLt_ne {D : Addr} {l : List (Addr × Obj)} (h : AllLt D l) : ∀ p ∈ l, p.1 ≠ D := fun p hp => Nat.ne_of_lt (allLt_all h p hp)
theorem agree_trans {S : List Addr} {a b c : Heap} (x : Agree S a b) (y : Agree S b c) : Agree S a c := fun q o e h => y q o (x q o e h) h
theorem agree_mono {S S' : List Addr} {a b : Heap} (x : Agree S a b) (h : ∀ q ∈ S, q ∈ S') : Agree S' a b := fun q o e hq => x q o e fun z => hq (h q z)

theorem drop_getD {α : Type} (l : List α) (i : Nat) (d : α) (h : i < l.length) : l.drop i = l.getD i d :: l.drop (i + 1) := by
  rw [List.drop_eq_getElem_cons h, List.getD_eq_getElem?_getD, List.getElem?_eq_getElem h]; rfl
theorem lawBody_length : lawBody.length = 24 := by kernel_rfl
theorem lawRest_eq {i : Nat} (hi : i < 24) : lawRest i = lawStm i :: lawRest (i + 1) := drop_getD lawBody i _ (by rw [lawBody_length]; exact hi)
/-- what is to hold behind a statement: the rest, if it goes on -/
noncomputable def Behind (w : World) (A : Around) (env : Env) (rest : List Stmt) (Q : Flow → Shared → Prop) (E : Value → Shared → Prop) (f : Flow) (s : Shared) : Prop :=
  match f with | .next => wpAny (model PP w) A (execs rest env) Q E s | f => Q f s
theorem step_gen {w : World} {A : Around} {env : Env} {Q : Flow → Shared → Prop} {E : Value → Shared → Prop} {s : Shared} {st : Stmt} {rest : List Stmt}
    (h : wpAny (model PP w) A (exec st env) (Behind w A env rest Q E) E s) : wpAny (model PP w) A (execs (st :: rest) env) Q E s := by
  refine wpAny_execs_cons (wpAny_mono h (fun f s' h' => ?_) fun _ _ e => e)
  cases f <;> exact h'
theorem step {w : World} {A : Around} {env : Env} {Q : Flow → Shared → Prop} {E : Value → Shared → Prop} {s : Shared} (i : Nat) (hi : i < 24)
    (h : wpAny (model PP w) A (exec (lawStm i) env) (Behind w A env (lawRest (i + 1)) Q E) E s) : wpAny (model PP w) A (execs (lawRest i) env) Q E s := by
  rw [lawRest_eq hi]
  exact step_gen h
end Mine
end

section
open PySem PySem.W PyProof.Rows
namespace Mine
theorem anew29 : True ∧ True := by
  walk1
  w_top off
  all_goals exact True.intro
end Mine
end

section
open PySem PySem.W PySem.Calls PyProof.Rows
set_option maxRecDepth 100000
set_option maxHeartbeats 1000000
namespace Mine

/-- what the statements 0 to 4 make -/
theorem ph0 {w : World} {g : Heap} {L fa sl : Addr} {cd : Value} {s : Shared} {m : Str → Option Value} {Q : Flow → Shared → Prop} {E : Value → Shared → Prop} {oD oR oV oW oL : Obj} {vs : List Value} {ns : List Int}
    (bas : Bas w g) (hL : @LT.lt Nat _ 81 L) (F : Fr g L s.heap m) (hm : m (Str.ofString "script") = some (.ref sl)) (hl : g.IsList sl vs.toArray) (hi : IntsAre vs ns) (hlen : ns.length ≤ 63)
    (N : News g L s.heap [(L+1+1+1+1+1, oD), (L+1+1+1+1, oR), (L+1+1+1, oV), (L+1+1, oW), (L+1, oL), (81, tabObj #[]), (32, tabObj #[]), (25, tabObj #[])])
    (dD : oD.data = .cell none) (dR : oR.data = .cell none) (dV : oV.data = .cell none) (dW : oW.data = .cell none) (dL : oL.data = .cell none)
    (k : ∀ h' tk m' wa va oV' oW' oL' tl tt tx, Fr g L h' m' → News g L h' [(va, W.listOf #[] 0), (wa, W.listOf #[] 0), (L+1+1+1+1+1, oD), (L+1+1+1+1, oR), (L+1+1+1, oV'), (L+1+1, oW'), (L+1, oL'), (81, tabObj #[]), (32, tabObj #[]), (25, tabObj #[])] →
      oV'.data = .cell (some (.ref va)) → oW'.data = .cell (some (.ref wa)) → oL'.data = .cell (some (.str (Str.ofString "a\"\\\n") tl)) → @LT.lt Nat _ (L+1+1+1+1+1) wa → @LT.lt Nat _ wa va →
      m' (Str.ofString "script") = some (.ref sl) → m' (Str.ofString "total") = some (.int ns.sum tt) → m' (Str.ofString "text") = some (.str (Str.ofString "") tx) →
      wpAny (model PP w) (LA.deeper (lawEnv L fa cd)) (execs (lawRest 5) (lawEnv L fa cd)) Q E { s with heap := h', toks := tk }) :
    wpAny (model PP w) (LA.deeper (lawEnv L fa cd)) (execs (lawRest 0) (lawEnv L fa cd)) Q E s := by
  obtain ⟨h85, h36, h29, X, base, p, loose, mean, mg, mb, B, T⟩ := bas
  have F2 := fr_ov [(Str.ofString "script", .ref sl)] F (AtM.all ⟨hm, trivial⟩)
  dsimp only [ov] at F2
  clear F
  refine step 0 (by decide) ?_
  conv in lawStm 0 => whnf
  k_steps
  dsimp only [Behind]
  refine step 1 (by decide) ?_
  conv in lawStm 1 => whnf
  k_steps
  dsimp only [Behind]
  refine step 2 (by decide) ?_
  conv in lawStm 2 => whnf
  k_steps
  dsimp only [Behind]
  refine step 3 (by decide) ?_
  conv in lawStm 3 => whnf
  k_steps
  dsimp only [Behind]
  refine step 4 (by decide) ?_
  conv in lawStm 4 => whnf
  k_steps
  dsimp only [Behind]
  rename Fr _ _ _ _ => F9
  rename News _ _ _ _ => N9
  exact k _ _ _ _ _ _ _ _ _ _ _ F9 N9 (by assumption) (by assumption) (by assumption) (ltN (by omega)) (ltN (by omega)) rfl rfl rfl
end Mine
end

section
open PySem PySem.W PyProof.Rows
namespace Mine
theorem anew30 : True ∧ True := by
  walk1
  w_top off
  all_goals exact True.intro
end Mine
end

section
open PySem PySem.W PySem.Calls PyProof.Rows PyProof.Rows.LCg
set_option maxRecDepth 100000
set_option maxHeartbeats 1000000
namespace Mine

theorem written_e {w : World} {dp un : Nat} {gd : Option (List Code)} {fr : List Env} {h₀ : Heap} {L : Addr} {m : Str → Option Value} {s : Shared} {R : Result → Shared → Prop} {t tb : Tok}
    (C : Cx w (AA dp un gd fr) h₀ L m s.heap) (hA : dp ≤ 400) 
    (k : ∀ h' tk t', Agree [] s.heap h' → R (.ok (.ret (.str (writtenQ (Str.ofString "")) t'))) { s with heap := h', toks := tk }) :
    codeAny (model PySem.Challenge.rw_pg0121_01.row.prog w) (AA dp un gd fr) (.call (.ref 91) ⟨[.str (Str.ofString "") t, .int 1 tb], []⟩) R s := by
  have X₀ := C.kin
  have F₀ := C.fr
  have hx : (Str.ofString "").cps.toList.length ≤ 2 := by decide +kernel
  have ha : (Str.ofString "").cps.all (· < 128) = true := by decide +kernel
  have hx2 : (Str.ofString "").cps.size ≤ 2 := by decide +kernel
  have hjQ := joined_len (f := escQ) escQ_len hx
  have hjB := joined_len (f := escB) (fun c => Nat.le_of_eq (escB_len c)) hx
  k_dflt (refine' enter (binds := [("word", .str (Str.ofString "") t), ("bare", .int 1 tb)]) C News.nil ?ho ?hcd ?hroom ?hb ?hl ?_ ?hc ?h1 ?h2 ?h3; (case ho => k_is); (case hcd => k_is); (case hroom => k_room); (case hb => exact BindsTo.of_eq rfl); (case hl => exact locs rfl); (case hc => decide); (case h1 => exact rfl); (case h2 => exact rfl); (case h3 => exact rfl))
  k_whole
  clear X₀ F₀
  intro base outer env L' h₁ p loose mean mg mb F' N' B' X' T' hlt
  have eF : some fr = some (env :: outer) := B'.stack
  injection eF with eF
  subst eF
  (try dsimp only); (try k_fold)
  repeat' ((fail_if_success (with_reducible show wpAny _ _ (eval (Expr.ListComp _ _ _ _) _) _ _ _)); first | (k_unfold; (try dsimp only)) | ((with_reducible show wpAny _ _ (call (Value.builtin "str.join") _) _ _ _); (k_dflt (first | refine join_here escQ_len (News.isList (by k_asm) (by k_mem)) (by assumption) (by assumption) ?_ | refine join_here (fun c => Nat.le_of_eq (escB_len c)) (News.isList (by k_asm) (by k_mem)) (by assumption) (by assumption) ?_)); intro _ _) | ((with_reducible show wpAny _ _ (truthy (Value.str _ _)) _ _ _); (k_dflt (refine truthy_here (by omega) (by assumption) ?_))) | ((with_reducible show wpAny _ _ (binaryOp Operator.Add (Value.str _ _) (Value.str _ _)) _ _ _); (k_dflt (refine' add_here ?zqa ?zqb ?_; (case zqa => (first | (simp only [Str.length_append]; omega) | (simp only [Str.length_append]; (have zh9 : (Str.ofString "\"").length = 1 := by decide +kernel); omega) | exact Nat.le_of_ble_eq_true rfl)); (case zqb => first | omega | exact Nat.le_of_ble_eq_true rfl))); intro _ _) | walk1 | (dsimp only; walk1))
  rename Fr _ _ _ _ => F8
  refine ListComp_SF F8 (by rfl) (by decide) (by rfl) (by decide) (by rfl) ?_
  repeat' ((fail_if_success (with_reducible show Exists _)); first | (k_unfold; (try dsimp only)) | ((with_reducible show wpAny _ _ (call (Value.builtin "str.join") _) _ _ _); (k_dflt (first | refine join_here escQ_len (News.isList (by k_asm) (by k_mem)) (by assumption) (by assumption) ?_ | refine join_here (fun c => Nat.le_of_eq (escB_len c)) (News.isList (by k_asm) (by k_mem)) (by assumption) (by assumption) ?_)); intro _ _) | ((with_reducible show wpAny _ _ (truthy (Value.str _ _)) _ _ _); (k_dflt (refine truthy_here (by omega) (by assumption) ?_))) | ((with_reducible show wpAny _ _ (binaryOp Operator.Add (Value.str _ _) (Value.str _ _)) _ _ _); (k_dflt (refine' add_here ?zqa ?zqb ?_; (case zqa => (first | (simp only [Str.length_append]; omega) | (simp only [Str.length_append]; (have zh9 : (Str.ofString "\"").length = 1 := by decide +kernel); omega) | exact Nat.le_of_ble_eq_true rfl)); (case zqb => first | omega | exact Nat.le_of_ble_eq_true rfl))); intro _ _) | walk1 | (dsimp only; walk1))
  rename Fr _ _ _ _ => F9
  rename News _ _ _ _ => N9
  refine ⟨Str.ofString "", t, [], rfl, rfl, F9, N9, ha, by rw [sizeLine_eq]; omega, fun s₂ hs₂ => wri2_rest B' X' T' (by omega) (fun ys hys => ?_) _ 0 [] (by omega) .nil⟩
  intro D h2 tk2 F2 N2 o2
  obtain ⟨h9, rfl⟩ := hs₂
  clear F9 N9
  dsimp only
  repeat' (first | (k_unfold; (try dsimp only)) | ((with_reducible show wpAny _ _ (call (Value.builtin "str.join") _) _ _ _); (k_dflt (first | refine join_here escQ_len (News.isList (by k_asm) (by k_mem)) (by assumption) (by assumption) ?_ | refine join_here (fun c => Nat.le_of_eq (escB_len c)) (News.isList (by k_asm) (by k_mem)) (by assumption) (by assumption) ?_)); intro _ _) | ((with_reducible show wpAny _ _ (truthy (Value.str _ _)) _ _ _); (k_dflt (refine truthy_here (by omega) (by assumption) ?_))) | ((with_reducible show wpAny _ _ (binaryOp Operator.Add (Value.str _ _) (Value.str _ _)) _ _ _); (k_dflt (refine' add_here ?zqa ?zqb ?_; (case zqa => (first | (simp only [Str.length_append]; omega) | (simp only [Str.length_append]; (have zh9 : (Str.ofString "\"").length = 1 := by decide +kernel); omega) | exact Nat.le_of_ble_eq_true rfl)); (case zqb => first | omega | exact Nat.le_of_ble_eq_true rfl))); intro _ _) | (k_end; wrow_close) | walk1 | (dsimp only; walk1) | (leave1; walk_say "STEP leave1"; try dsimp only) | fail "no step")
  dsimp only
  exact ⟨_, _, _, by k_asm, News.nil, fun hag _ => k _ _ _ hag⟩
end Mine
end

section
open PySem PySem.W PyProof.Rows
namespace Mine
theorem anew31 : True ∧ True := by
  walk1
  w_top off
  all_goals exact True.intro
end Mine
end

section
open PySem PySem.W PySem.Calls PyProof.Rows
set_option maxRecDepth 100000
set_option maxHeartbeats 1000000
namespace Mine
section
variable {prog : Program} {w : World} {A : Around} {E : Value → Shared → Prop} {s : Shared} {g : Heap} {L : Addr} {m : Str → Option Value} {news : List (Addr × Obj)} {env : Env}

noncomputable abbrev rngObj (a b : Int) (t u v : Tok) : Obj := { cls := .type "range", dict := none, data := .fields #[.int a t, .int b u, .int 1 v], slots := #[] }
theorem range1K {n : Int} {t : Tok} {Q : Value → Shared → Prop} (F : Fr g L s.heap m) (N : News g L s.heap news)
    (h : ∀ r h' tk t1 u1 v1, Fr g L h' m → News g L h' ((r, rngObj 0 n t1 u1 v1) :: news) → (∀ p ∈ news, p.1 < r) → Q (.ref r) { s with heap := h', toks := tk }) :
    wpAny (model prog w) A (call (.type "range") [.int n t]) Q E s :=
  call_range_1 (h _ _ _ _ _ _ (F.push _) (N.push F _) fun p hp => Heap.lt_size (N p hp).1)
theorem range2K {a b : Int} {t u : Tok} {Q : Value → Shared → Prop} (F : Fr g L s.heap m) (N : News g L s.heap news)
    (h : ∀ r h' tk t1 u1 v1, Fr g L h' m → News g L h' ((r, rngObj a b t1 u1 v1) :: news) → (∀ p ∈ news, p.1 < r) → Q (.ref r) { s with heap := h', toks := tk }) :
    wpAny (model prog w) A (call (.type "range") [.int a t, .int b u]) Q E s :=
  call_range_2 (h _ _ _ _ _ _ (F.push _) (N.push F _) fun p hp => Heap.lt_size (N p hp).1)
theorem small_of {a b : Int} (h1 : 0 ≤ a) (h2 : a ≤ b) (h3 : b ≤ 1000000) : Builtin.Range.small a b 1 = true ∧ Builtin.Range.rangeSize a b 1 = b - a := by
  have hs : Builtin.Range.rangeSize a b 1 = b - a := by
    unfold Builtin.Range.rangeSize
    simp
    omega
  refine ⟨?_, hs⟩
  unfold Builtin.Range.small
  rw [hs]
  unfold Builtin.Range.rangeFitsLong
  simp
  omega
theorem pyIter_rangeK {r : Addr} {a b : Int} {t u v : Tok} {Q : Value → Shared → Prop} (F : Fr g L s.heap m) (N : News g L s.heap news) (hr : (r, rngObj a b t u v) ∈ news) (h1 : 0 ≤ a) (h2 : a ≤ b) (h3 : b ≤ 1000000)
    (h : ∀ it h', Fr g L h' m → News g L h' ((it, krsIt a (b - a) 1) :: news) → (∀ p ∈ news, p.1 < it) → Q (.ref it) { s with heap := h' }) :
    wpAny (model prog w) A (pyIter (.ref r)) Q E s := by
  obtain ⟨x1, x2⟩ := small_of h1 h2 h3
  refine wpAny_pyIter_range (N _ hr).1 x1 ?_
  rw [x2]
  exact h _ _ (F.push _) (N.push F _) fun p hp => Heap.lt_size (N p hp).1

/-- the end of a turn -/
noncomputable def TurnEnd (g : Heap) (L : Addr) (it : Addr) (Io : Obj → Prop) (J : Heap → (Str → Option Value) → Prop) (R : Result → Shared → Prop) (s : Shared) (f : Flow) (s₃ : Shared) : Prop :=
  match f with
  | .ret v => R (.ok (.ret v)) s₃
  | .brk => R (.ok .next) s₃
  | _ => ∃ h' tk' m' oi, s₃ = { s with heap := h', toks := tk' } ∧ Fr g L h' m' ∧ h'.get? it = some oi ∧ Io oi ∧ J h' m'
theorem TurnEnd.next {it : Addr} {Io : Obj → Prop} {J : Heap → (Str → Option Value) → Prop} {R : Result → Shared → Prop} {h' : Heap} {tk : Nat} {m' : Str → Option Value} {oi : Obj} (F : Fr g L h' m') (h1 : h'.get? it = some oi) (h2 : Io oi) (h3 : J h' m') :
    TurnEnd g L it Io J R s .next { s with heap := h', toks := tk } := ⟨_, _, _, _, rfl, F, h1, h2, h3⟩

theorem fr_same {h h' : Heap} {it : Addr} (F : Fr g L h m) (hs : Agree [it] h h') (h1 : it ≠ L) (h2 : g.get? it = none) : Fr g L h' m := by
  obtain ⟨oL, es, ep, hL, r⟩ := F.ns
  refine ⟨⟨oL, es, ep, hs L oL hL (by simpa using fun q => h1 q.symm), r⟩, fun b o e => hs b o (F.keep b o e) fun q => ?_, F.above⟩
  rw [List.mem_singleton.mp q, h2] at e; cases e
theorem agree_same {h h' : Heap} {it : Addr} (hs : Heap.SameBut it h h') : Agree [it] h h' := fun b o e hb => (hs.2 b (by simpa using hb)).trans e
theorem agree_ext {h h' : Heap} {it : Addr} (hs : Heap.ExtBut it h h') : Agree [it] h h' := fun b o e hb => hs b o (by simpa using hb) e

theorem for_range {target : Expr} {body : List Stmt} {it : Addr} {a : Int} {R : Result → Shared → Prop} (n : Nat) (J : Nat → Heap → (Str → Option Value) → Prop)
    (hh : A.handled = none) (ht : ∀ it v, letOwnedTupleGo target it v = pure ())
    (h1 : it ≠ L) (h2 : g.get? it = none) (stab : ∀ i h h' m, J i h m → Agree [it] h h' → J i h' m)
    (turn : ∀ i m h tk t, i < n → J i h m → Fr g L h m → h.get? it = some (krsIt (a + (i + 1 : Nat)) ((n : Int) - (i + 1 : Nat)) 1) →
      wpAny (model prog w) A (assign target env (.int (a + i) t)) (fun _ s₂ => wpAny (model prog w) A (execs body env) (TurnEnd g L it (fun o => o = krsIt (a + (i + 1 : Nat)) ((n : Int) - (i + 1 : Nat)) 1) (J (i + 1)) R s) (fun _ _ => False) s₂) (fun _ _ => False) { s with heap := h, toks := tk })
    (done : ∀ m h tk, J n h m → Fr g L h m → R (.ok .next) { s with heap := h, toks := tk }) :
    ∀ k i m h tk, i + k = n → J i h m → Fr g L h m → h.get? it = some (krsIt (a + (i : Nat)) ((n : Int) - (i : Nat)) 1) → codeAny (model prog w) A (.forLoop target (.ref it) body [] env) R { s with heap := h, toks := tk } := by
  intro k
  induction k with
  | zero =>
    intro i m h tk hi hJ F hI
    obtain rfl : i = n := by omega
    refine forLoop_turn (wpAny_pyNext_range_end hh (show IsRangeIter h it (a + (i : Nat)) ((i : Int) - (i : Nat)) 1 from hI) (by omega) fun h' hs => ?_) (ht := ht _)
    dsimp only
    have ha := agree_ext hs
    exact wpAny_execs_nil (done _ _ _ (stab _ _ _ _ hJ ha) (fr_same F ha h1 h2))
  | succ k ih =>
    intro i m h tk hi hJ F hI
    refine forLoop_turn (wpAny_pyNext_range_item (show IsRangeIter h it (a + (i : Nat)) ((n : Int) - (i : Nat)) 1 from hI) (by omega) fun h' hit hs => ?_) (ht := ht _)
    dsimp only
    have ha := agree_same hs
    have e1 : a + (i : Nat) + 1 = a + ((i + 1 : Nat) : Int) := by omega
    have e2 : (n : Int) - (i : Nat) - 1 = (n : Int) - ((i + 1 : Nat) : Int) := by omega
    rw [e1, e2] at hit
    refine wpAny_mono (turn i m h' _ _ (by omega) (stab _ _ _ _ hJ ha) (fr_same F ha h1 h2) hit) (fun _ s₂ h => wpAny_mono h (fun f s₃ hf => ?_) fun _ _ e => e) fun _ _ e => e
    cases f with
    | ret v => exact hf
    | brk => exact hf
    | next =>
      obtain ⟨h3, tk3, m3, oi, rfl, F3, g3, rfl, J3⟩ := hf
      exact ih (i + 1) m3 h3 tk3 (by omega) J3 F3 g3
    | cont =>
      obtain ⟨h3, tk3, m3, oi, rfl, F3, g3, rfl, J3⟩ := hf
      exact ih (i + 1) m3 h3 tk3 (by omega) J3 F3 g3

theorem for_list {target : Expr} {body : List Stmt} {it l : Addr} {R : Result → Shared → Prop} {vs : List Value} (J : Nat → Heap → (Str → Option Value) → Prop)
    (hh : A.handled = none) (ht : ∀ it v, letOwnedTupleGo target it v = pure ())
    (h1 : it ≠ L) (h2 : g.get? it = none) (stab : ∀ i h h' m, J i h m → Agree [it] h h' → J i h' m) (hl : ∀ i h m, J i h m → h.IsList l vs.toArray)
    (turn : ∀ i v m h tk oi, vs[i]? = some v → J i h m → Fr g L h m → h.get? it = some oi → oi.cls = .type "list_iterator" → oi.data = .fields #[.ref l, .int (i + 1 : Nat) 0] →
      wpAny (model prog w) A (assign target env v) (fun _ s₂ => wpAny (model prog w) A (execs body env) (TurnEnd g L it (fun o => o = oi) (J (i + 1)) R s) (fun _ _ => False) s₂) (fun _ _ => False) { s with heap := h, toks := tk })
    (done : ∀ m h tk, J vs.length h m → Fr g L h m → R (.ok .next) { s with heap := h, toks := tk }) :
    ∀ k i m h tk, i + k = vs.length → J i h m → Fr g L h m → h.IsListIter it l i → codeAny (model prog w) A (.forLoop target (.ref it) body [] env) R { s with heap := h, toks := tk } := by
  intro k
  induction k with
  | zero =>
    intro i m h tk hi hJ F hI
    obtain rfl : i = vs.length := by omega
    refine forLoop_turn (wpAny_pyNext_list_end hh hI (hl _ _ _ hJ) (by simp) fun h' hs => ?_) (ht := ht _)
    dsimp only
    have ha := agree_ext hs
    exact wpAny_execs_nil (done _ _ _ (stab _ _ _ _ hJ ha) (fr_same F ha h1 h2))
  | succ k ih =>
    intro i m h tk hi hJ F hI
    have hv : vs[i]? = some (vs[i]'(by omega)) := List.getElem?_eq_getElem (by omega)
    refine forLoop_turn (wpAny_pyNext_list_item hI (hl _ _ _ hJ) (x := vs[i]'(by omega)) (by simpa using hv) fun h' hit hs => ?_) (ht := ht _)
    dsimp only
    have ha := agree_same hs
    obtain ⟨oi, q1, q2, q3⟩ := hit
    refine wpAny_mono (turn i _ m h' _ oi hv (stab _ _ _ _ hJ ha) (fr_same F ha h1 h2) q1 q2 q3) (fun _ s₂ h => wpAny_mono h (fun f s₃ hf => ?_) fun _ _ e => e) fun _ _ e => e
    cases f with
    | ret v => exact hf
    | brk => exact hf
    | next =>
      obtain ⟨h3, tk3, m3, oi, rfl, F3, g3, rfl, J3⟩ := hf
      exact ih (i + 1) m3 h3 tk3 (by omega) J3 F3 ⟨_, g3, q2, q3⟩
    | cont =>
      obtain ⟨h3, tk3, m3, oi, rfl, F3, g3, rfl, J3⟩ := hf
      exact ih (i + 1) m3 h3 tk3 (by omega) J3 F3 ⟨_, g3, q2, q3⟩
theorem for_range0 {target : Expr} {body : List Stmt} {it : Addr} {a d : Int} {R : Result → Shared → Prop} (n : Nat) (J : Nat → Heap → (Str → Option Value) → Prop)
    (hh : A.handled = none) (ht : ∀ it v, letOwnedTupleGo target it v = pure ()) (hI : (it, krsIt a d 1) ∈ news) (N : News g L s.heap news) (hd : d = (n : Int))
    (stab : ∀ i h h' m, J i h m → Agree [it] h h' → J i h' m)
    (turn : ∀ i m h tk t, i < n → J i h m → Fr g L h m → h.get? it = some (krsIt (a + (i + 1 : Nat)) ((n : Int) - (i + 1 : Nat)) 1) →
      wpAny (model prog w) A (assign target env (.int (a + i) t)) (fun _ s₂ => wpAny (model prog w) A (execs body env) (TurnEnd g L it (fun o => o = krsIt (a + (i + 1 : Nat)) ((n : Int) - (i + 1 : Nat)) 1) (J (i + 1)) R s) (fun _ _ => False) s₂) (fun _ _ => False) { s with heap := h, toks := tk })
    (done : ∀ m h tk, J n h m → Fr g L h m → R (.ok .next) { s with heap := h, toks := tk })
    (F : Fr g L s.heap m) (hJ : J 0 s.heap m) : codeAny (model prog w) A (.forLoop target (.ref it) body [] env) R s := by
  have h := N _ hI
  refine for_range n J hh ht h.2.1 h.2.2 stab turn done n 0 m s.heap s.toks (Nat.zero_add n) hJ F ?_
  rw [h.1]
  show some (krsIt a d 1) = some (krsIt (a + ((0 : Nat) : Int)) ((n : Int) - ((0 : Nat) : Int)) 1)
  rw [hd, show a + ((0 : Nat) : Int) = a by omega, show (n : Int) - ((0 : Nat) : Int) = n by omega]
theorem for_list0 {target : Expr} {body : List Stmt} {it l : Addr} {R : Result → Shared → Prop} {vs : List Value} (J : Nat → Heap → (Str → Option Value) → Prop)
    (hh : A.handled = none) (ht : ∀ it v, letOwnedTupleGo target it v = pure ()) (hI : (it, itObj l 0) ∈ news) (N : News g L s.heap news)
    (stab : ∀ i h h' m, J i h m → Agree [it] h h' → J i h' m) (hl : ∀ i h m, J i h m → h.IsList l vs.toArray)
    (turn : ∀ i v m h tk oi, vs[i]? = some v → J i h m → Fr g L h m → h.get? it = some oi → oi.cls = .type "list_iterator" → oi.data = .fields #[.ref l, .int (i + 1 : Nat) 0] →
      wpAny (model prog w) A (assign target env v) (fun _ s₂ => wpAny (model prog w) A (execs body env) (TurnEnd g L it (fun o => o = oi) (J (i + 1)) R s) (fun _ _ => False) s₂) (fun _ _ => False) { s with heap := h, toks := tk })
    (done : ∀ m h tk, J vs.length h m → Fr g L h m → R (.ok .next) { s with heap := h, toks := tk })
    (F : Fr g L s.heap m) (hJ : J 0 s.heap m) : codeAny (model prog w) A (.forLoop target (.ref it) body [] env) R s := by
  have h := N _ hI
  exact for_list J hh ht h.2.1 h.2.2 stab hl turn done vs.length 0 m s.heap s.toks (Nat.zero_add _) hJ F ⟨_, h.1, rfl, rfl⟩
end

noncomputable def Same (ch : List Addr) (news' : List (Addr × Obj)) : List (Addr × Obj) → Prop
  | [] => True
  | p :: r => (p.1 ∈ ch ∨ p ∈ news') ∧ Same ch news' r
theorem Same.all {ch : List Addr} {news' rel : List (Addr × Obj)} (h : Same ch news' rel) : ∀ p ∈ rel, p.1 ∈ ch ∨ p ∈ news' := by
  induction rel with
  | nil => intro p hp; cases hp
  | cons q r ih =>
    intro p hp
    rcases List.mem_cons.mp hp with rfl | hp
    · exact h.1
    · exact ih h.2 p hp
/-- what a walk over `rel ++ own` has left alone -/
theorem framed_agree' {g h h' : Heap} {L : Addr} {m m' : Str → Option Value} {rel own news' : List (Addr × Obj)} (F : Fr g L h m) (N : News g L h rel) (cov : ∀ a o, h.get? a = some o → a ≠ L → g.get? a = none → a ∉ rel.map (·.1) → (a, o) ∈ own)
    (F' : Fr g L h' m') (N' : News g L h' news') (sub : ∀ p ∈ own, p ∈ news') (ch : List Addr) (same : Same ch news' rel) : Agree (L :: ch) h h' := by
  intro b o e hb
  by_cases q : b ∈ rel.map (·.1)
  · obtain ⟨p, hp, rfl⟩ := List.mem_map.mp q
    have e2 := (N p hp).1
    rw [e] at e2
    rcases same.all p hp with h1 | h1
    · exact absurd (.tail _ h1) hb
    · rw [(N' p h1).1, ← e2]
  · exact framed_agree F cov F' N' sub b o e fun z => by
      rcases List.mem_cons.mp z with rfl | z
      · exact hb (.head _)
      · exact q z

/-- what stood ahead of a walk over `rel` -/
structure Old (g h : Heap) (L : Addr) (m : Str → Option Value) (rel own : List (Addr × Obj)) : Prop where
  F : Fr g L h m
  N : News g L h rel
  cov : ∀ a o, h.get? a = some o → a ≠ L → g.get? a = none → a ∉ rel.map (·.1) → (a, o) ∈ own
theorem old_of {g h : Heap} {L : Addr} {m : Str → Option Value} {rel : List (Addr × Obj)} (F : Fr g L h m) (N : News g L h rel) : ∃ own, Old g h L m rel own ∧ News g L h (rel ++ own) ∧ OwnOff own (rel.map (·.1)) :=
  let ⟨own, a, b, c⟩ := framed N
  ⟨own, ⟨F, N, c⟩, a, b⟩
theorem Old.agree {g h h' : Heap} {L : Addr} {m m' : Str → Option Value} {rel own news' : List (Addr × Obj)} (O : Old g h L m rel own) (F' : Fr g L h' m') (N' : News g L h' news') (sub : ∀ p ∈ own, p ∈ news') (ch : List Addr) (same : Same ch news' rel) : Agree (L :: ch) h h' :=
  framed_agree' O.F O.N O.cov F' N' sub ch same
theorem Old.fresh {g h : Heap} {L D : Addr} {m : Str → Option Value} {rel own : List (Addr × Obj)} (O : Old g h L m rel own) (x : AllLt D (rel ++ own)) : Fresh g L h D := fun a o e h1 h2 => by
  by_cases h3 : a ∈ rel.map (·.1)
  · obtain ⟨p, hp, rfl⟩ := List.mem_map.mp h3
    exact allLt_all x p (List.mem_append_left _ hp)
  · exact allLt_all x _ (List.mem_append_right _ (O.cov a o e h1 h2 h3))

theorem keep_ov {l : List (Str × Value)} {S : List Str} {m m' : Str → Option Value} (h : ov l m = m) (k : Keep S (ov l m) m') : Keep S m m' := fun y hy => (k y hy).trans (congrFun h y)

theorem Fresh.none {g h : Heap} {L D : Addr} (x : Fresh g L h D) (h1 : D ≠ L) (h2 : g.get? D = none) : h.get? D = none := by
  cases q : h.get? D with
  | none => rfl
  | some o => exact absurd (x D o q h1 h2) (Nat.lt_irrefl _)
theorem agree_fresh {S : List Addr} {a b : Heap} {D : Addr} (x : Agree (D :: S) a b) (h : a.get? D = none) : Agree S a b := fun q o e hq => x q o e fun z => by
  rcases List.mem_cons.mp z with rfl | z
  · rw [h] at e; cases e
  · exact hq z

theorem off1_mem {D : Addr} : ∀ {l : List (Addr × Obj)}, LCg.Off1 D l → ∀ p ∈ l, p.1 ≠ D := by
  intro l
  induction l with
  | nil => intro _ p hp; cases hp
  | cons q r ih =>
    intro h p hp
    rcases List.mem_cons.mp hp with rfl | hp
    · exact h.1
    · exact ih h.2 p hp
theorem Old.new {g h : Heap} {L D : Addr} {m : Str → Option Value} {rel own : List (Addr × Obj)} (O : Old g h L m rel own) (x : ∀ p ∈ rel ++ own, p.1 ≠ D) (h1 : D ≠ L) (h2 : g.get? D = none) : h.get? D = none := by
  cases q : h.get? D with
  | none => rfl
  | some o =>
    by_cases h3 : D ∈ rel.map (·.1)
    · obtain ⟨p, hp, e⟩ := List.mem_map.mp h3
      exact absurd e (x p (List.mem_append_left _ hp))
    · exact absurd rfl (x _ (List.mem_append_right _ (O.cov D o q h1 h2 h3)))
theorem news_ne {g h : Heap} {L D : Addr} {news : List (Addr × Obj)} (N : News g L h news) (hD : h.get? D = none) : ∀ p ∈ news, p.1 ≠ D := fun p hp e => by
  have := (N p hp).1
  rw [e, hD] at this; cases this

noncomputable def SubL (news : List (Addr × Obj)) : List (Addr × Obj) → Prop
  | [] => True
  | p :: r => p ∈ news ∧ SubL news r
theorem SubL.all {news rel : List (Addr × Obj)} (h : SubL news rel) : ∀ p ∈ rel, p ∈ news := by
  induction rel with
  | nil => intro p hp; cases hp
  | cons q r ih =>
    intro p hp
    rcases List.mem_cons.mp hp with rfl | hp
    · exact h.1
    · exact ih h.2 p hp
theorem news_sub {g h : Heap} {L : Addr} {news rel : List (Addr × Obj)} (N : News g L h news) (x : SubL news rel) : News g L h rel := fun p hp => N p (x.all p hp)
/-- no address of the list lies in S -/
noncomputable def OffL (S : List Addr) : List (Addr × Obj) → Prop
  | [] => True
  | p :: r => p.1 ∉ S ∧ OffL S r
theorem OffL.all {S : List Addr} {rel : List (Addr × Obj)} (h : OffL S rel) : ∀ p ∈ rel, p.1 ∉ S := by
  induction rel with
  | nil => intro p hp; cases hp
  | cons q r ih =>
    intro p hp
    rcases List.mem_cons.mp hp with rfl | hp
    · exact h.1
    · exact ih h.2 p hp

/-- the sign of a figure -/
noncomputable def letCp (f : Int) : Nat := if f = 0 then 97 else if f = 1 then 34 else if f = 2 then 92 else 10
theorem item_one {c : Nat} {x : Str} {i : Int} (h : Txt.item x i = ⟨#[c]⟩) : Txt.item x i = one c := h
theorem letters_item {prog : Program} {w : World} {A : Around} {E : Value → Shared → Prop} {s : Shared} {f : Int} {t u : Tok} {value slice : Expr} {Q : Value → Shared → Prop} (h0 : 0 ≤ f) (h4 : f < 4) (h : Q (.str (one (letCp f)) s.toks) { s with toks := s.toks + 1 })
    (hs : subscripted slice false (.str (Str.ofString "a\"\\\n") t) (.int f u) = operate [.str (Str.ofString "a\"\\\n") t, .int f u] (getItem (.str (Str.ofString "a\"\\\n") t) (.int f u)) := by with_unfolding_all rfl)
    (ht : ∀ r, letTemporaryGo value (.str (Str.ofString "a\"\\\n") t) r = pure () := by intro _; with_unfolding_all rfl) :
    wpAny (model prog w) A (subscriptTail value slice (.str (Str.ofString "a\"\\\n") t) (.int f u)) Q E s := by
  have hl : (Str.ofString "a\"\\\n").length = 4 := by decide +kernel
  refine item_str (fitsSsize_of (N := 9223372036854775808) (by omega) (by omega) (Int.le_refl _)) (by omega) (by omega) (fun _ => ?_) hs ht
  have : Txt.item (Str.ofString "a\"\\\n") f = one (letCp f) := by
    have : f = 0 ∨ f = 1 ∨ f = 2 ∨ f = 3 := by omega
    rcases this with rfl | rfl | rfl | rfl <;> decide +kernel
  rw [this]
  exact h
/-- the sign behind a word -/
noncomputable def sepCp (f : Int) : Nat := if f = 0 then 10 else 32
theorem sep_item {prog : Program} {w : World} {A : Around} {E : Value → Shared → Prop} {s : Shared} {f : Int} {t u : Tok} {value slice : Expr} {Q : Value → Shared → Prop} (h0 : 0 ≤ f) (h4 : f < 2) (h : Q (.str (one (sepCp f)) s.toks) { s with toks := s.toks + 1 })
    (hs : subscripted slice false (.str (Str.ofString "\n ") t) (.int f u) = operate [.str (Str.ofString "\n ") t, .int f u] (getItem (.str (Str.ofString "\n ") t) (.int f u)) := by with_unfolding_all rfl)
    (ht : ∀ r, letTemporaryGo value (.str (Str.ofString "\n ") t) r = pure () := by intro _; with_unfolding_all rfl) :
    wpAny (model prog w) A (subscriptTail value slice (.str (Str.ofString "\n ") t) (.int f u)) Q E s := by
  have hl : (Str.ofString "\n ").length = 2 := by decide +kernel
  refine item_str (fitsSsize_of (N := 9223372036854775808) (by omega) (by omega) (Int.le_refl _)) (by omega) (by omega) (fun _ => ?_) hs ht
  have : Txt.item (Str.ofString "\n ") f = one (sepCp f) := by
    have : f = 0 ∨ f = 1 := by omega
    rcases this with rfl | rfl <;> decide +kernel
  rw [this]
  exact h
end Mine
end

section
open PySem PySem.W PyProof.Rows
namespace Mine
theorem anew32 : True ∧ True := by
  walk1
  w_top off
  all_goals exact True.intro
end Mine
end

section
open PySem PySem.W PySem.Calls PyProof.Rows
set_option maxRecDepth 100000
set_option maxHeartbeats 1000000
namespace Mine

/-- the tree, run with this order, asks for items below n alone, and ends in P -/
noncomputable def RunsTo {α : Type} (n : Nat) (lt : Nat → Nat → Bool) : KasT α → (α → Prop) → Prop
  | .ret a, P => P a
  | .ask i j k, P => i < n ∧ j < n ∧ RunsTo n lt (k (lt i j)) P
theorem RunsTo.bind {α β : Type} {n : Nat} {lt : Nat → Nat → Bool} {f : α → KasT β} {P : β → Prop} : ∀ (t : KasT α), RunsTo n lt t (fun a => RunsTo n lt (f a) P) → RunsTo n lt (t.bind f) P
  | .ret _, h => h
  | .ask i j k, h => ⟨h.1, h.2.1, RunsTo.bind (k (lt i j)) h.2.2⟩
theorem RunsTo.mono {α : Type} {n : Nat} {lt : Nat → Nat → Bool} {P P' : α → Prop} (hp : ∀ a, P a → P' a) : ∀ (t : KasT α), RunsTo n lt t P → RunsTo n lt t P'
  | .ret a, h => hp a h
  | .ask i j k, h => ⟨h.1, h.2.1, RunsTo.mono hp (k (lt i j)) h.2.2⟩
theorem RunsTo.ask {α : Type} {n : Nat} {lt : Nat → Nat → Bool} {i j : Nat} {k : Bool → KasT α} {P : α → Prop} (h1 : i < n) (h2 : j < n) (ht : lt i j = true → RunsTo n lt (k true) P) (hf : lt i j = false → RunsTo n lt (k false) P) : RunsTo n lt (.ask i j k) P := by
  refine ⟨h1, h2, ?_⟩
  cases h : lt i j with
  | true => exact ht h
  | false => exact hf h

section
variable {n : Nat} {key : Nat → Int}
noncomputable abbrev ltK (key : Nat → Int) : Nat → Nat → Bool := fun i j => decide (key i < key j)
noncomputable abbrev KK' (key : Nat → Int) (p : Array Nat) (k : Nat) : Int := key (p.getD k 0)
/-- p is an arrangement of the items below n -/
structure Arr (n : Nat) (p : Array Nat) : Prop where
  size : p.size = n
  perm : p.Perm (List.range n).toArray
theorem Arr.lt {p : Array Nat} (h : Arr n p) {k : Nat} (hk : k < n) : p.getD k 0 < n := by
  have hs := h.size
  have : p.getD k 0 = p[k]'(by omega) := by simp [Array.getD, hs, hk]
  rw [this]
  have : p[k]'(by omega) ∈ p := Array.getElem_mem _
  have := (h.perm.mem_iff).mp this
  simpa using this
theorem Arr.inj {p : Array Nat} (h : Arr n p) {a b : Nat} (ha : a < n) (hb : b < n) (e : p.getD a 0 = p.getD b 0) : a = b := by
  have hs := h.size
  have nd : p.toList.Nodup := by
    have := h.perm.toList
    exact (this.nodup_iff).mpr (by simpa using List.nodup_range)
  have e1 : p.getD a 0 = p.toList[a]'(by simp; omega) := by simp [Array.getD, hs, ha]
  have e2 : p.getD b 0 = p.toList[b]'(by simp; omega) := by simp [Array.getD, hs, hb]
  rw [e1, e2] at e
  have pw := List.pairwise_iff_getElem.mp nd
  rcases Nat.lt_trichotomy a b with h1 | h1 | h1
  · exact absurd e (pw a b _ _ h1)
  · exact h1
  · exact absurd e.symm (pw b a _ _ h1)
noncomputable def Asc (key : Nat → Int) (p : Array Nat) (m : Nat) : Prop := ∀ a b, a < b → b < m → KK' key p a < KK' key p b
noncomputable def Desc (key : Nat → Int) (p : Array Nat) (m : Nat) : Prop := ∀ a b, a < b → b < m → KK' key p b < KK' key p a
noncomputable def Inj (key : Nat → Int) (n : Nat) : Prop := ∀ a b, a < n → b < n → key a = key b → a = b
theorem Arr.ne {p : Array Nat} (h : Arr n p) (hi : Inj key n) {a b : Nat} (ha : a < n) (hb : b < n) (hab : a ≠ b) : KK' key p a ≠ KK' key p b := fun e => hab (h.inj ha hb (hi _ _ (h.lt ha) (h.lt hb) e))

theorem asc_run {p : Array Nat} (h : Arr n p) (hi : Inj key n) : ∀ (f m : Nat), 1 ≤ m → m + f ≤ n → Asc key p m → RunsTo n (ltK key) (kas_asc p f m) fun m' => m ≤ m' ∧ m' ≤ m + f ∧ Asc key p m' ∧ (m' < m + f → KK' key p m' < KK' key p (m' - 1))
  | 0, m, _, _, ha => ⟨Nat.le_refl _, Nat.le_refl _, ha, fun h => absurd h (Nat.lt_irrefl _)⟩
  | f + 1, m, h1, h2, ha => by
    refine RunsTo.ask (h.lt (by omega)) (h.lt (by omega)) (fun c => ?_) (fun c => ?_)
    · have c' := of_decide_eq_true c
      exact ⟨Nat.le_refl _, by omega, ha, fun _ => c'⟩
    · have c' := of_decide_eq_false c
      have hne := h.ne hi (a := m) (b := m - 1) (by omega) (by omega) (by omega)
      have c2 : KK' key p (m - 1) < KK' key p m := Int.lt_iff_le_and_ne.mpr ⟨Int.not_lt.mp c', hne.symm⟩
      have up : Asc key p (m + 1) := fun a b hab hb => by
        rcases Nat.lt_or_eq_of_le (Nat.le_of_lt_succ hb) with e | rfl
        · exact ha a b hab e
        · rcases Nat.lt_or_eq_of_le (Nat.le_sub_one_of_lt hab) with e2 | rfl
          · exact Int.lt_trans (ha a (b - 1) e2 (Nat.sub_one_lt_of_lt hab)) c2
          · exact c2
      refine RunsTo.mono (fun m' hm => ?_) _ (asc_run h hi f (m + 1) (by omega) (by omega) up)
      exact ⟨by omega, by omega, hm.2.2.1, fun h => hm.2.2.2 (by omega)⟩

theorem desc_run {p : Array Nat} (h : Arr n p) (hi : Inj key n) : ∀ (f m : Nat), 1 ≤ m → m + f ≤ n → Desc key p m → RunsTo n (ltK key) (kas_desc f p m 0) fun r => r.1 = p ∧ r.2.2 = 0 ∧ m ≤ r.2.1 ∧ r.2.1 ≤ m + f ∧ Desc key p r.2.1
  | 0, m, _, _, ha => ⟨rfl, rfl, Nat.le_refl _, Nat.le_refl _, ha⟩
  | f + 1, m, h1, h2, ha => by
    refine RunsTo.ask (h.lt (by omega)) (h.lt (by omega)) (fun c => ?_) (fun c => ?_)
    · have c' := of_decide_eq_true c
      have up : Desc key p (m + 1) := fun a b hab hb => by
        rcases Nat.lt_or_eq_of_le (Nat.le_of_lt_succ hb) with e | rfl
        · exact ha a b hab e
        · rcases Nat.lt_or_eq_of_le (Nat.le_sub_one_of_lt hab) with e2 | rfl
          · exact Int.lt_trans c' (ha a (b - 1) e2 (Nat.sub_one_lt_of_lt hab))
          · exact c'
      exact RunsTo.mono (fun r hm => ⟨hm.1, hm.2.1, by omega, by omega, hm.2.2.2.2⟩) _ (desc_run h hi f (m + 1) (by omega) (by omega) up)
    · have c' := of_decide_eq_false c
      have hne := h.ne hi (a := m) (b := m - 1) (by omega) (by omega) (by omega)
      refine RunsTo.ask (h.lt (by omega)) (h.lt (by omega)) (fun d => ?_) (fun d => ?_)
      · exact ⟨rfl, rfl, Nat.le_refl _, Nat.le_add_right _ _, ha⟩
      · have d' := of_decide_eq_false d
        exfalso; unfold KK' at *; omega

theorem getD_eq {p : Array Nat} {k : Nat} : p.getD k 0 = (p[k]?).getD 0 := by simp [Array.getD_eq_getD_getElem?]
theorem Arr.rev {p : Array Nat} (h : Arr n p) (m : Nat) : Arr n (kas_rev p 0 m) := ⟨(mirror_size _ _ _ _).trans h.size, (mirror_perm _ _ _ _).trans h.perm⟩
theorem rev_asc {p : Array Nat} (h : Arr n p) {m : Nat} (hm : m ≤ n) (hd : Desc key p m) : Asc key (kas_rev p 0 m) m := by
  intro a b hab hb
  have e : ∀ k, k < m → (kas_rev p 0 m).getD k 0 = p.getD (m - 1 - k) 0 := fun k hk => by
    rw [getD_eq, getD_eq]
    unfold kas_rev
    rw [getElem?_mirror_all (by rw [h.size]; exact hm), if_pos ⟨Nat.zero_le _, hk⟩, Nat.zero_add]
  unfold KK'
  rw [e a (by omega), e b hb]
  exact hd (m - 1 - b) (m - 1 - a) (by omega) (by omega)

theorem count_run {p : Array Nat} (h : Arr n p) (hi : Inj key n) (hn : 2 ≤ n) : RunsTo n (ltK key) (kas_count n p) fun r => 1 ≤ r.1 ∧ r.1 ≤ n ∧ Arr n r.2 ∧ Asc key r.2 r.1 := by
  unfold kas_count
  refine RunsTo.bind _ (RunsTo.mono (fun m hm => ?_) _ (asc_run h hi (n - 1) 1 (Nat.le_refl _) (by omega) (fun a b h1 h2 => by omega)))
  obtain ⟨m1, m2, m3, m4⟩ := hm
  by_cases e : m = n
  · rw [if_pos (by rw [e]; exact beq_self_eq_true n)]
    exact ⟨m1, by show m ≤ n; omega, h, m3⟩
  · rw [if_neg (by intro c; exact e (eq_of_beq c))]
    by_cases e1 : m > 1
    · rw [if_pos e1]
      refine RunsTo.ask (h.lt (by omega)) (h.lt (by omega)) (fun c => ?_) (fun c => ?_)
      · exact ⟨m1, by show m ≤ n; omega, h, m3⟩
      · have c' := of_decide_eq_false c
        have := m3 0 (m - 1) (by omega) (by omega)
        exfalso; unfold KK' at *; omega
    · rw [if_neg e1]
      obtain rfl : m = 1 := by omega
      unfold kas_descPart
      have hd2 : Desc key p 2 := fun a b hab hb => by
        have := m4 (by omega)
        obtain rfl : a = 0 := by omega
        obtain rfl : b = 1 := by omega
        exact this
      refine RunsTo.bind _ (RunsTo.mono (fun r hr => ?_) _ (desc_run h hi (n - (1 + 1)) 2 (by omega) (by omega) hd2))
      obtain ⟨r1, r2, r3⟩ := r
      obtain ⟨z1, z2, z3, z4, z5⟩ := hr
      dsimp only at z1 z2 z3 z4 z5 ⊢
      subst z1 z2
      rw [if_neg (Nat.lt_irrefl _)]
      unfold kas_tail3
      refine RunsTo.bind _ (RunsTo.mono (fun m' hm' => ?_) _ (asc_run (h.rev r2) hi (n - r2) r2 (by omega) (by omega) (rev_asc h (by omega) z5)))
      exact ⟨by show 1 ≤ m'; omega, by show m' ≤ n; omega, h.rev r2, hm'.2.2.1⟩

theorem place_run {p : Array Nat} (h : Arr n p) (hi : Inj key n) {k : Nat} (hk : k < n) (ha : Asc key p k) : ∀ (f l r : Nat), l ≤ r → r ≤ k → r - l ≤ f → (∀ i, i < l → KK' key p i < KK' key p k) → (∀ i, r ≤ i → i < k → KK' key p k < KK' key p i) →
    RunsTo n (ltK key) (kas_place p k f l r) fun x => x ≤ k ∧ (∀ i, i < x → KK' key p i < KK' key p k) ∧ ∀ i, x ≤ i → i < k → KK' key p k < KK' key p i
  | 0, l, r, h1, h2, h3, h4, h5 => by
    obtain rfl : l = r := by omega
    exact ⟨h2, h4, h5⟩
  | f + 1, l, r, h1, h2, h3, h4, h5 => by
    show RunsTo n (ltK key) (if l ≥ r then .ret l else .ask (p.getD k 0) (p.getD ((l + r) / 2) 0) fun c => if c = true then kas_place p k f l ((l + r) / 2) else kas_place p k f ((l + r) / 2 + 1) r) _
    by_cases e : l ≥ r
    · rw [if_pos e]
      obtain rfl : l = r := by omega
      exact ⟨h2, h4, h5⟩
    · rw [if_neg e]
      have hmid : l ≤ (l + r) / 2 ∧ (l + r) / 2 < r := by omega
      generalize (l + r) / 2 = mid at hmid ⊢
      obtain ⟨g1, g2⟩ := hmid
      have g3 : mid < k := Nat.lt_of_lt_of_le g2 h2
      refine RunsTo.ask (h.lt hk) (h.lt (Nat.lt_trans g3 hk)) (fun c => ?_) (fun c => ?_)
      · have c' := of_decide_eq_true c
        rw [if_pos rfl]
        refine place_run h hi hk ha f l mid g1 (Nat.le_of_lt g3) (by omega) h4 fun i hi1 hi2 => ?_
        rcases Nat.eq_or_lt_of_le hi1 with rfl | e3
        · exact c'
        · exact Int.lt_trans c' (ha mid i e3 hi2)
      · have c' := of_decide_eq_false c
        have hne := h.ne hi (a := k) (b := mid) hk (Nat.lt_trans g3 hk) (Nat.ne_of_gt g3)
        have c2 : KK' key p mid < KK' key p k := Int.lt_iff_le_and_ne.mpr ⟨Int.not_lt.mp c', hne.symm⟩
        rw [if_neg Bool.false_ne_true]
        refine place_run h hi hk ha f (mid + 1) r g2 h2 (by omega) (fun i hi1 => ?_) h5
        rcases Nat.eq_or_lt_of_le (Nat.le_of_lt_succ hi1) with rfl | e3
        · exact c2
        · exact Int.lt_trans (ha i mid e3 g3) c2

theorem bin_run (hi : Inj key n) : ∀ (f : Nat) (p : Array Nat) (k : Nat), Arr n p → k + f = n → Asc key p k → RunsTo n (ltK key) (kas_bin f p k) fun p' => Arr n p' ∧ Asc key p' n
  | 0, p, k, h, hk, ha => by
    obtain rfl : k = n := by omega
    exact ⟨h, ha⟩
  | f + 1, p, k, h, hk, ha => by
    show RunsTo n (ltK key) ((kas_place p k k 0 k).bind fun l => kas_bin f (bubble p k (k - l)) (k + 1)) _
    refine RunsTo.bind _ (RunsTo.mono (fun l hl => ?_) _ (place_run h hi (by omega) ha k 0 k (Nat.zero_le _) (Nat.le_refl _) (by omega) (fun i hi1 => absurd hi1 (Nat.not_lt_zero _)) (fun i h1 h2 => by omega)))
    obtain ⟨l1, l2, l3⟩ := hl
    refine bin_run hi f _ (k + 1) ⟨(bubble_size _ _ _).trans h.size, (bubble_perm _ _ _).trans h.perm⟩ (by omega) ?_
    have e : ∀ x, (bubble p k (k - l)).getD x 0 = if x = l then p.getD k 0 else if l < x ∧ x ≤ k then p.getD (x - 1) 0 else p.getD x 0 := fun x => by
      rw [getD_eq, getElem?_bubble (by rw [h.size]; omega) (k - l) (by omega), show k - (k - l) = l by omega]
      by_cases c1 : x = l
      · rw [if_pos c1, if_pos c1, getD_eq]
      · rw [if_neg c1, if_neg c1]
        by_cases c2 : l < x ∧ x ≤ k
        · rw [if_pos c2, if_pos c2, getD_eq]
        · rw [if_neg c2, if_neg c2, getD_eq]
    intro a b hab hb
    unfold KK'
    rw [e a, e b]
    by_cases a1 : a = l
    · rw [if_pos a1, if_neg (by omega), if_pos (by omega)]
      exact l3 (b - 1) (by omega) (by omega)
    · rw [if_neg a1]
      by_cases b1 : b = l
      · rw [if_pos b1, if_neg (by omega)]
        exact l2 a (by omega)
      · rw [if_neg b1]
        by_cases a2 : l < a ∧ a ≤ k
        · rw [if_pos a2, if_pos (by omega)]
          exact ha (a - 1) (b - 1) (by omega) (by omega)
        · rw [if_neg a2]
          by_cases b2 : l < b ∧ b ≤ k
          · rw [if_pos b2]
            by_cases c : a = b - 1
            · omega
            · exact ha a (b - 1) (by omega) (by omega)
          · rw [if_neg b2]
            exact ha a b hab (by omega)

/-- the tree of list.sort, run with a strict order, ends with the items in this order -/
theorem sort_run (hi : Inj key n) (hn : 2 ≤ n) : RunsTo n (ltK key) (kas_sort n) fun p => Arr n p ∧ Asc key p n := by
  unfold kas_sort
  have h0 : Arr n (List.toArray (List.range n)) := ⟨by simp, Array.Perm.refl _⟩
  refine RunsTo.bind _ (RunsTo.mono (fun r hr => ?_) _ (count_run h0 hi hn))
  obtain ⟨r1, r2, r3, r4⟩ := hr
  by_cases e : r.1 < n
  · rw [if_pos e, show max r.1 1 = r.1 by omega]
    exact bin_run hi _ _ _ r3 (by omega) r4
  · rw [if_neg e]
    have : r.1 = n := by omega
    rw [this] at r4
    exact ⟨r3, r4⟩
end
end Mine
end

section
open PySem PySem.W PyProof.Rows Mine
local macro_rules | `(tactic| walk_at "Same9") => `(tactic| repeat (first | exact True.intro | refine And.intro (by first | exact Or.inl (by k_mem) | exact Or.inr (by k_mem)) ?_))
local macro_rules | `(tactic| walk_at "Sub9") => `(tactic| repeat (first | exact True.intro | refine And.intro (by k_mem) ?_))
local macro_rules | `(tactic| walk_at "Keep9") => `(tactic| repeat (first | exact Keep.refl | refine Keep.set ?_ (by k_mem)))
local macro_rules | `(tactic| k_all) => `(tactic| exact allLt_ne (by first | assumption | exact And.right (by assumption) | exact And.right (And.right (by assumption)) | exact And.right (And.right (And.right (by assumption)))))
local macro_rules | `(tactic| walk_at "Subs9") => `(tactic| first | exact sub_refl | exact sub_tail sub_refl | exact sub_tail (sub_tail sub_refl) | exact sub_tail (sub_tail (sub_tail sub_refl)) | exact sub_nil | (refine sub_cons (by k_mem) ?_; walk_at "Subs9") | (refine sub_tail ?_; walk_at "Subs9"))

section
open PySem PySem.W PyProof.Rows
namespace Mine
theorem anew33 : True ∧ True := by
  walk1
  w_top off
  all_goals exact True.intro
end Mine
end

section
open PySem PySem.W PySem.Calls PyProof.Rows
set_option maxRecDepth 100000
set_option maxHeartbeats 1000000
namespace Mine

noncomputable def xFor : Stmt := lawStm 5
noncomputable def pFor : Stmt := (stBody xFor).getD 2 (.Pass ⟨0, 0, 0, 0⟩)
/-- the figure at a place -/
noncomputable def figAt (x : Int) (p : Nat) : Int := x / (3 * 4 ^ p) % 4
theorem figAt_lo (x : Int) (p : Nat) : 0 ≤ figAt x p := Int.emod_nonneg _ (by decide)
theorem figAt_hi (x : Int) (p : Nat) : figAt x p < 4 := Int.emod_lt_of_pos _ (by decide)
noncomputable def strN (x : Int) (n : Nat) : Str := ⟨((List.range n).map fun p => letCp (figAt x p)).toArray⟩
noncomputable def valN (x : Int) (n : Nat) : Int := ((List.range n).map fun p => figAt x p * 4 ^ p).sum
theorem strN_succ (x : Int) (n : Nat) : strN x (n + 1) = strN x n ++ one (letCp (figAt x n)) := by
  show Str.mk _ = Str.mk _
  rw [List.range_succ]
  simp
  rfl
theorem valN_succ (x : Int) (n : Nat) : valN x (n + 1) = valN x n + figAt x n * 4 ^ n := by
  unfold valN
  rw [List.range_succ]
  simp
theorem strN_length (x : Int) (n : Nat) : (strN x n).length = n := by simp [strN, Str.length]
theorem valN_bound (x : Int) : ∀ n : Nat, n ≤ 2 → 0 ≤ valN x n ∧ valN x n < 16
  | 0, _ => by simp [valN]
  | 1, _ => by have a := figAt_lo x 0; have b := figAt_hi x 0; simp [valN]; omega
  | 2, _ => by have a := figAt_lo x 0; have b := figAt_hi x 0; have c := figAt_lo x 1; have d := figAt_hi x 1; simp [valN, List.range_succ]; omega


theorem p_turn {w : World} {g : Heap} {L fa : Addr} {cd : Value} {s : Shared} {m : Str → Option Value} {Q : Flow → Shared → Prop} {oL : Obj} {x : Int} {tl t1 t2 t3 t4 : Tok} {i : Nat}
    (bas : Bas w g) (hi2 : i < 2) (F : Fr g L s.heap m) (hm1 : m (Str.ofString "x") = some (.int x t1)) (hm2 : m (Str.ofString "word") = some (.str (strN x i) t2)) (hm3 : m (Str.ofString "value") = some (.int (valN x i) t3))
    (N : News g L s.heap [(L+1, oL)]) (dL : oL.data = .cell (some (.str (Str.ofString "a\"\\\n") tl)))
    (k : ∀ h' tk m' t2' t3', Fr g L h' m' → Agree [L] s.heap h' → Keep [Str.ofString "place", Str.ofString "figure", Str.ofString "word", Str.ofString "value"] m m' →
      m' (Str.ofString "word") = some (.str (strN x (i + 1)) t2') → m' (Str.ofString "value") = some (.int (valN x (i + 1)) t3') → Q .next { s with heap := h', toks := tk }) :
    wpAny (model PP w) (LA.deeper (lawEnv L fa cd)) (assign (forTarget pFor) (lawEnv L fa cd) (.int (0 + (i : Int)) t4)) (fun _ s₂ => wpAny (model PP w) (LA.deeper (lawEnv L fa cd)) (execs (stBody pFor) (lawEnv L fa cd)) Q (fun _ _ => False) s₂) (fun _ _ => False) s := by
  obtain ⟨h85, h36, h29, X, base, p, loose, mean, mg, mb, B, T⟩ := bas
  obtain ⟨own, O, N2, off⟩ := old_of F N
  simp only [List.cons_append, List.nil_append] at N2
  simp only [List.map_cons, List.map_nil] at off
  have F2 := fr_ov [(Str.ofString "x", _), (Str.ofString "word", _), (Str.ofString "value", _)] F (AtM.all ⟨hm1, hm2, hm3, trivial⟩)
  dsimp only [ov] at F2
  have hlen := strN_length x i
  have f0 := figAt_lo x i
  have f1 := figAt_hi x i
  have v0 := valN_bound x i (by omega)
  have hov := ov_eq (m := m) (l := [(Str.ofString "x", .int x t1), (Str.ofString "word", .str (strN x i) t2), (Str.ofString "value", .int (valN x i) t3)]) (AtM.all ⟨hm1, hm2, hm3, trivial⟩)
  clear F N
  conv in forTarget pFor => whnf
  conv in stBody pFor => whnf
  refine wpAny_assign_Name ?_
  have hfig : (x.fdiv (3 * 4 ^ (0 + (i : Int)).toNat)).fmod 4 = figAt x i := by
    rw [show (0 + (i : Int)).toNat = i by omega, Int.fmod_eq_emod_of_nonneg _ (by decide), Int.fdiv_eq_ediv_of_nonneg _ (Int.mul_nonneg (by decide) (Int.le_of_lt (Int.pow_pos (by decide))))]
    rfl
  have hit : Txt.item (Str.ofString "a\"\\\n") (figAt x i) = one (letCp (figAt x i)) := by
    have : figAt x i = 0 ∨ figAt x i = 1 ∨ figAt x i = 2 ∨ figAt x i = 3 := by omega
    rcases this with h | h | h | h <;> (rw [h]; decide +kernel)
  have hval : valN x i + figAt x i * 4 ^ (0 + (i : Int)).toNat = valN x (i + 1) := by rw [show (0 + (i : Int)).toNat = i by omega, valN_succ]
  have i2 : i = 0 ∨ i = 1 := by omega
  rcases i2 with rfl | rfl
  all_goals
    repeat' ((fail_if_success (with_reducible show wpAny _ _ (storeName _ (Str.ofString "figure") _) _ _ _)); first | (k_unfold; (try dsimp only)) | ((with_reducible show wpAny _ _ (binaryOp Operator.Add (Value.str _ _) (Value.str _ _)) _ _ _); (k_dflt (refine' add_here ?zqa ?zqb ?_; (case zqa => omega); (case zqb => exact Nat.le_of_ble_eq_true rfl))); intro _ _) | ((with_reducible show wpAny _ _ (subscriptTail _ _ (Value.str _ _) (Value.int _ _)) _ _ _); k_dflt (refine letters_item (by omega) (by omega) ?_)) | walk1 | (dsimp only; walk1))
    rw [hfig]
    repeat' ((fail_if_success (with_reducible show wpAny _ _ (binaryOp Operator.Add (Value.str _ _) _) _ _ _)); first | (k_unfold; (try dsimp only)) | ((with_reducible show wpAny _ _ (binaryOp Operator.Add (Value.str _ _) (Value.str _ _)) _ _ _); (k_dflt (refine' add_here ?zqa ?zqb ?_; (case zqa => omega); (case zqb => exact Nat.le_of_ble_eq_true rfl))); intro _ _) | ((with_reducible show wpAny _ _ (subscriptTail _ _ (Value.str _ _) (Value.int _ _)) _ _ _); k_dflt (refine letters_item (by omega) (by omega) ?_)) | walk1 | (dsimp only; walk1))
    repeat' ((fail_if_success (with_reducible show wpAny _ _ (storeName _ (Str.ofString "word") _) _ _ _)); first | (k_unfold; (try dsimp only)) | ((with_reducible show wpAny _ _ (binaryOp Operator.Add (Value.str _ _) (Value.str _ _)) _ _ _); (k_dflt (refine' add_here ?zqa ?zqb ?_; (case zqa => omega); (case zqb => exact Nat.le_of_ble_eq_true rfl))); intro _ _) | ((with_reducible show wpAny _ _ (subscriptTail _ _ (Value.str _ _) (Value.int _ _)) _ _ _); k_dflt (refine letters_item (by omega) (by omega) ?_)) | walk1 | (dsimp only; walk1))
    rw [← strN_succ]
    repeat' ((fail_if_success (with_reducible show wpAny _ _ (storeName _ (Str.ofString "value") _) _ _ _)); first | (k_unfold; (try dsimp only)) | ((with_reducible show wpAny _ _ (binaryOp Operator.Add (Value.str _ _) (Value.str _ _)) _ _ _); (k_dflt (refine' add_here ?zqa ?zqb ?_; (case zqa => omega); (case zqb => exact Nat.le_of_ble_eq_true rfl))); intro _ _) | ((with_reducible show wpAny _ _ (subscriptTail _ _ (Value.str _ _) (Value.int _ _)) _ _ _); k_dflt (refine letters_item (by omega) (by omega) ?_)) | walk1 | (dsimp only; walk1))
    rw [hval]
    repeat' (first | (k_unfold; (try dsimp only)) | ((with_reducible show wpAny _ _ (binaryOp Operator.Add (Value.str _ _) (Value.str _ _)) _ _ _); (k_dflt (refine' add_here ?zqa ?zqb ?_; (case zqa => omega); (case zqb => exact Nat.le_of_ble_eq_true rfl))); intro _ _) | ((with_reducible show wpAny _ _ (subscriptTail _ _ (Value.str _ _) (Value.int _ _)) _ _ _); k_dflt (refine letters_item (by omega) (by omega) ?_)) | (k_end; wrow_close) | walk1 | (dsimp only; walk1) | (leave1; walk_say "STEP leave1"; try dsimp only) | fail "no step")
    rename Fr _ _ _ _ => F9
    rename News _ _ _ _ => N9
    refine k _ _ _ _ _ F9 (O.agree F9 N9 (by intro p hp; k_ownIn) [] (by walk_at "Same9")) ?_ rfl rfl
    refine keep_ov hov ?_
    walk_at "Keep9"
end Mine
end

section
open PySem PySem.W PyProof.Rows
namespace Mine
theorem anew34 : True ∧ True := by
  walk1
  w_top off
  all_goals exact True.intro
end Mine
end

section
open PySem PySem.W PySem.Calls PyProof.Rows
set_option maxRecDepth 100000
set_option maxHeartbeats 1000000
namespace Mine

theorem p_loop {w : World} {g : Heap} {L fa : Addr} {cd : Value} {s : Shared} {m : Str → Option Value} {Q : Flow → Shared → Prop} {oL : Obj} {x : Int} {tl t1 t2 t3 : Tok}
    (bas : Bas w g) (F : Fr g L s.heap m) (hm1 : m (Str.ofString "x") = some (.int x t1)) (hm2 : m (Str.ofString "word") = some (.str (Str.ofString "") t2)) (hm3 : m (Str.ofString "value") = some (.int 0 t3))
    (N : News g L s.heap [(L+1, oL)]) (dL : oL.data = .cell (some (.str (Str.ofString "a\"\\\n") tl)))
    (k : ∀ h' tk m' t2' t3', Fr g L h' m' → Agree [L] s.heap h' → Keep [Str.ofString "place", Str.ofString "figure", Str.ofString "word", Str.ofString "value"] m m' →
      m' (Str.ofString "word") = some (.str (strN x (x % 3).toNat) t2') → m' (Str.ofString "value") = some (.int (valN x (x % 3).toNat) t3') → Q .next { s with heap := h', toks := tk }) :
    wpAny (model PP w) (LA.deeper (lawEnv L fa cd)) (exec pFor (lawEnv L fa cd)) Q (fun _ _ => False) s := by
  have bas2 := bas
  obtain ⟨h85, h36, h29, X, base, p, loose, mean, mg, mb, B, T⟩ := bas
  obtain ⟨own, O, N2, off⟩ := old_of F N
  simp only [List.cons_append, List.nil_append] at N2
  simp only [List.map_cons, List.map_nil] at off
  have F2 := fr_ov [(Str.ofString "x", _)] F (AtM.all ⟨hm1, trivial⟩)
  have hov := ov_eq (m := m) (l := [(Str.ofString "x", .int x t1)]) (AtM.all ⟨hm1, trivial⟩)
  dsimp only [ov] at F2
  clear F N
  have hx0 : x.fmod 3 = x % 3 := Int.fmod_eq_emod_of_nonneg _ (by decide)
  have hx1 : 0 ≤ x.fmod 3 := by omega
  have hx2 : x.fmod 3 < 3 := by omega
  conv in pFor => whnf
  repeat' (first | (k_unfold; (try dsimp only)) | ((with_reducible show wpAny _ _ (pyIter (Value.ref _)) _ _ _); k_dflt (refine' pyIter_rangeK ?zqF ?zqN ?zqr ?zqa ?zqb ?zqc ?_; (case zqF => k_asm); (case zqN => k_asm); (case zqr => k_mem); (case zqa => omega); (case zqb => omega); (case zqc => omega)); walk_at "In9") | ((with_reducible show wpAny _ _ (call (Value.type "range") _) _ _ _); k_dflt (first | (refine' range1K ?zqF ?zqN ?_; (case zqF => k_asm); (case zqN => k_asm)) | (refine' range2K ?zqF ?zqN ?_; (case zqF => k_asm); (case zqN => k_asm))); walk_at "In9") | ((with_reducible show wpAny _ _ (exec (Stmt.For _ (Expr.Call _ _ _ _) _ _ _) _) _ _ _); (k_dflt (refine wpAny_For ?_))) | (k_end; wrow_close) | walk1 | (dsimp only; walk1) | (leave1; walk_say "STEP leave1"; try dsimp only) | fail "no step")
  rename Addr => it9
  rename Fr _ _ _ _ => F9
  rename News _ _ _ _ => N9
  rename (_ < _) ∧ (_ < _) ∧ AllLt _ _ => l9
  have h9 := N9 (it9, _) (.head _)
  have hf : Fresh g L s.heap it9 := O.fresh ⟨l9.2.1, l9.2.2⟩
  have hn := hf.none h9.2.1 h9.2.2
  have a9 := O.agree F9 N9 (by intro p hp; k_ownIn) [] (by walk_at "Same9")
  have hF9 : (fun y => if y = Str.ofString "x" then some (Value.int x t1) else m y) = m := hov
  rw [hF9] at F9
  refine for_range0 (x.fmod 3).toNat (fun i h m1 => Agree [it9, L] s.heap h ∧ Keep [Str.ofString "place", Str.ofString "figure", Str.ofString "word", Str.ofString "value"] m m1 ∧ ∃ t2 t3, m1 (Str.ofString "word") = some (.str (strN x i) t2) ∧ m1 (Str.ofString "value") = some (.int (valN x i) t3))
    rfl (fun _ _ => rfl) (.head _) N9 (by omega) ?stab ?turn ?done F9 ?J0
  case stab => exact fun i h h' m1 hJ ha => ⟨agree_trans hJ.1 (agree_mono ha (by walk_at "Subs9")), hJ.2⟩
  case J0 => exact ⟨agree_mono a9 (by walk_at "Subs9"), Keep.refl, t2, t3, hm2, hm3⟩
  case turn =>
    intro i m1 h tk t hi hJ F1 hI
    obtain ⟨ja, jk, u2, u3, jw, jv⟩ := hJ
    have N1 : News g L h [(L+1, oL)] := after_news O.N ja (by
      intro q hq
      rw [List.mem_singleton.mp hq]
      simp only [List.mem_cons, List.not_mem_nil, or_false, not_or]
      refine ⟨neN ?_, neN ?_⟩ <;> omega)
    refine p_turn bas2 (by omega) F1 ((jk _ (by decide)).trans hm1) jw jv N1 dL fun h' tk' m' t2' t3' F' ha hk e1 e2 => ?_
    exact TurnEnd.next F' (ha _ _ hI (by simpa using h9.2.1)) rfl ⟨agree_trans ja (agree_mono ha (by walk_at "Subs9")), jk.trans hk, _, _, e1, e2⟩
  case done =>
    intro m1 h tk hJ F1
    obtain ⟨ja, jk, u2, u3, jw, jv⟩ := hJ
    rw [hx0] at jw jv
    exact k _ _ _ _ _ F1 (agree_fresh ja hn) jk jw jv
end Mine
end

section
open PySem PySem.W PyProof.Rows
namespace Mine
theorem anew35 : True ∧ True := by
  walk1
  w_top off
  all_goals exact True.intro
end Mine
end

section
open PySem PySem.W PySem.Calls PyProof.Rows
set_option maxRecDepth 100000
set_option maxHeartbeats 400000
namespace Mine

/-- a word as it is written -/
noncomputable def wr (x : Str) (b : Int) : Str := if b = 1 ∧ x.cps.size ≠ 0 then writtenB x else writtenQ x
theorem wr_len (x : Str) (b : Int) (hx : x.cps.toList.length ≤ 2) : (wr x b).length ≤ 6 := by
  have h1 := joined_len (f := escQ) escQ_len hx
  have h2 := joined_len (f := escB) (fun c => Nat.le_of_eq (escB_len c)) hx
  have h3 : (Str.ofString "\"").length = 1 := by decide +kernel
  unfold wr
  split
  · unfold writtenB; omega
  · unfold writtenQ; simp only [Str.length_append]; omega
theorem empty_str {x : Str} (h : x.cps.size = 0) : x = Str.ofString "" := by
  obtain ⟨c⟩ := x
  have : c = #[] := Array.eq_empty_of_size_eq_zero h
  rw [this]; rfl
theorem written_any {w : World} {dp un : Nat} {gd : Option (List Code)} {fr : List Env} {h₀ : Heap} {L : Addr} {m : Str → Option Value} {s : Shared} {R : Result → Shared → Prop} {x : Str} {b : Int} {t tb : Tok}
    (C : Cx w (AA dp un gd fr) h₀ L m s.heap) (hA : dp ≤ 400) (hb : b = 0 ∨ b = 1) (hx : x.cps.toList.length ≤ 2) (ha : x.cps.all (· < 128) = true)
    (k : ∀ h' tk t', Agree [] s.heap h' → R (.ok (.ret (.str (wr x b) t'))) { s with heap := h', toks := tk }) :
    codeAny (model PP w) (AA dp un gd fr) (.call (.ref 91) ⟨[.str x t, .int b tb], []⟩) R s := by
  rcases hb with rfl | rfl
  · rw [show wr x 0 = writtenQ x from if_neg (by simp)] at k
    exact written_q C hA hx ha k
  · by_cases hs : x.cps.size = 0
    · rw [show wr x 1 = writtenQ x from if_neg (by simp [hs])] at k
      rw [empty_str hs] at k ⊢
      exact written_e C hA k
    · rw [show wr x 1 = writtenB x from if_pos ⟨rfl, hs⟩] at k
      exact written_b C hA hx ha hs k

theorem written_here {w : World} {g : Heap} {L fa : Addr} {cd : Value} {m : Str → Option Value} {s : Shared} {base : Heap} {p loose mean mg mb} {E : Value → Shared → Prop} {Q : Value → Shared → Prop} {news : List (Addr × Obj)} {x : Str} {b : Int} {t tb : Tok}
    (B : Below LA base [] g) (X : (hd.heap_1 w.params).In g) (T : Top p loose mean mg mb g) (F : Fr g L s.heap m) (N : News g L s.heap news) (hb : b = 0 ∨ b = 1) (hx : x.cps.toList.length ≤ 2) (ha : x.cps.all (· < 128) = true)
    (k : ∀ h' tk t', Fr g L h' m → News g L h' news → Q (.str (wr x b) t') { s with heap := h', toks := tk }) :
    wpAny (model PP w) (LA.deeper (lawEnv L fa cd)) (call (.ref 91) [.str x t, .int b tb]) Q E s :=
  wpAny_call (written_any (cx_of (env := lawEnv L fa cd) B F X T rfl rfl) (by decide) hb hx ha fun h' tk t' hag =>
    k _ _ _ (after_fr (news := []) F News.nil hag) (after_news N hag (by simp)))
theorem after_L {g h h' : Heap} {L : Addr} {news : List (Addr × Obj)} (N : News g L h news) (ha : Agree [L] h h') : News g L h' news := after_news N ha fun p hp => by simpa using (N p hp).2.1

noncomputable def wordW (x : Int) : Str := strN x (x % 3).toNat
noncomputable def valW (x : Int) : Int := valN x (x % 3).toNat
noncomputable def chunkW (x : Int) : Str := wr (wordW x) (x / 48 % 2) ++ one (sepCp (x / 96 % 2))
theorem wordW_len (x : Int) : (wordW x).cps.toList.length ≤ 2 := by
  have := strN_length x (x % 3).toNat
  have h : (x % 3).toNat ≤ 2 := by omega
  show (strN x (x % 3).toNat).cps.toList.length ≤ 2
  rw [show (strN x (x % 3).toNat).cps.toList.length = (strN x (x % 3).toNat).length by simp [Str.length]]
  omega
theorem letCp_lt (f : Int) : letCp f < 128 := by unfold letCp; split; decide; split; decide; split; decide; decide
theorem wordW_ascii (x : Int) : (wordW x).cps.all (· < 128) = true := by
  simp [wordW, strN, letCp_lt]
theorem chunkW_len (x : Int) : (chunkW x).length ≤ 7 := by
  have := wr_len (wordW x) (x / 48 % 2) (wordW_len x)
  unfold chunkW
  rw [Str.length_append]
  have : (one (sepCp (x / 96 % 2))).length = 1 := rfl
  omega



theorem w_turn {w : World} {g : Heap} {L fa wa va : Addr} {cd : Value} {s : Shared} {m : Str → Option Value} {Q : Flow → Shared → Prop} {oV oW oL : Obj} {x : Int} {tl tx t : Tok} {txt : Str} {ws vs : List Value} {nw nv : Nat}
    (bas : Bas w g) (F : Fr g L s.heap m) (hmt : m (Str.ofString "text") = some (.str txt tx)) (hsz : txt.length ≤ 800) (hws : ws.length ≤ 1000) (hvs : vs.length ≤ 1000)
    (N : News g L s.heap [(va, listOf vs.toArray nv), (wa, listOf ws.toArray nw), (L+1+1+1, oV), (L+1+1, oW), (L+1, oL)])
    (dV : oV.data = .cell (some (.ref va))) (dW : oW.data = .cell (some (.ref wa))) (dL : oL.data = .cell (some (.str (Str.ofString "a\"\\\n") tl))) (o1 : @LT.lt Nat _ (L+1+1+1) wa) (o2 : @LT.lt Nat _ wa va)
    (k : ∀ h' tk m' tx' tw tv, Fr g L h' m' → Agree [L, va, wa] s.heap h' → Keep [Str.ofString "x", Str.ofString "place", Str.ofString "figure", Str.ofString "word", Str.ofString "value", Str.ofString "text"] m m' →
      m' (Str.ofString "text") = some (.str (txt ++ chunkW x) tx') → News g L h' [(va, listOf (vs ++ [Value.int (valW x) tv]).toArray (nv + 1)), (wa, listOf (ws ++ [Value.str (wordW x) tw]).toArray (nw + 1))] → Q .next { s with heap := h', toks := tk }) :
    wpAny (model PP w) (LA.deeper (lawEnv L fa cd)) (assign (forTarget xFor) (lawEnv L fa cd) (.int x t)) (fun _ s₂ => wpAny (model PP w) (LA.deeper (lawEnv L fa cd)) (execs (stBody xFor) (lawEnv L fa cd)) Q (fun _ _ => False) s₂) (fun _ _ => False) s := by
  have bas2 := bas
  obtain ⟨h85, h36, h29, X, base, p, loose, mean, mg, mb, B, T⟩ := bas
  obtain ⟨own, O, N2, off⟩ := old_of F N
  simp only [List.cons_append, List.nil_append] at N2
  simp only [List.map_cons, List.map_nil] at off
  have F2 := fr_ov [(Str.ofString "text", _)] F (AtM.all ⟨hmt, trivial⟩)
  have hov := ov_eq (m := m) (l := [(Str.ofString "text", .str txt tx)]) (AtM.all ⟨hmt, trivial⟩)
  dsimp only [ov] at F2
  clear F N
  have hzw : ws.toArray.size ≤ sizeLine := by rw [sizeLine_eq]; simp; omega
  have hzv : vs.toArray.size ≤ sizeLine := by rw [sizeLine_eq]; simp; omega
  conv in forTarget xFor => whnf
  conv in stBody xFor => whnf
  refine wpAny_assign_Name ?_
  repeat' ((fail_if_success (with_reducible show wpAny _ _ (exec (Stmt.For _ _ _ _ _) _) _ _ _)); first | (k_unfold; (try dsimp only)) | ((with_reducible show wpAny _ _ (binaryOp Operator.Add (Value.str _ _) (Value.str _ _)) _ _ _); (k_dflt (refine' add_here ?zqa ?zqb ?_; (case zqa => (first | (simp only [Str.length_append]; omega) | omega)); (case zqb => (first | (simp only [Str.length_append]; omega) | omega)))); intro _ _) | ((with_reducible show wpAny _ _ (call (Value.ref 91) _) _ _ _); (k_dflt (refine' written_here ?zqB ?zqX ?zqT ?zqF ?zqN ?zqhb ?zqhx ?zqha ?_; (case zqB => assumption); (case zqX => assumption); (case zqT => assumption); (case zqF => assumption); (case zqN => assumption); (case zqhb => assumption); (case zqhx => exact wordW_len _); (case zqha => exact wordW_ascii _))); intro _ _ _ _ _; (try k_sweep)) | walk1 | (dsimp only; walk1))
  rename Fr _ _ _ _ => F9
  rename News _ _ _ _ => N9
  refine p_loop bas2 F9 rfl rfl rfl (fun q hq => N9 q (by rw [List.mem_singleton.mp hq]; k_mem)) dL fun h2 tk2 m2 t2 t3 F2 ha2 hk2 e2 e3 => ?_
  have N3 := after_L N9 ha2
  have hk0 : Keep [Str.ofString "x", Str.ofString "place", Str.ofString "figure", Str.ofString "word", Str.ofString "value", Str.ofString "text"] m m2 :=
    Keep.trans (keep_ov hov (by walk_at "Keep9")) (hk2.mono (by simp))
  have x1 : m2 (Str.ofString "x") = some (.int x t) := (hk2 _ (by decide)).trans rfl
  have x2 : m2 (Str.ofString "text") = some (.str txt tx) := (hk2 _ (by decide)).trans rfl
  replace e2 : m2 (Str.ofString "word") = some (.str (wordW x) t2) := e2
  replace e3 : m2 (Str.ofString "value") = some (.int (valW x) t3) := e3
  clear F9 N9 hk2 ha2 hov
  have F3 := fr_ov [(Str.ofString "x", _), (Str.ofString "word", _), (Str.ofString "value", _), (Str.ofString "text", _)] F2 (AtM.all ⟨x1, e2, e3, x2, trivial⟩)
  have hov := ov_eq (m := m2) (l := [(Str.ofString "x", .int x t), (Str.ofString "word", .str (wordW x) t2), (Str.ofString "value", .int (valW x) t3), (Str.ofString "text", .str txt tx)]) (AtM.all ⟨x1, e2, e3, x2, trivial⟩)
  dsimp only [ov] at F3
  clear F2
  have hb1 : (x.fdiv 48).fmod 2 = x / 48 % 2 := by rw [Int.fmod_eq_emod_of_nonneg _ (by decide), Int.fdiv_eq_ediv_of_nonneg _ (by decide)]
  have hb2 : (x.fdiv 96).fmod 2 = x / 96 % 2 := by rw [Int.fmod_eq_emod_of_nonneg _ (by decide), Int.fdiv_eq_ediv_of_nonneg _ (by decide)]
  have hb3 : x / 48 % 2 = 0 ∨ x / 48 % 2 = 1 := by omega
  have hwl := wr_len (wordW x) (x / 48 % 2) (wordW_len x)
  have hol : (one (sepCp (x / 96 % 2))).length = 1 := rfl
  dsimp only
  repeat' ((fail_if_success (with_reducible show wpAny _ _ (call (Value.ref 91) _) _ _ _)); first | (k_unfold; (try dsimp only)) | ((with_reducible show wpAny _ _ (binaryOp Operator.Add (Value.str _ _) (Value.str _ _)) _ _ _); (k_dflt (refine' add_here ?zqa ?zqb ?_; (case zqa => (first | (simp only [Str.length_append]; omega) | omega)); (case zqb => (first | (simp only [Str.length_append]; omega) | omega)))); intro _ _) | ((with_reducible show wpAny _ _ (call (Value.ref 91) _) _ _ _); (k_dflt (refine' written_here ?zqB ?zqX ?zqT ?zqF ?zqN ?zqhb ?zqhx ?zqha ?_; (case zqB => assumption); (case zqX => assumption); (case zqT => assumption); (case zqF => assumption); (case zqN => assumption); (case zqhb => assumption); (case zqhx => exact wordW_len _); (case zqha => exact wordW_ascii _))); intro _ _ _ _ _; (try k_sweep)) | walk1 | (dsimp only; walk1))
  rw [hb1]
  repeat' ((fail_if_success (with_reducible show wpAny _ _ (subscriptTail _ _ (Value.str _ _) _) _ _ _)); first | (k_unfold; (try dsimp only)) | ((with_reducible show wpAny _ _ (binaryOp Operator.Add (Value.str _ _) (Value.str _ _)) _ _ _); (k_dflt (refine' add_here ?zqa ?zqb ?_; (case zqa => (first | (simp only [Str.length_append]; omega) | omega)); (case zqb => (first | (simp only [Str.length_append]; omega) | omega)))); intro _ _) | ((with_reducible show wpAny _ _ (call (Value.ref 91) _) _ _ _); (k_dflt (refine' written_here ?zqB ?zqX ?zqT ?zqF ?zqN ?zqhb ?zqhx ?zqha ?_; (case zqB => assumption); (case zqX => assumption); (case zqT => assumption); (case zqF => assumption); (case zqN => assumption); (case zqhb => assumption); (case zqhx => exact wordW_len _); (case zqha => exact wordW_ascii _))); intro _ _ _ _ _; (try k_sweep)) | walk1 | (dsimp only; walk1))
  rw [hb2]
  refine sep_item (by omega) (by omega) ?_
  repeat' ((fail_if_success (with_reducible show wpAny _ _ (storeName _ (Str.ofString "text") _) _ _ _)); first | (k_unfold; (try dsimp only)) | ((with_reducible show wpAny _ _ (binaryOp Operator.Add (Value.str _ _) (Value.str _ _)) _ _ _); (k_dflt (refine' add_here ?zqa ?zqb ?_; (case zqa => (first | (simp only [Str.length_append]; omega) | omega)); (case zqb => (first | (simp only [Str.length_append]; omega) | omega)))); intro _ _) | ((with_reducible show wpAny _ _ (call (Value.ref 91) _) _ _ _); (k_dflt (refine' written_here ?zqB ?zqX ?zqT ?zqF ?zqN ?zqhb ?zqhx ?zqha ?_; (case zqB => assumption); (case zqX => assumption); (case zqT => assumption); (case zqF => assumption); (case zqN => assumption); (case zqhb => assumption); (case zqhx => exact wordW_len _); (case zqha => exact wordW_ascii _))); intro _ _ _ _ _; (try k_sweep)) | walk1 | (dsimp only; walk1))
  (first | ((with_reducible show wpAny _ _ (binaryOp Operator.Add (Value.str _ _) (Value.str _ _)) _ _ _); (k_dflt (refine' add_here ?zqa ?zqb ?_; (case zqa => (first | (simp only [Str.length_append]; omega) | omega)); (case zqb => (first | (simp only [Str.length_append]; omega) | omega)))); intro _ _) | ((with_reducible show wpAny _ _ (call (Value.ref 91) _) _ _ _); (k_dflt (refine' written_here ?zqB ?zqX ?zqT ?zqF ?zqN ?zqhb ?zqhx ?zqha ?_; (case zqB => assumption); (case zqX => assumption); (case zqT => assumption); (case zqF => assumption); (case zqN => assumption); (case zqhb => assumption); (case zqhx => exact wordW_len _); (case zqha => exact wordW_ascii _))); intro _ _ _ _ _; (try k_sweep)) | walk1)
  dsimp only
  refine wpAny_execs_nil ?_
  rename Fr _ _ _ _ => F9
  rename News _ _ _ _ => N9
  rw [List.push_toArray, List.push_toArray] at N9
  refine' k _ _ _ ?tx t2 t3 F9 (agree_mono (O.agree F9 N9 (by intro p hp; k_ownIn) [va, wa] (by walk_at "Same9")) (by simp)) (hk0.trans (keep_ov hov (by walk_at "Keep9"))) ?e ?n
  case e => exact congrArg (fun z => some (Value.str z _)) (Str.append_assoc txt (wr (wordW x) (x / 48 % 2)) (one (sepCp (x / 96 % 2))))
  case n =>
    intro q hq
    refine N9 q ?_
    rcases List.mem_cons.mp hq with rfl | hq
    · k_mem
    · rw [List.mem_singleton.mp hq]; k_mem
end Mine
end

section
open PySem PySem.W PyProof.Rows
namespace Mine
theorem anew36 : True ∧ True := by
  walk1
  w_top off
  all_goals exact True.intro
end Mine
end

section
open PySem PySem.W PySem.Calls PyProof.Rows
set_option maxRecDepth 100000
set_option maxHeartbeats 1000000
namespace Mine

noncomputable def textOf (xs : List Int) : Str := xs.foldl (fun a x => a ++ chunkW x) (Str.ofString "")
theorem textOf_snoc (xs : List Int) (x : Int) : textOf (xs ++ [x]) = textOf xs ++ chunkW x := by simp [textOf]
theorem textOf_take {xs : List Int} {i : Nat} {x : Int} (h : xs[i]? = some x) : textOf (xs.take (i + 1)) = textOf (xs.take i) ++ chunkW x := by
  rw [List.take_add_one, h]; exact textOf_snoc _ _
theorem foldl_len (f : Int → Str) (hf : ∀ x, (f x).length ≤ 7) : ∀ (xs : List Int) (a : Str), (xs.foldl (fun a x => a ++ f x) a).length ≤ a.length + 7 * xs.length
  | [], a => by simp
  | x :: xs, a => by
    have h1 := foldl_len f hf xs (a ++ f x)
    have h2 := hf x
    rw [Str.length_append] at h1
    simp only [List.foldl_cons, List.length_cons]
    omega
theorem textOf_len (xs : List Int) : (textOf xs).length ≤ 7 * xs.length := by
  have := foldl_len chunkW chunkW_len xs (Str.ofString "")
  rw [show (Str.ofString "").length = 0 from by decide +kernel] at this
  unfold textOf; omega
theorem map_take_snoc {α β : Type} {xs : List α} {i : Nat} {x : α} (f : α → β) (h : xs[i]? = some x) : (xs.take (i + 1)).map f = (xs.take i).map f ++ [f x] := by
  rw [List.take_add_one, h]; simp
theorem ints_at {vs : List Value} {ns : List Int} (h : IntsAre vs ns) {i : Nat} {v : Value} (e : vs[i]? = some v) : ∃ n t, v = .int n t ∧ ns[i]? = some n := by
  have hi : i < ns.length := by
    obtain ⟨h1, _⟩ := List.getElem?_eq_some_iff.mp e
    have hl := h.length
    omega
  obtain ⟨t, ht⟩ := h.get i ns[i] (List.getElem?_eq_getElem hi)
  rw [e] at ht
  exact ⟨_, t, Option.some.inj ht, List.getElem?_eq_getElem hi⟩

theorem ph5 {w : World} {g : Heap} {L fa sl wa va : Addr} {cd : Value} {s : Shared} {m : Str → Option Value} {Q : Flow → Shared → Prop} {oV oW oL : Obj} {vs : List Value} {ns : List Int} {tl tx : Tok}
    (bas : Bas w g) (F : Fr g L s.heap m) (hm : m (Str.ofString "script") = some (.ref sl)) (hmt : m (Str.ofString "text") = some (.str (Str.ofString "") tx)) (hl : g.IsList sl vs.toArray) (hi : IntsAre vs ns) (hlen : ns.length ≤ 63)
    (N : News g L s.heap [(va, listOf #[] 0), (wa, listOf #[] 0), (L+1+1+1, oV), (L+1+1, oW), (L+1, oL)])
    (dV : oV.data = .cell (some (.ref va))) (dW : oW.data = .cell (some (.ref wa))) (dL : oL.data = .cell (some (.str (Str.ofString "a\"\\\n") tl))) (o1 : @LT.lt Nat _ (L+1+1+1) wa) (o2 : @LT.lt Nat _ wa va)
    (k : ∀ h' tk m' tx' vl wl nv nw, Fr g L h' m' → Agree [L, va, wa] s.heap h' → Keep [Str.ofString "x", Str.ofString "place", Str.ofString "figure", Str.ofString "word", Str.ofString "value", Str.ofString "text"] m m' →
      m' (Str.ofString "text") = some (.str (textOf ([29, 96, 59, 154] ++ ns.take 4)) tx') → News g L h' [(va, listOf (List.toArray vl) nv), (wa, listOf (List.toArray wl) nw)] →
      IntsAre vl (([29, 96, 59, 154] ++ ns.take 4).map valW) → StrsAre wl (([29, 96, 59, 154] ++ ns.take 4).map wordW) → Q .next { s with heap := h', toks := tk }) :
    wpAny (model PP w) (LA.deeper (lawEnv L fa cd)) (exec (lawStm 5) (lawEnv L fa cd)) Q (fun _ _ => False) s := by
  have bas2 := bas
  obtain ⟨h85, h36, h29, X, base, p, loose, mean, mg, mb, B, T⟩ := bas
  obtain ⟨own, O, N2, off⟩ := old_of F N
  simp only [List.cons_append, List.nil_append] at N2
  simp only [List.map_cons, List.map_nil] at off
  have F2 := fr_ov [(Str.ofString "script", _), (Str.ofString "text", _)] F (AtM.all ⟨hm, hmt, trivial⟩)
  have hov := ov_eq (m := m) (l := [(Str.ofString "script", .ref sl), (Str.ofString "text", .str (Str.ofString "") tx)]) (AtM.all ⟨hm, hmt, trivial⟩)
  dsimp only [ov] at F2
  clear F N
  conv in lawStm 5 => whnf
  repeat' (first | (k_unfold; (try dsimp only)) | ((with_reducible show wpAny _ _ (pyIter (Value.ref _)) _ _ _); (k_dflt (refine' pyIter_listK ?zqF ?zqN ?zql ?_; (case zqF => k_asm); (case zqN => k_asm); (case zql => is_list))); walk_at "In9") | ((with_reducible show wpAny _ _ (exec (Stmt.For _ (Expr.BinOp _ _ _ _) _ _ _) _) _ _ _); (k_dflt (refine wpAny_For ?_))) | (k_end; wrow_close) | walk1 | (dsimp only; walk1) | (leave1; walk_say "STEP leave1"; try dsimp only) | fail "no step")
  rename_i D9 src h8 hI l8 it9 h9' F9 N9 l9
  obtain ⟨xs, hxs⟩ : ∃ xs, xs = ([29, 96, 59, 154] ++ ns.take 4) := ⟨_, rfl⟩
  rw [← hxs] at hI k
  have hxl : xs.length ≤ 8 := by rw [hxs]; simp; omega
  have hF9 : (fun y => if y = Str.ofString "script" then some (Value.ref sl) else if y = Str.ofString "text" then some (Value.str (Str.ofString "") tx) else m y) = m := hov
  rw [hF9] at F9
  have h9 := N9 (it9, _) (.head _)
  have hf : Fresh g L s.heap it9 := O.fresh l9.2.2.2
  have hn := hf.none h9.2.1 h9.2.2
  have a9 := O.agree F9 N9 (by intro p hp; k_ownIn) [] (by walk_at "Same9")
  have hsl := hI.length
  have Nsrc := N9 (D9, listOf src.toArray 0) (.tail _ (.head _))
  have hdv : ∀ p ∈ [(D9, listOf src.toArray 0)], p.1 ∉ [L, va, wa] := by
    intro q hq
    rw [List.mem_singleton.mp hq]
    simp only [List.mem_cons, List.not_mem_nil, or_false, not_or]
    exact ⟨Nsrc.2.1, neN (by omega), neN (by omega)⟩
  refine for_list0 (vs := src) (fun i h m1 => Agree [it9, L, va, wa] s.heap h ∧ Keep [Str.ofString "x", Str.ofString "place", Str.ofString "figure", Str.ofString "word", Str.ofString "value", Str.ofString "text"] m m1 ∧
      (∃ tx, m1 (Str.ofString "text") = some (.str (textOf (xs.take i)) tx)) ∧ News g L h [(D9, listOf src.toArray 0)] ∧
      ∃ vl wl nv nw, News g L h [(va, listOf (List.toArray vl) nv), (wa, listOf (List.toArray wl) nw)] ∧ IntsAre vl ((xs.take i).map valW) ∧ StrsAre wl ((xs.take i).map wordW))
    rfl (fun _ _ => rfl) (.head _) N9 ?stab ?hl ?turn ?done F9 ?J0
  case stab =>
    rintro i h h' m1 ⟨ja, jk, jt, jn, vl, wl, nv, nw, jN, j1, j2⟩ ha
    refine ⟨agree_trans ja (agree_mono ha (by walk_at "Subs9")), jk, jt, after_news jn ha ?_, vl, wl, nv, nw, after_news jN ha ?_, j1, j2⟩
    · intro q hq; rw [List.mem_singleton.mp hq, List.mem_singleton]; refine neN ?_; dsimp only; omega
    · intro q hq
      simp only [List.mem_cons, List.not_mem_nil, or_false] at hq
      rw [List.mem_singleton]
      rcases hq with rfl | rfl <;> (refine neN ?_; dsimp only; omega)
  case hl => exact fun i h m1 hJ => hJ.2.2.2.1.isList (.head _)
  case J0 =>
    refine ⟨agree_mono a9 (by walk_at "Subs9"), Keep.refl, ⟨tx, by rw [hmt]; rfl⟩, fun q hq => by rw [List.mem_singleton.mp hq]; exact Nsrc, [], [], 0, 0, after_L (fun q hq => O.N q ?_) a9, .nil, .nil⟩
    simp only [List.mem_cons, List.not_mem_nil, or_false] at hq
    rcases hq with rfl | rfl <;> k_mem
  case turn =>
    rintro i v m1 h tk oi hv ⟨ja, jk, ⟨jtx, jt⟩, jn, vl, wl, nv, nw, jN, j1, j2⟩ F1 g1 g2 g3
    obtain ⟨x, t, rfl, hx⟩ := ints_at hI hv
    have N1 : News g L h [(va, listOf vl.toArray nv), (wa, listOf wl.toArray nw), (L+1+1+1, oV), (L+1+1, oW), (L+1, oL)] := by
      refine news_app (a := [(va, listOf vl.toArray nv), (wa, listOf wl.toArray nw)]) jN (after_news (S := [it9, L, va, wa]) (fun q hq => O.N q (.tail _ (.tail _ hq))) ja ?_)
      intro q hq
      simp only [List.mem_cons, List.not_mem_nil, or_false] at hq
      simp only [List.mem_cons, List.not_mem_nil, or_false, not_or]
      rcases hq with rfl | rfl | rfl <;> (dsimp only; exact ⟨neN (by omega), neN (by omega), neN (by omega), neN (by omega)⟩)
    have hlt := textOf_len (xs.take i)
    have hl1 := j1.length
    have hl2 := j2.length
    simp only [List.length_map, List.length_take] at hl1 hl2 hlt
    refine w_turn bas2 F1 jt (by omega) (by omega) (by omega) N1 dV dW dL o1 o2 fun h' tk' m' tx' tw tv F' ha hk et N' => ?_
    refine TurnEnd.next F' (ha _ _ g1 ?_) rfl ⟨agree_trans ja (agree_mono ha (by walk_at "Subs9")), jk.trans hk, ⟨tx', by rw [textOf_take hx]; exact et⟩, after_news jn ha hdv, _, _, _, _, N', ?_, ?_⟩
    · simp only [List.mem_cons, List.not_mem_nil, or_false, not_or]
      exact ⟨h9.2.1, neN (by omega), neN (by omega)⟩
    · rw [map_take_snoc valW hx]; exact ints_snoc j1 _ _
    · rw [map_take_snoc wordW hx]; exact strs_snoc j2 _ _
  case done =>
    rintro m1 h tk ⟨ja, jk, ⟨jtx, jt⟩, jn, vl, wl, nv, nw, jN, j1, j2⟩ F1
    rw [List.take_of_length_le (by omega)] at jt j1 j2
    exact k _ _ _ _ _ _ _ _ F1 (agree_fresh ja hn) jk jt jN j1 j2
end Mine
end

section
open PySem PySem.W PyProof.Rows
namespace Mine
theorem anew37 : True ∧ True := by
  walk1
  w_top off
  all_goals exact True.intro
end Mine
end

section
open PySem PySem.W PySem.Calls PyProof.Rows PyProof.Rows.LCg
set_option maxRecDepth 100000
set_option maxHeartbeats 1000000
namespace Mine
section
variable {prog : Program} {w : World} {A : Around} {E : Value → Shared → Prop} {s : Shared} {h₀ : Heap} {L : Addr} {m : Str → Option Value} {env : Env}
/-- a list comprehension over a text's signs, bound to a name -/
theorem Assign_ListComp_S {elt iter : Expr} {x z : Str} {px pz : Pos} {scope : Scope} {cl : List (Str × Addr)} {pos spos : Pos} {Q : Flow → Shared → Prop} (_ : Fr h₀ L s.heap m) (hLe : env.locals = L)
    (hsw : swapsWith (.ListComp elt [⟨.Name x px, iter, [], 0⟩] scope pos) (some (.Name z pz)) spos.line env = pure true)
    (hclos : closureFor scope env = pure cl) (hcell : ∀ y ∈ scope.names, y.2 ≠ .cell) (hkind : scope.kind = .function)
    (hnames : ∀ y ∈ scope.names, y.2 = .local → scope.names.lookup y.1 = some .local) (hx : scope.names.lookup x = some .local)
    (hz : env.kindOf z = some .local) (hp : (env.scope.kind == .class || (env.scope.kind == .module && env.locals != env.globals)) = false)
    (h : wpAny (model prog w) A (eval iter env) (fun xv s₁ => ∃ y t news, xv = .str y t ∧ A.handled = none ∧ Fr h₀ L s₁.heap m ∧ News h₀ L s₁.heap news ∧ y.cps.all (· < 128) = true ∧ y.cps.size ≤ sizeLine ∧
      ∀ s₂ : Shared, (∃ h, s₂ = { s₁ with heap := h }) → CompRest prog w A h₀ L m env elt x scope cl s₂ (fun _ => True) (SignAt y) (FinA h₀ L m s₂ z Q) y.cps.size 0 [] news) E s)
    (hs : ∀ x, foldedSetIterable iter env x = pure x := by intro _; rfl) :
    wpAny (model prog w) A (exec (.Assign [.Name z pz] (.ListComp elt [⟨.Name x px, iter, [], 0⟩] scope pos) spos) env) Q E s := by
  subst hLe
  rw [exec_Assign_Name_used _ _ _ _ hsw]
  refine wpAny_bind (wpAny_standAt (wpAny_bind ?_))
  show wpAny _ A (do let _ ← comprehension (.ListComp elt [⟨.Name x px, iter, [], 0⟩] scope pos) scope env _ (newList []) false (eval iter env) (some (assign (.Name z pz) env))) _ _ s
  refine wpAny_bind (wpAny_mono (wpAny_comprehension_free (use := some (assign (.Name z pz) env)) (Q := fun _ s' => Q .next s') rfl hs hclos hkind hnames
    (wpAny_mono h (fun xv s₁ h₁ => ?_) fun _ _ e => e)) (fun _ s' hq => wpAny_pure (wpAny_pure hq)) fun _ _ e => e)
  obtain ⟨y, t, news, rfl, hh, F, N, ha, hsz, R⟩ := h₁
  refine wpAny_pyIter_ascii ha ?_
  refine block_U (Walks.strAscii hh s₁.heap.objs.size y t) hsz (fun i h st => by obtain ⟨o, e, _⟩ := st; exact ⟨o, e⟩)
    (fun i h h' o nw st e e' _ _ _ => by obtain ⟨o2, e2, r⟩ := st; rw [e] at e2; cases e2; exact ⟨o, e', r⟩) hcell hkind hx ⟨_, Heap.get?_push_size _ rfl, rfl, rfl⟩ (fun b hb => ?_)
    (F.keeps fun _ _ e => Heap.get?_push_of_some _ e) (N.grown fun _ _ e => Heap.get?_push_of_some _ e) (Nat.ne_of_lt F.ns.lt) (next_is_new F) (fun p hp => Nat.ne_of_lt (Heap.lt_size (N p hp).1)) trivial (R _ ⟨_, rfl⟩) ?_
  · rw [List.mem_singleton.mp hb]
    show s₁.heap.objs.size < (s₁.heap.push _).objs.size
    rw [Heap.size_push]; exact Nat.lt_succ_self _
  · intro D C h' tk m' ys news' F' N' o1 hn hC₀ hD₀ hCL hDL hCD offC fin
    show wpAny _ A (assign (.Name z pz) env (.ref D)) _ _ _
    refine wpAny_assign_Name (wpAny_storeName_local hz F'.ns (fun h₂ hn₂ hs₂ => ?_) hp)
    have hL₀ : h₀.get? env.locals = none := Heap.get?_none_of_le F'.above
    have F₂ : Fr h₀ env.locals h₂ (fun y => if y = z then some (.ref D) else m y) := ⟨hn₂, fun b o e => hs₂.extBut b o (fun q => by rw [q, hL₀] at e; cases e) (F'.keep b o e), F'.above⟩
    refine ⟨m', hn.sameBut hs₂ hCL, fun h'' hs'' => fin D h'' _ (F₂.change hs'' hCL hC₀) (fun p hp => ?_) o1⟩
    have q1 : h₂.get? p.1 = some p.2 := hs₂.extBut _ _ (N' p hp).2.1 (N' p hp).1
    refine ⟨hs''.extBut _ _ ?_ q1, (N' p hp).2⟩
    rcases List.mem_cons.mp hp with rfl | hp
    · exact Ne.symm hCD
    · exact offC p hp
end
end Mine
end

section
open PySem PySem.W PyProof.Rows
namespace Mine
theorem anew38 : True ∧ True := by
  walk1
  w_top off
  all_goals exact True.intro
end Mine
end

section
open PySem PySem.W PySem.Calls PyProof.Rows PyProof.Rows.LCg
set_option maxRecDepth 100000
set_option maxHeartbeats 1000000
namespace Mine

noncomputable def asgVal : Stmt → Expr
  | .Assign _ v _ => v
  | _ => .Constant .none 0 ⟨0, 0, 0, 0⟩
noncomputable def sigC : Expr := asgVal (lawStm 7)
theorem signs_of {ys : List Value} {cs : List Nat} (h : StrsAre ys (cs.map one)) : SignsAre ys.reverse cs := by
  induction cs generalizing ys with
  | nil => cases h; exact .nil
  | cons c cs ih =>
    cases h with
    | cons _ t h => rw [List.reverse_cons]; exact .snoc c t (ih h)

theorem sig_rest {w : World} {g : Heap} {L fa : Addr} {cd : Value} {m : Str → Option Value} {base : Heap} {p loose mean mg mb} {y : Str} {s₂ : Shared} {own : List (Addr × Obj)} {Fin : List Value → List (Addr × Obj) → Prop}
    (B : Below LA base [] g) (X : (hd.heap_1 w.params).In g) (T : Top p loose mean mg mb g)
    (fin : ∀ ys, StrsAre ys (y.cps.toList.map one) → Fin ys own) : ∀ k i ys, i + k = y.cps.size → StrsAre ys ((y.cps.toList.take i).map one) →
    CompRest PP w (LA.deeper (lawEnv L fa cd)) g L m (lawEnv L fa cd) (compElt sigC) (Str.ofString "sign") (compSco sigC) [] s₂ (fun _ => True) (SignAt y) Fin k i ys own := by
  intro k
  induction k with
  | zero =>
    intro i ys hi hy
    refine CompRest.zero (fin ys ?_)
    rw [List.take_of_length_le (by simp; omega)] at hy
    exact hy
  | succ k ih =>
    intro i ys hi hy
    refine CompRest.succ ?_
    intro v I oI C oC D m₂ h tk E' hP hNs hmx F N off ne
    obtain ⟨c, u, hc, rfl⟩ := hP
    conv in compElt sigC => whnf
    repeat' (first | (k_unfold; (try dsimp only)) | ((with_reducible show wpAny _ _ (binaryOp Operator.Add (Value.str _ _) (Value.str _ _)) _ _ _); (k_dflt (refine' add_here ?zqa ?zqb ?_; (case zqa => omega); (case zqb => exact Nat.le_of_ble_eq_true rfl))); intro _ _) | (k_end; wrow_close) | walk1 | (dsimp only; walk1) | (leave1; walk_say "STEP leave1"; try dsimp only) | fail "no step")
    refine CompEnd.intro F N own (fun _ hp => hp) off trivial (ih _ _ (by omega) ?_)
    rw [take_map_snoc one hc]
    exact strs_snoc hy _ _

theorem ph8 {w : World} {g : Heap} {L fa : Addr} {cd : Value} {s : Shared} {m : Str → Option Value} {Q : Flow → Shared → Prop} {tt : Str} {tx : Tok}
    (bas : Bas w g) (F : Fr g L s.heap m) (hmt : m (Str.ofString "text") = some (.str tt tx)) (hz : tt.length ≤ 900) (ha : tt.cps.all (· < 128) = true)
    (k : ∀ h' tk m' tx' sg sl n, Fr g L h' m' → Agree [L] s.heap h' → s.heap.get? sg = none → Keep [Str.ofString "text", Str.ofString "signs"] m m' →
      m' (Str.ofString "text") = some (.str (tt ++ Str.ofString "z") tx') → m' (Str.ofString "signs") = some (.ref sg) → News g L h' [(sg, listOf (List.toArray sl) n)] →
      SignsAre sl (tt ++ Str.ofString "z").cps.toList → wpAny (model PP w) (LA.deeper (lawEnv L fa cd)) (execs (lawRest 9) (lawEnv L fa cd)) Q (fun _ _ => False) { s with heap := h', toks := tk }) :
    wpAny (model PP w) (LA.deeper (lawEnv L fa cd)) (execs (lawRest 6) (lawEnv L fa cd)) Q (fun _ _ => False) s := by
  obtain ⟨h85, h36, h29, X, base, p, loose, mean, mg, mb, B, T⟩ := bas
  obtain ⟨own, O, N2, off⟩ := old_of F News.nil
  simp only [List.cons_append, List.nil_append] at N2
  simp only [List.map_cons, List.map_nil] at off
  have F2 := fr_ov [(Str.ofString "text", _)] F (AtM.all ⟨hmt, trivial⟩)
  have hov := ov_eq (m := m) (l := [(Str.ofString "text", .str tt tx)]) (AtM.all ⟨hmt, trivial⟩)
  dsimp only [ov] at F2
  clear F
  refine step 6 (by decide) ?_
  conv in lawStm 6 => whnf
  repeat' (first | (k_unfold; (try dsimp only)) | ((with_reducible show wpAny _ _ (binaryOp Operator.Add (Value.str _ _) (Value.str _ _)) _ _ _); (k_dflt (refine' add_here ?zqa ?zqb ?_; (case zqa => omega); (case zqb => exact Nat.le_of_ble_eq_true rfl))); intro _ _) | (k_end; wrow_close) | walk1 | (dsimp only; walk1) | (leave1; walk_say "STEP leave1"; try dsimp only) | fail "no step")
  dsimp only [Behind]
  refine step 7 (by decide) ?_
  conv in lawStm 7 => whnf
  rename Fr _ _ _ _ => F8
  refine Assign_ListComp_S F8 rfl (by rfl) (by rfl) (by decide) (by rfl) (by decide) (by rfl) (by rfl) (by rfl) ?_
  repeat' ((fail_if_success (with_reducible show Exists _)); first | (k_unfold; (try dsimp only)) | ((with_reducible show wpAny _ _ (binaryOp Operator.Add (Value.str _ _) (Value.str _ _)) _ _ _); (k_dflt (refine' add_here ?zqa ?zqb ?_; (case zqa => omega); (case zqb => exact Nat.le_of_ble_eq_true rfl))); intro _ _) | walk1 | (dsimp only; walk1))
  rename Fr _ _ _ _ => F9
  rename News _ _ _ _ => N9
  have hzz : (tt ++ Str.ofString "z").cps.size ≤ 901 := by
    have : (tt ++ Str.ofString "z").length = tt.length + 1 := by rw [Str.length_append]; rfl
    show (tt ++ Str.ofString "z").length ≤ 901
    omega
  have haa : (tt ++ Str.ofString "z").cps.all (· < 128) = true := by
    rw [Str.cps_append, Array.all_append, ha]; decide +kernel
  refine ⟨tt ++ Str.ofString "z", _, own, rfl, rfl, F9, N9, haa, by rw [sizeLine_eq]; omega, fun s₂ hs₂ => sig_rest B X T (fun ys hys => ?_) _ 0 [] (by omega) .nil⟩
  intro D h2 tk2 F2 N2 o2
  obtain ⟨h9, rfl⟩ := hs₂
  clear F9 N9
  have hD := N2 (D, lst ys) (.head _)
  have hnew := O.new (off1_mem o2) hD.2.1 hD.2.2
  have off2 : OwnOff own [D] := fun q hq b hb => by rw [List.mem_singleton.mp hb]; exact off1_mem o2 q hq
  have hyl : ys.length = (tt ++ Str.ofString "z").cps.size := by have := hys.length; simpa using this
  dsimp only [Behind]
  refine step 8 (by decide) ?_
  conv in lawStm 8 => whnf
  repeat' (first | (k_unfold; (try dsimp only)) | ((with_reducible show wpAny _ _ (binaryOp Operator.Add (Value.str _ _) (Value.str _ _)) _ _ _); (k_dflt (refine' add_here ?zqa ?zqb ?_; (case zqa => omega); (case zqb => exact Nat.le_of_ble_eq_true rfl))); intro _ _) | (k_end; wrow_close) | walk1 | (dsimp only; walk1) | (leave1; walk_say "STEP leave1"; try dsimp only) | fail "no step")
  refine kl_reverse (its := ys.toArray) (l := ys.reverse) (n := ys.length) F2 N2 (by simp) (Upd.head (off1_mem o2)) (by rw [sizeLine_eq]; simp; omega) fun h3 F3 N3 => ?_
  clear F2 N2
  refine k _ _ _ _ D ys.reverse ys.length F3 (O.agree F3 N3 (by intro p hp; k_ownIn) [] (by walk_at "Same9")) hnew (keep_ov hov (by walk_at "Keep9")) rfl rfl (fun q hq => N3 q ?_) (signs_of hys)
  rw [List.mem_singleton.mp hq]; exact .head _
end Mine
end

section
open PySem PySem.W PyProof.Rows
namespace Mine
theorem anew39 : True ∧ True := by
  walk1
  w_top off
  all_goals exact True.intro
end Mine
end

section
open PySem PySem.W PySem.Calls PyProof.Rows PyProof.Rows.LCg
set_option maxRecDepth 100000
set_option maxHeartbeats 1000000
namespace Mine

theorem setAttr_fnK {prog : Program} {w : World} {A : Around} {E : Value → Shared → Prop} {s : Shared} {g : Heap} {L : Addr} {m : Str → Option Value} {news : List (Addr × Obj)} {gn : Obj → List (Addr × Obj)} {f : Addr} {fd : FuncData} {sl : Array (Option Value)} {v : Value} {Q : Unit → Shared → Prop}
    (F : Fr g L s.heap m) (N : News g L s.heap news) (U : UpdF f ⟨.type "function", none, .func fd, sl⟩ news gn)
    (h : ∀ h' tk d t, Fr g L h' m → News g L h' ((d, dictOf [⟨PyData.keyHash w.params "read", .str "read" t, v⟩] 1) :: gn ⟨.type "function", some d, .func fd, sl⟩) → (∀ p ∈ news, p.1 < d) → Q () { s with heap := h', toks := tk }) :
    wpAny (model prog w) A (setAttr (.ref f) "read" v) Q E s := by
  obtain ⟨pre, post, rfl, hg, hp1, hp2⟩ := U.split
  have hm := N (f, _) (List.mem_append_right _ (.head _))
  refine setAttr_fn hm.1 fun h' tk d t ha hd h1 h2 => h h' tk d t (fr_same F ha hm.2.1 hm.2.2) ?_ fun p hp => Nat.lt_of_lt_of_le (Heap.lt_size (N p hp).1) hd
  have fresh : ∀ a o, s.heap.get? a = some o → a ≠ d := fun a o e q => Nat.lt_irrefl _ (Nat.lt_of_lt_of_le (Heap.lt_size e) (q ▸ hd))
  intro p hp
  rcases List.mem_cons.mp hp with rfl | hp
  · refine ⟨h1, ?_, ?_⟩
    · obtain ⟨oL, _, _, hL, _⟩ := F.ns
      exact fun q => fresh L oL hL q.symm
    · cases q : g.get? d with
      | none => rfl
      | some o => exact absurd rfl (fresh d o (F.keep _ _ q))
  · rw [hg] at hp
    rcases List.mem_append.mp hp with hp | hp
    · have z := N p (List.mem_append_left _ hp)
      exact ⟨ha _ _ z.1 (by simpa using hp1 p hp), z.2⟩
    · rcases List.mem_cons.mp hp with rfl | hp
      · exact ⟨h2, hm.2⟩
      · have z := N p (List.mem_append_right _ (.tail _ hp))
        exact ⟨ha _ _ z.1 (by simpa using hp2 p hp), z.2⟩


/-- what _law_stream makes -/
noncomputable def strQual : Str := Str.ofString "_law_stream" ++ Str.ofString ".<locals>." ++ Str.ofString "<lambda>"
noncomputable abbrev tab81 (c0 c : Addr) : Obj := tabObj #[rawInt ((94 : Nat) : Int), rawInt ((13 : Nat) : Int), .ref c0, rawInt ((95 : Nat) : Int), rawInt ((18 : Nat) : Int), .ref c]
noncomputable abbrev strNews (st sd rd c cs c0 sg : Addr) (h5 : Int) (t5 : Tok) (fd : FuncData) (fsl : Array (Option Value)) (pm ctv : Value) (oc ocs oc0 : Obj) (sl : List Value) (n : Nat) : List (Addr × Obj) :=
  [(sd, dictOf [⟨h5, .str "read" t5, .ref rd⟩] 1), (rd, kla_obj "<lambda>" strQual (lamPar readLam) (lamBod readLam) (lamSco readLam) [("signs", cs)] pm c ctv), (c, oc),
   (st, ⟨.type "function", some sd, .func fd, fsl⟩), (c0, oc0), (cs, ocs), (sg, listOf sl.toArray n), (81, tab81 c0 c)]

theorem stream_first {w : World} {dp un : Nat} {gd : Option (List Code)} {fr : List Env} {h₀ : Heap} {L sg : Addr} {m : Str → Option Value} {s : Shared} {R : Result → Shared → Prop} {sl : List Value} {n : Nat}
    (C : Cx w (AA dp un gd fr) h₀ L m s.heap) (hA : dp ≤ 400) (o1 : @Ne Nat 81 sg)
    (N : News h₀ L s.heap [(sg, listOf sl.toArray n), (81, tabObj #[])])
    (k : ∀ h' tk st sd rd c cs c0 h5 t5 tq tq0 fd fsl pm ctv oc ocs vs oc0 vs0, Agree [sg, 81] s.heap h' → News h₀ L h' (strNews st sd rd c cs c0 sg h5 t5 fd fsl pm ctv oc ocs oc0 sl n) →
      oc.data = .fields vs → vs[1]? = some (.str strQual tq) → oc0.data = .fields vs0 → vs0[1]? = some (.str strQual tq0) → ocs.data = .cell (some (.ref sg)) →
      @LT.lt Nat _ sg cs → @LT.lt Nat _ cs c0 → @LT.lt Nat _ c0 st → @LT.lt Nat _ st c → @LT.lt Nat _ c rd → @LT.lt Nat _ rd sd → s.heap.objs.size ≤ cs → R (.ok (.ret (.ref st))) { s with heap := h', toks := tk }) :
    codeAny (model PP w) (AA dp un gd fr) (.call (.ref 86) ⟨[.ref sg], []⟩) R s := by
  have X₀ := C.kin
  have F₀ := C.fr
  k_dflt (refine' enterC (binds := [("signs", .ref sg)]) C N ?ho ?hcd ?hroom ?hb ?hl ?hn ?_ ?h1 ?h2 ?h3; (case ho => k_is); (case hcd => k_is); (case hroom => k_room); (case hb => exact BindsTo.of_eq rfl); (case hl => exact rfl); (case hn => decide +kernel); (case h1 => exact rfl); (case h2 => exact rfl); (case h3 => exact rfl))
  k_whole
  clear X₀ F₀
  intro base outer env L' h₁ tk cells p loose mean mg mb F' N' Y' B' X' T' hlt
  have H85 := codeHd85 X'
  have eF : some fr = some (env :: outer) := B'.stack
  injection eF with eF
  subst eF
  have hab : @LE.le Nat _ s.heap.objs.size L' := Nat.le_trans (Nat.le_of_eq (hideAll_size _ _).symm) F'.above
  have l0 := hlt
  (try k_lt l0)
  k_cells Y'
  (try simp only [List.cons_append, List.nil_append] at N')
  (try dsimp only); (try k_fold)
  repeat' (first | (k_unfold; (try dsimp only)) | ((with_reducible show wpAny _ _ (setAttr (Value.ref _) (Str.ofString "read") _) _ _ _); (k_dflt (refine' setAttr_fnK ?zqF ?zqN ?zqU ?_; (case zqF => k_asm); (case zqN => k_asm); (case zqU => k_updF))); intro _ _ _ _ _ zN' zl1; (try dsimp only at zN'); (try k_lt zl1); (try k_sweep)) | (k_end; wrow_close) | walk1 | (dsimp only; walk1) | (leave1; walk_say "STEP leave1"; try dsimp only) | fail "no step")
  (try dsimp only)
  rename News _ _ _ _ => N9
  rename Fr _ _ _ _ => F9
  rename_i ocs dcs f1 c1 oc1 vs1 tq1 ct1 h7 tk7 d1 d2 l3 l4 h8 f2 c2 oc2 vs2 tq2 ct2 h9 tk9 e1 e2 l5 l6 h10 tk10 sd tsd
  refine ⟨_, _, _, F9, N9, fun hag hN => ?_⟩
  exact k h10 _ f1 sd f2 c2 (L' + 1) c1 _ tsd tq2 tq1 _ _ _ _ oc2 ocs vs2 oc1 vs1 hag hN e1 e2 d1 d2 dcs (ltN (by omega)) (ltN (by omega)) (ltN (by omega)) (ltN (by omega)) (ltN (by omega)) (ltN (by omega)) (Nat.le_succ_of_le hab)
theorem stream_hit {w : World} {dp un : Nat} {gd : Option (List Code)} {fr : List Env} {h₀ : Heap} {L sg c0 c : Addr} {m : Str → Option Value} {s : Shared} {R : Result → Shared → Prop} {sl : List Value} {n : Nat} {oc oc0 : Obj} {vs vs0 : Array Value} {tq tq0 : Tok}
    (C : Cx w (AA dp un gd fr) h₀ L m s.heap) (hA : dp ≤ 400) (o1 : @LT.lt Nat _ 81 c0) (o2 : @LT.lt Nat _ c0 c) (o3 : @LT.lt Nat _ c sg)
    (N : News h₀ L s.heap [(sg, listOf sl.toArray n), (c, oc), (c0, oc0), (81, tab81 c0 c)]) (d1 : oc.data = .fields vs) (d2 : vs[1]? = some (.str strQual tq)) (e1 : oc0.data = .fields vs0) (e2 : vs0[1]? = some (.str strQual tq0))
    (k : ∀ h' tk st, Agree [sg, c, c0, 81] s.heap h' → News h₀ L h' [(sg, listOf sl.toArray n), (c, oc), (c0, oc0), (81, tab81 c0 c)] → s.heap.objs.size ≤ st → R (.ok (.ret (.ref st))) { s with heap := h', toks := tk }) :
    codeAny (model PP w) (AA dp un gd fr) (.call (.ref 86) ⟨[.ref sg], []⟩) R s := by
  have X₀ := C.kin
  have F₀ := C.fr
  k_dflt (refine' enterC (binds := [("signs", .ref sg)]) C N ?ho ?hcd ?hroom ?hb ?hl ?hn ?_ ?h1 ?h2 ?h3; (case ho => k_is); (case hcd => k_is); (case hroom => k_room); (case hb => exact BindsTo.of_eq rfl); (case hl => exact rfl); (case hn => decide +kernel); (case h1 => exact rfl); (case h2 => exact rfl); (case h3 => exact rfl))
  k_whole
  clear X₀ F₀
  intro base outer env L' h₁ tk cells p loose mean mg mb F' N' Y' B' X' T' hlt
  have H85 := codeHd85 X'
  have eF : some fr = some (env :: outer) := B'.stack
  injection eF with eF
  subst eF
  have hab : @LE.le Nat _ s.heap.objs.size L' := Nat.le_trans (Nat.le_of_eq (hideAll_size _ _).symm) F'.above
  have l0 := hlt
  (try k_lt l0)
  k_cells Y'
  (try simp only [List.cons_append, List.nil_append] at N')
  (try dsimp only); (try k_fold)
  repeat' (first | (k_unfold; (try dsimp only)) | ((with_reducible show wpAny _ _ (setAttr (Value.ref _) (Str.ofString "read") _) _ _ _); (k_dflt (refine' setAttr_fnK ?zqF ?zqN ?zqU ?_; (case zqF => k_asm); (case zqN => k_asm); (case zqU => k_updF))); intro _ _ _ _ _ zN' zl1; (try dsimp only at zN'); (try k_lt zl1); (try k_sweep)) | (k_end; wrow_close) | walk1 | (dsimp only; walk1) | (leave1; walk_say "STEP leave1"; try dsimp only) | fail "no step")
  (try dsimp only)
  rename News _ _ _ _ => N9
  rename Fr _ _ _ _ => F9
  rename_i ocs dcs f1 ct1 h7 tk7 l3 h8 f2 ct2 h9 tk9 l5 h10 tk10 sd tsd
  refine ⟨_, _, [(sg, listOf sl.toArray n), (c, oc), (c0, oc0), (81, tab81 c0 c)], F9, fun q hq => N9 q (.tail _ (.tail _ (.tail _ (.tail _ hq)))), fun hag hN => ?_⟩
  exact k _ _ f1 hag hN (Nat.le_trans hab (by omega))

/-- law's reader, as it begins -/
theorem ph9_end {g h0 h : Heap} {L x dx pb sd rd c st c0 cs sg lc : Addr} {h1 h2 h3 h4 h5 : Int} {t1 t2 t3 t4 t5 u1 u3 tq tq0 : Tok} {fd : FuncData} {fsl : Array (Option Value)} {pm ctv : Value} {oc ocs oc0 oR : Obj} {vs vs0 : Array Value} {sl : List Value} {n : Nat} {own : List (Addr × Obj)} {P : Prop}
    (N : News g L h ((pb, listOf #[] 0) :: (x, instObj 75 dx) ::
      (dx, dictOf [⟨h1, .str "lineno" t1, .int 1 u1⟩, ⟨h2, .str "instream" t2, .ref st⟩, ⟨h3, .str "whitespace" t3, .str "\n\t\r " u3⟩, ⟨h4, .str "pushback" t4, .ref pb⟩] 4) ::
      (sd, dictOf [⟨h5, .str "read" t5, .ref rd⟩] 1) :: (rd, kla_obj "<lambda>" strQual (lamPar readLam) (lamBod readLam) (lamSco readLam) [("signs", cs)] pm c ctv) :: (c, oc) ::
      (st, ⟨.type "function", some sd, .func fd, fsl⟩) :: (c0, oc0) :: (cs, ocs) :: (sg, listOf sl.toArray n) :: (81, tab81 c0 c) :: (lc, oR) :: own))
    (d1 : oc.data = .fields vs) (d2 : vs[1]? = some (.str strQual tq)) (e1 : oc0.data = .fields vs0) (e2 : vs0[1]? = some (.str strQual tq0)) (dcs : ocs.data = .cell (some (.ref sg)))
    (q1 : @LT.lt Nat _ sg cs) (q2 : @LT.lt Nat _ cs c0) (q3 : @LT.lt Nat _ c0 st) (q4 : @LT.lt Nat _ st c) (q5 : @LT.lt Nat _ c rd) (q6 : @LT.lt Nat _ rd sd) (q7 : @LT.lt Nat _ sd dx) (q8 : @LT.lt Nat _ dx x) (q9 : @LT.lt Nat _ x pb) (hsz : h0.objs.size ≤ cs)
    (k : ∀ (r : Rd) u1 c0 oc0 vs0 tq0, r.Ok → r.sg = sg → r.qn = strQual → r.x = x → News g L h (lexNews r 1 u1 sl n [] 0) → News g L h [(c0, oc0), (81, tab81 c0 r.c), (lc, oR)] → oc0.data = .fields vs0 → vs0[1]? = some (.str strQual tq0) →
      @LT.lt Nat _ c0 r.st → Fresh g L h0 r.cs → Fresh g L h0 c0 → P) : P := by
  refine k ⟨x, dx, st, sd, rd, c, cs, sg, pb, h1, h2, h3, h4, h5, t1, t2, t3, t4, t5, u3, tq, fd, fsl, pm, ctv, strQual, oc, ocs, vs⟩ u1 c0 oc0 vs0 tq0 ⟨q1, ?_, q4, q5, q6, q7, q8, q9, d1, d2, dcs⟩ rfl rfl rfl ?_ ?_ e1 e2 q3 (Fresh.of_size hsz) (Fresh.of_size (Nat.le_trans hsz (Nat.le_of_lt q2)))
  · exact Nat.lt_trans q2 q3
  · intro q hq
    refine N q ?_
    simp only [lexNews, List.mem_cons, List.not_mem_nil, or_false] at hq
    rcases hq with rfl | rfl | rfl | rfl | rfl | rfl | rfl | rfl | rfl <;> k_mem
  · intro q hq
    refine N q ?_
    simp only [List.mem_cons, List.not_mem_nil, or_false] at hq
    rcases hq with rfl | rfl | rfl <;> k_mem

theorem ph9 {w : World} {g : Heap} {L fa sg : Addr} {cd : Value} {s : Shared} {m : Str → Option Value} {Q : Flow → Shared → Prop} {oR : Obj} {sl : List Value} {n : Nat}
    (bas : Bas w g) (hL : @LT.lt Nat _ 81 L) (F : Fr g L s.heap m) (hms : m (Str.ofString "signs") = some (.ref sg)) (N : News g L s.heap [(sg, listOf sl.toArray n), (81, tabObj #[]), (L+1+1+1+1, oR)]) (dR : oR.data = .cell none)
    (o1 : @Ne Nat sg (L+1+1+1+1)) (o0 : @Ne Nat sg 81)
    (k : ∀ h' tk (r : Rd) u1 c0 oc0 vs0 tq0 oR', Fr g L h' m → Agree [L, 81, L+1+1+1+1] s.heap h' → r.Ok → r.sg = sg → r.qn = strQual → News g L h' (lexNews r 1 u1 sl n [] 0) → News g L h' [(c0, oc0), (81, tab81 c0 r.c), (L+1+1+1+1, oR')] → oR'.data = .cell (some (.ref r.x)) →
      oc0.data = .fields vs0 → vs0[1]? = some (.str strQual tq0) → @LT.lt Nat _ c0 r.st → Fresh g L s.heap r.cs → Fresh g L s.heap c0 → Q .next { s with heap := h', toks := tk }) :
    wpAny (model PP w) (LA.deeper (lawEnv L fa cd)) (exec (lawStm 9) (lawEnv L fa cd)) Q (fun _ _ => False) s := by
  obtain ⟨h85, h36, h29, X, base, p, loose, mean, mg, mb, B, T⟩ := bas
  obtain ⟨own, O, N2, off⟩ := old_of F N
  simp only [List.cons_append, List.nil_append] at N2
  simp only [List.map_cons, List.map_nil] at off
  have F2 := fr_ov [(Str.ofString "signs", _)] F (AtM.all ⟨hms, trivial⟩)
  have hov := ov_eq (m := m) (l := [(Str.ofString "signs", .ref sg)]) (AtM.all ⟨hms, trivial⟩)
  dsimp only [ov] at F2
  clear F N
  conv in lawStm 9 => whnf
  repeat' ((fail_if_success (with_reducible show wpAny _ _ (call (Value.ref 86) _) _ _ _)); first | (k_unfold; (try dsimp only)) | ((with_reducible show wpAny _ _ (setAttr (Value.ref _) (Str.ofString "read") _) _ _ _); (k_dflt (refine' setAttr_fnK ?zqF ?zqN ?zqU ?_; (case zqF => k_asm); (case zqN => k_asm); (case zqU => k_updF))); intro _ _ _ _ _ zN' zl1; (try dsimp only at zN'); (try k_lt zl1); (try k_sweep)) | walk1 | (dsimp only; walk1))
  rename Fr _ _ _ _ => F8
  rename News _ _ _ _ => N8
  refine wpAny_call (stream_first (sl := sl) (n := n) (cx_of (env := lawEnv L fa cd) B F8 X T rfl rfl) (by decide) (neN (by omega)) (fun q hq => N8 q ?_) ?_)
  · simp only [List.mem_cons, List.not_mem_nil, or_false] at hq
    rcases hq with rfl | rfl <;> k_mem
  intro h' tk st sd rd c cs c0 h5 t5 tq tq0 fd fsl pm ctv oc ocs vs oc0 vs0 ha hN d1 d2 e1 e2 dcs q1 q2 q3 q4 q5 q6 hsz
  have hown : News g L h' ((L+1+1+1+1, oR) :: own) := after_news (S := [sg, 81]) (fun q hq => N8 q (.tail _ (.tail _ hq))) ha (by
    intro q hq
    simp only [List.mem_cons, List.not_mem_nil, or_false, not_or]
    rcases List.mem_cons.mp hq with rfl | hq
    · exact ⟨neN (by omega), neN (by omega)⟩
    · exact ⟨off q hq sg (by k_mem), off q hq 81 (by k_mem)⟩)
  have F7 := after_fr F8 (news := [(sg, listOf sl.toArray n), (81, tabObj #[])]) (fun q hq => N8 q (by
    simp only [List.mem_cons, List.not_mem_nil, or_false] at hq
    rcases hq with rfl | rfl <;> k_mem)) ha
  have off7 : OwnOff own [sd, rd, c, st, c0, cs, sg, 81, L+1+1+1+1] := by
    intro q hq b hb
    have h1 : q.1 < s.heap.objs.size := Heap.lt_size (N8 q (.tail _ (.tail _ (.tail _ hq)))).1
    simp only [List.mem_cons, List.not_mem_nil, or_false] at hb
    rcases hb with rfl | rfl | rfl | rfl | rfl | rfl | rfl | rfl | rfl
    · exact Nat.ne_of_lt (Nat.lt_of_lt_of_le h1 (Nat.le_trans hsz (by omega)))
    · exact Nat.ne_of_lt (Nat.lt_of_lt_of_le h1 (Nat.le_trans hsz (by omega)))
    · exact Nat.ne_of_lt (Nat.lt_of_lt_of_le h1 (Nat.le_trans hsz (by omega)))
    · exact Nat.ne_of_lt (Nat.lt_of_lt_of_le h1 (Nat.le_trans hsz (by omega)))
    · exact Nat.ne_of_lt (Nat.lt_of_lt_of_le h1 (Nat.le_trans hsz (by omega)))
    · exact Nat.ne_of_lt (Nat.lt_of_lt_of_le h1 hsz)
    · exact off q hq _ (by k_mem)
    · exact off q hq _ (by k_mem)
    · exact off q hq _ (by k_mem)
  have hlc : @LT.lt Nat _ (L+1+1+1+1) cs := Nat.lt_of_lt_of_le (Heap.lt_size (N8 (L+1+1+1+1, oR) (by k_mem)).1) hsz
  have N7 := news_app hN hown
  dsimp only [strNews, List.cons_append, List.nil_append] at N7
  clear F8 N8 hN hown
  dsimp only
  repeat' (first | (k_unfold; (try dsimp only)) | ((with_reducible show wpAny _ _ (setAttr (Value.ref _) (Str.ofString "read") _) _ _ _); (k_dflt (refine' setAttr_fnK ?zqF ?zqN ?zqU ?_; (case zqF => k_asm); (case zqN => k_asm); (case zqU => k_updF))); intro _ _ _ _ _ zN' zl1; (try dsimp only at zN'); (try k_lt zl1); (try k_sweep)) | (k_end; wrow_close) | walk1 | (dsimp only; walk1) | (leave1; walk_say "STEP leave1"; try dsimp only) | fail "no step")
  rename News _ _ _ _ => N9
  rename Fr _ _ _ _ => F9
  rename _ = Data.cell _ => dR'
  have a9 := O.agree F9 N9 (by intro p hp; k_ownIn) [81, L+1+1+1+1] (by walk_at "Same9")
  rw [show (fun y => if y = Str.ofString "signs" then some (Value.ref sg) else m y) = m from hov] at F9
  refine ph9_end N9 d1 d2 e1 e2 dcs q1 q2 q3 q4 q5 q6 (ltN (by omega)) (ltN (by omega)) (ltN (by omega)) hsz fun r u1 c0 oc0 vs0 tq0 rok r1 r2 r3 n1 n2 z1 z2 z3 z4 z5 => ?_
  subst r3
  exact k _ _ r u1 c0 oc0 vs0 tq0 _ F9 a9 rok r1 r2 n1 n2 dR' z1 z2 z3 z4 z5
end Mine
end

section
open PySem PySem.W PyProof.Rows
namespace Mine
theorem anew40 : True ∧ True := by
  walk1
  w_top off
  all_goals exact True.intro
end Mine
end

section
open PySem PySem.W PySem.Calls PyProof.Rows PyProof.Rows.LCg
set_option maxRecDepth 100000
set_option maxHeartbeats 1000000
namespace Mine

/-- the words of a text, one behind another -/
inductive Runs : List Nat → List Str → List Nat → Prop
  | nil (r : List Nat) : Runs r [] r
  | cons {r r' r'' : List Nat} {t : Str} {ts : List Str} : TRun r t r' → Runs r' ts r'' → Runs r (t :: ts) r''
theorem TRun.shorter {r r' : List Nat} {t : Str} (h : TRun r t r') : r'.length ≤ r.length := by
  have q : ∀ {r t0 t r'}, QRun r t0 t r' → r'.length ≤ r.length := by
    intro r t0 t r' h
    induction h with
    | fin r t => simp
    | esc d _ ih => simp at *; omega
    | chr c _ _ _ ih => simp at *; omega
  have b : ∀ {r t0 t r'}, BRun r t0 t r' → r'.length ≤ r.length := by
    intro r t0 t r' h
    induction h with
    | fin c r t _ => simp
    | esc d _ ih => simp at *; omega
    | chr c _ _ _ ih => simp at *; omega
  induction h with
  | skip c _ _ ih => simp at *; omega
  | quote h => have := q h; simp at *; omega
  | esc d h => have := b h; simp at *; omega
  | chr c _ _ _ h => have := b h; simp at *; omega

noncomputable def toldC : Expr := asgVal (lawStm 10)
noncomputable abbrev lexRel (r : Rd) (ln : Int) (u1 : Tok) (sl : List Value) (n : Nat) (pl : List Value) (pn : Nat) (more : List (Addr × Obj)) : List (Addr × Obj) := lexNews r ln u1 sl n pl pn ++ more

theorem told_rest {w : World} {g : Heap} {L fa wa : Addr} {cd : Value} {m : Str → Option Value} {base : Heap} {p loose mean mg mb} {s₂ : Shared} {own : List (Addr × Obj)} {Fin : List Value → List (Addr × Obj) → Prop} {r : Rd} {oR : Obj} {wl : List Value} {nw : Nat} {ws : List Str} {T0 : Int} {fin : List Nat}
    (B : Below LA base [] g) (X : (hd.heap_1 w.params).In g) (T : Top p loose mean mg mb g) (ok : r.Ok) (dR : oR.data = .cell (some (.ref r.x)))
    (off : OwnOff own ((lexRel r 1 0 [] 0 [] 0 [(wa, listOf wl.toArray nw), (L+1+1+1+1, oR)]).map (·.1))) (hoff : wa ∉ r.adr ∧ (L+1+1+1+1) ∉ r.adr) :
    ∀ (ts : List Str) (rest : List Nat) i ys ln u1 sl n, Runs rest ts fin → rest.length < 900 → i + ts.length = ws.length → ws.drop i = ts → StrsAre ys (ws.take i) → SignsAre sl rest → ln + nl rest = T0 →
    (∀ ys ln u1 sl n, StrsAre ys ws → SignsAre sl fin → ln + nl fin = T0 → Fin ys (lexRel r ln u1 sl n [] 0 [(wa, listOf wl.toArray nw), (L+1+1+1+1, oR)] ++ own)) →
    CompRest PP w (LA.deeper (lawEnv L fa cd)) g L m (lawEnv L fa cd) (compElt toldC) (Str.ofString "word") (compSco toldC) [(Str.ofString "reader", L+1+1+1+1)] s₂ (SrcAt g wa wl.toArray) (fun i v => wl.toArray[i]? = some v) Fin ts.length i ys
      (lexRel r ln u1 sl n [] 0 [(wa, listOf wl.toArray nw), (L+1+1+1+1, oR)] ++ own) := by
  intro ts
  induction ts with
  | nil =>
    intro rest i ys ln u1 sl n hr hlen hi hd hy hs hn hfin
    cases hr
    refine CompRest.zero (hfin _ _ _ _ _ ?_ hs hn)
    rw [List.take_of_length_le (by simp at hi; omega)] at hy
    exact hy
  | cons t ts ih =>
    intro rest i ys ln u1 sl n hr hlen hi hd hy hs hn hfin
    cases hr with
    | cons ht hr =>
    refine CompRest.succ ?_
    intro v I oI C oC D m₂ h tk E' hP hNs hmx F N off3 ne
    have o := ok
    obtain ⟨o1, o2, o3, o4, o5, o6, o7, o8, d1, d2, d3⟩ := o
    conv in compElt toldC => whnf
    dsimp only [lexRel, lexNews, List.cons_append, List.nil_append] at N
    repeat' ((fail_if_success (with_reducible show wpAny _ _ (call (Value.ref 65) _) _ _ _)); first | (k_unfold; (try dsimp only)) | walk1 | (dsimp only; walk1))
    dsimp only [List.append_nil]
    have NL : News g L h (lexNews r ln u1 sl n [] 0) := news_sub N (by walk_at "Sub9")
    have NO : ∀ q ∈ (I, oI) :: (C, oC) :: (D, lst ys) :: (wa, listOf wl.toArray nw) :: (L+1+1+1+1, oR) :: own, (h.get? q.1 = some q.2 ∧ q.1 ≠ L ∧ g.get? q.1 = none) ∧ q.1 ∉ r.adr := by
      have f3 := off3.mem
      have fl : ∀ a ∈ r.adr, a ≠ I ∧ a ≠ C ∧ a ≠ D := by
        intro a ha
        have : ∃ o, (a, o) ∈ lexNews r ln u1 sl n [] 0 := by
          obtain ⟨p9, hp9, e9⟩ := List.mem_map.mp (show a ∈ (lexNews r ln u1 sl n [] 0).map (·.1) from ha)
          exact ⟨p9.2, by rw [← e9]; exact hp9⟩
        obtain ⟨o, ho⟩ := this
        exact f3 _ (List.mem_append_left _ (List.mem_append_left _ ho))
      intro q hq
      rcases List.mem_cons.mp hq with rfl | hq
      · exact ⟨N _ (by k_mem), fun z => (fl _ z).1 rfl⟩
      rcases List.mem_cons.mp hq with rfl | hq
      · exact ⟨N _ (by k_mem), fun z => (fl _ z).2.1 rfl⟩
      rcases List.mem_cons.mp hq with rfl | hq
      · exact ⟨N _ (by k_mem), fun z => (fl _ z).2.2 rfl⟩
      rcases List.mem_cons.mp hq with rfl | hq
      · exact ⟨N _ (by k_mem), hoff.1⟩
      rcases List.mem_cons.mp hq with rfl | hq
      · exact ⟨N _ (by k_mem), hoff.2⟩
      refine ⟨N q (by repeat (first | assumption | refine List.Mem.tail _ ?_)), fun z => off q hq q.1 ?_ rfl⟩
      exact List.mem_append_left _ z
    refine wpAny_call (gt_read ht (cx_of (env := lawEnv L fa cd) B F X T rfl rfl) (by decide) (by omega) hs ok NL fun h' tk' u1' sl' n' ln' t' hag hN hs' hln => ?_)
    dsimp only
    k_unfold
    try dsimp only
    have hsh := ht.shorter
    have hg : ws[i]? = some t := by
      have : (ws.drop i)[0]? = some t := by rw [hd]; rfl
      simpa using this
    refine CompEnd.intro (all := (I, oI) :: (C, oC) :: (D, lst ys) :: (lexRel r ln' u1' sl' n' [] 0 [(wa, listOf wl.toArray nw), (L+1+1+1+1, oR)] ++ own)) (after_fr F NL hag) ?_ (lexRel r ln' u1' sl' n' [] 0 [(wa, listOf wl.toArray nw), (L+1+1+1+1, oR)] ++ own) (fun _ hp => hp) off3 (.inr ⟨listOf wl.toArray nw, ?_, rfl, nw, rfl⟩)
      (ih _ _ _ _ _ _ _ hr (by omega) (by simp at hi; omega) (by rw [← List.drop_drop, hd]; rfl) ?_ hs' (hln.trans hn) hfin)
    · have on : ∀ q, q ∈ (I, oI) :: (C, oC) :: (D, lst ys) :: (wa, listOf wl.toArray nw) :: (L+1+1+1+1, oR) :: own → h'.get? q.1 = some q.2 ∧ q.1 ≠ L ∧ g.get? q.1 = none := fun q hq => ⟨hag _ _ (NO q hq).1.1 (NO q hq).2, (NO q hq).1.2⟩
      intro q hq
      rcases List.mem_cons.mp hq with rfl | hq
      · exact on _ (by k_mem)
      rcases List.mem_cons.mp hq with rfl | hq
      · exact on _ (by k_mem)
      rcases List.mem_cons.mp hq with rfl | hq
      · exact on _ (by k_mem)
      rcases List.mem_append.mp hq with hq | hq
      · rcases List.mem_append.mp hq with hq | hq
        · exact hN q hq
        · rcases List.mem_cons.mp hq with rfl | hq
          · exact on _ (by k_mem)
          rw [List.mem_singleton.mp hq]
          exact on _ (by k_mem)
      · exact on q (.tail _ (.tail _ (.tail _ (.tail _ (.tail _ hq)))))
    · exact List.mem_append_left _ (List.mem_append_right _ (.head _))
    · rw [List.take_add_one, hg]
      exact strs_snoc hy _ _

theorem adr_ne {g h : Heap} {L : Addr} {r : Rd} {ln : Int} {u1 : Tok} {sl pl : List Value} {n pn : Nat} {q : Addr × Obj} (ok : r.Ok) (N : News g L h (lexNews r ln u1 sl n pl pn)) (hs : q.1 ≠ r.sg) (hf : @LT.lt Nat _ q.1 r.cs) : q.1 ∉ r.adr := by
  have _ := N
  exact adr_ne2 ok hs hf

theorem ph10 {w : World} {g : Heap} {L fa wa : Addr} {cd : Value} {s : Shared} {m : Str → Option Value} {Q : Flow → Shared → Prop} {r : Rd} {oR oW : Obj} {wl sl : List Value} {nw n : Nat} {u1 : Tok} {ws : List Str} {full fin : List Nat}
    (bas : Bas w g) (F : Fr g L s.heap m) (ok : r.Ok) (N : News g L s.heap (lexNews r 1 u1 sl n [] 0)) (NM : News g L s.heap [(wa, listOf wl.toArray nw), (L+1+1+1+1, oR), (L+1+1, oW)])
    (dR : oR.data = .cell (some (.ref r.x))) (dW : oW.data = .cell (some (.ref wa))) (o1 : @LT.lt Nat _ (L+1+1+1+1) wa) (o2 : @LT.lt Nat _ wa r.cs) (o3 : @Ne Nat wa r.sg ∧ @Ne Nat (L+1+1+1+1) r.sg ∧ @Ne Nat (L+1+1) r.sg)
    (hw : StrsAre wl ws) (hl8 : ws.length ≤ 8) (hs : SignsAre sl full) (hruns : Runs full ws fin) (hfl : full.length < 900)
    (k : ∀ h' tk m' D ys ln u1 sl n, Fr g L h' m' → Agree (L :: r.adr) s.heap h' → s.heap.get? D = none → Keep [Str.ofString "told"] m m' → m' (Str.ofString "told") = some (.ref D) → News g L h' (lexNews r ln u1 sl n [] 0) → News g L h' [(D, lst ys)] → StrsAre ys ws → SignsAre sl fin → ln + nl fin = 1 + nl full →
      Q .next { s with heap := h', toks := tk }) :
    wpAny (model PP w) (LA.deeper (lawEnv L fa cd)) (exec (lawStm 10) (lawEnv L fa cd)) Q (fun _ _ => False) s := by
  obtain ⟨h85, h36, h29, X, base, p, loose, mean, mg, mb, B, T⟩ := bas
  have NA : News g L s.heap (lexRel r 1 u1 sl n [] 0 [(wa, listOf wl.toArray nw), (L+1+1+1+1, oR), (L+1+1, oW)]) := news_app N NM
  obtain ⟨own, O, N2, off⟩ := old_of F NA
  obtain ⟨p1, p2, p3, p4, p5, p6, p7, p8, d1, d2, d3⟩ := id ok
  have off2 : OwnOff ((L+1+1, oW) :: own) ((lexRel r 1 0 [] 0 [] 0 [(wa, listOf wl.toArray nw), (L+1+1+1+1, oR)]).map (·.1)) := by
    intro q hq b hb
    have hb' : b ∈ r.adr ++ [wa, L+1+1+1+1] := hb
    rcases List.mem_cons.mp hq with rfl | hq
    · rcases List.mem_append.mp hb' with hb' | hb'
      · have := adr_ne (q := (L+1+1, oW)) ok N o3.2.2 (Nat.lt_trans (Nat.lt_of_succ_lt (Nat.lt_of_succ_lt o1)) o2)
        exact fun e => this (by rw [show (L+1+1, oW).1 = b from e]; exact hb')
      rcases List.mem_cons.mp hb' with rfl | hb'
      · exact Nat.ne_of_lt (Nat.lt_of_succ_lt (Nat.lt_of_succ_lt o1))
      · rw [List.mem_singleton.mp hb']
        exact Nat.ne_of_lt (Nat.lt_add_of_pos_right (n := L+1+1) (k := 2) (by decide))
    · refine off q hq b (show b ∈ r.adr ++ [wa, L+1+1+1+1, L+1+1] from ?_)
      rcases List.mem_append.mp hb' with h | h
      · exact List.mem_append_left _ h
      · exact List.mem_append_right _ (List.mem_append_left [L+1+1] h)
  have hoff : wa ∉ r.adr ∧ (L+1+1+1+1) ∉ r.adr := ⟨adr_ne (q := (wa, oR)) ok N o3.1 o2, adr_ne (q := (L+1+1+1+1, oR)) ok N o3.2.1 (Nat.lt_trans o1 o2)⟩
  have hwl := hw.length
  dsimp only [lexRel, lexNews, List.cons_append, List.nil_append] at N2
  conv in lawStm 10 => whnf
  refine Assign_ListComp_U F rfl (by rfl) (by rfl) (by decide) (by rfl) (by decide) (by rfl) (by rfl) (by rfl) ?_
  repeat' ((fail_if_success (with_reducible show CompSrc _ _ _ _ _ _ _ _ _ _ _ _ _ _)); first | (k_unfold; (try dsimp only)) | walk1 | (dsimp only; walk1))
  have hw8 : wl.toArray.size = ws.length := by simp [hwl]
  refine CompSrc.ledger (its := wl.toArray) (k := nw) (news := lexRel r 1 u1 sl n [] 0 [(wa, listOf wl.toArray nw), (L+1+1+1+1, oR)] ++ ((L+1+1, oW) :: own)) rfl F N2 (List.mem_append_left _ (List.mem_append_right _ (.head _))) (by rw [sizeLine_eq]; omega) fun g' => ?_
  rw [hw8]
  refine told_rest (T0 := 1 + nl full) (fin := fin) B X T ok dR off2 hoff ws full 0 [] 1 u1 sl n hruns hfl (Nat.zero_add _) rfl .nil hs rfl fun ys ln u1' sl' n' hys hsl hln => ?_
  intro D h tk FD ND oD
  have hD := ND (D, lst ys) (.head _)
  have oD' : Off1 D (lexRel r 1 u1 sl n [] 0 [(wa, listOf wl.toArray nw), (L+1+1+1+1, oR)] ++ ((L+1+1, oW) :: own)) := oD
  have hnew : s.heap.get? D = none := O.new (fun q hq => off1_mem oD' q ?_) hD.2.1 hD.2.2
  · refine k _ _ _ D ys ln u1' sl' n' FD ?_ hnew (Keep.set Keep.refl (.head _)) (if_pos rfl) (fun q hq => ND q (.tail _ (List.mem_append_left _ (List.mem_append_left _ hq)))) (fun q hq => ND q (by rw [List.mem_singleton.mp hq]; exact .head _)) hys hsl hln
    refine O.agree FD ND (fun q hq => .tail _ (List.mem_append_right _ (.tail _ hq))) r.adr ?_
    refine ⟨.inl (by k_mem), .inl (by k_mem), .inl (by k_mem), .inl (by k_mem), .inl (by k_mem), .inl (by k_mem), .inl (by k_mem), .inl (by k_mem), .inl (by k_mem), .inr ?_, .inr ?_, .inr ?_, trivial⟩
    · exact .tail _ (List.mem_append_left _ (List.mem_append_right _ (.head _)))
    · exact .tail _ (List.mem_append_left _ (List.mem_append_right _ (.tail _ (.head _))))
    · exact .tail _ (List.mem_append_right _ (.head _))
  · rcases List.mem_append.mp hq with hq | hq
    · rcases List.mem_append.mp (show q ∈ lexNews r 1 u1 sl n [] 0 ++ ([(wa, listOf wl.toArray nw), (L+1+1+1+1, oR)] ++ [(L+1+1, oW)]) from hq) with hq | hq
      · exact List.mem_append_left _ (List.mem_append_left _ hq)
      · rcases List.mem_append.mp hq with hq | hq
        · exact List.mem_append_left _ (List.mem_append_right _ hq)
        · exact List.mem_append_right _ (List.mem_append_left own hq)
    · exact List.mem_append_right _ (.tail _ hq)
end Mine
end

section
open PySem PySem.W PyProof.Rows
namespace Mine
theorem anew41 : True ∧ True := by
  walk1
  w_top off
  all_goals exact True.intro
end Mine
end

section
open PySem PySem.W PySem.Calls PyProof.Rows PyProof.Rows.LCg
set_option maxRecDepth 100000
set_option maxHeartbeats 1000000
namespace Mine

theorem canLay_strs : ∀ ns : List Str, (∀ x ∈ ns, PyData.strOk x = true) → PyData.canLayAll0 (ns.map PyData.str) = true
  | [], _ => rfl
  | x :: r, h => by simp [PyData.canLayAll0, PyData.canLay0, canLay_strs r fun y hy => h y (.tail _ hy), h x (.head _)]
theorem depth_strs : ∀ ns : List Str, PyData.depthAll (ns.map PyData.str) = 0
  | [] => rfl
  | _ :: r => by simp [PyData.depthAll, PyData.depth, depth_strs r]
theorem shaped_strs (ns : List Str) (h : ∀ x ∈ ns, PyData.strOk x = true) : SeqAt.shaped (.list (ns.map PyData.str)) = true := by
  simp [SeqAt.shaped, PyData.canLay0, PyData.depth, canLay_strs ns h, depth_strs]
theorem sameAll_strs : ∀ ns ms : List Str, PySem.Spec.sameAll (ns.map PyData.str) (ms.map PyData.str) = decide (ns = ms)
  | [], [] => by simp [PySem.Spec.sameAll]
  | [], _ :: _ => by simp [PySem.Spec.sameAll]
  | _ :: _, [] => by simp [PySem.Spec.sameAll]
  | a :: r, b :: t => by
    simp only [List.map_cons, PySem.Spec.sameAll, PySem.Spec.same, sameAll_strs r t]
    by_cases h : a = b <;> by_cases h' : r = t <;> simp [h, h']
theorem carried_strs {vs : List Value} {ns : List Str} (h : StrsAre vs ns) : CarriedAll vs (ns.map PyData.str) := by
  induction h with
  | nil => exact .nil
  | cons k u _ ih => exact .cons (.str _ u) ih
theorem ne_strs {prog : Program} {w : World} {A : Around} {E : Value → Shared → Prop} {s : Shared} {a b : Addr} {xs ys : List Value} {ns ms : List Str} {Q : Value → Shared → Prop}
    (ha : s.heap.IsList a xs.toArray) (hb : s.heap.IsList b ys.toArray) (hi : StrsAre xs ns) (hj : StrsAre ys ms) (hn : ∀ x ∈ ns, PyData.strOk x = true) (hm : ∀ x ∈ ms, PyData.strOk x = true) (hu : A.units + 64 < cLine) (h : Q (.bool (!decide (ns = ms))) s) :
    wpAny (model prog w) A (compareOp .NotEq (.ref a) (.ref b)) Q E s :=
  ne_dataH_same (reads_newData ha (carried_strs hi)) (reads_newData hb (carried_strs hj)) (shaped_strs _ hn) (shaped_strs _ hm) hu (SeqAt.noMix_of_shape (.list .str) rfl _ _ (list_map_has fun _ => rfl) (list_map_has fun _ => rfl))
    (by rw [show PySem.Spec.same (.list (ns.map PyData.str)) (.list (ms.map PyData.str)) = decide (ns = ms) from by simp only [PySem.Spec.same]; exact sameAll_strs ns ms]; exact h)


theorem ph11 {w : World} {g : Heap} {L fa wa D sg : Addr} {cd : Value} {s : Shared} {m : Str → Option Value} {Q : Flow → Shared → Prop} {oW : Obj} {wl sl ys : List Value} {nw n : Nat} {ws : List Str}
    (bas : Bas w g) (F : Fr g L s.heap m) (hmt : m (Str.ofString "told") = some (.ref D)) (hms : m (Str.ofString "signs") = some (.ref sg)) (NM : News g L s.heap [(D, lst ys), (sg, listOf sl.toArray n), (wa, listOf wl.toArray nw), (L+1+1, oW)])
    (dW : oW.data = .cell (some (.ref wa))) (hw : StrsAre wl ws) (hy : StrsAre ys ws) (hok : ∀ x ∈ ws, PyData.strOk x = true) (hsl : sl.length ≤ 1000)
    (k : ∀ h' tk m' t bd ob, Fr g L h' m' → Agree [L] s.heap h' → Keep [Str.ofString "unread", Str.ofString "bits"] m m' → m' (Str.ofString "unread") = some (.int (sl.length : Nat) t) → m' (Str.ofString "bits") = some (.ref bd) →
      News g L h' [(bd, ob)] → Fresh g L s.heap bd → ob.IsDictOf (strKind PP w) [] → (bd == sysModules) = false →
      wpAny (model PP w) (LA.deeper (lawEnv L fa cd)) (execs (lawRest 14) (lawEnv L fa cd)) Q (fun _ _ => False) { s with heap := h', toks := tk }) :
    wpAny (model PP w) (LA.deeper (lawEnv L fa cd)) (execs (lawRest 11) (lawEnv L fa cd)) Q (fun _ _ => False) s := by
  obtain ⟨h85, h36, h29, X, base, p, loose, mean, mg, mb, B, T⟩ := bas
  obtain ⟨own, O, N2, off⟩ := old_of F NM
  simp only [List.cons_append, List.nil_append] at N2
  simp only [List.map_cons, List.map_nil] at off
  have F2 := fr_ov [(Str.ofString "told", _), (Str.ofString "signs", _)] F (AtM.all ⟨hmt, hms, trivial⟩)
  have hov := ov_eq (m := m) (l := [(Str.ofString "told", .ref D), (Str.ofString "signs", .ref sg)]) (AtM.all ⟨hmt, hms, trivial⟩)
  dsimp only [ov] at F2
  clear F NM
  refine step 11 (by decide) ?_
  conv in lawStm 11 => whnf
  repeat' ((fail_if_success (with_reducible show wpAny _ _ (compareOp _ _ _) _ _ _)); first | (k_unfold; (try dsimp only)) | ((with_reducible show wpAny _ _ (call (Value.builtin "len") _) _ _ _); (k_dflt (refine len_any (News.isList (by k_asm) (by k_mem)) (by omega) ?_))) | walk1 | (dsimp only; walk1))
  refine ne_strs (News.isList N2 (.head _)) (News.isList N2 (by k_mem)) hy hw hok hok (Nat.le_of_ble_eq_true rfl) ?_
  rw [decide_eq_true rfl]
  repeat' (first | (k_unfold; (try dsimp only)) | ((with_reducible show wpAny _ _ (call (Value.builtin "len") _) _ _ _); (k_dflt (refine len_any (News.isList (by k_asm) (by k_mem)) (by omega) ?_))) | (k_end; wrow_close) | walk1 | (dsimp only; walk1) | (leave1; walk_say "STEP leave1"; try dsimp only) | fail "no step")
  dsimp only [Behind]
  refine step 12 (by decide) ?_
  conv in lawStm 12 => whnf
  repeat' (first | (k_unfold; (try dsimp only)) | ((with_reducible show wpAny _ _ (call (Value.builtin "len") _) _ _ _); (k_dflt (refine len_any (News.isList (by k_asm) (by k_mem)) (by omega) ?_))) | (k_end; wrow_close) | walk1 | (dsimp only; walk1) | (leave1; walk_say "STEP leave1"; try dsimp only) | fail "no step")
  dsimp only [Behind]
  refine step 13 (by decide) ?_
  conv in lawStm 13 => whnf
  repeat' (first | (k_unfold; (try dsimp only)) | ((with_reducible show wpAny _ _ (call (Value.builtin "len") _) _ _ _); (k_dflt (refine len_any (News.isList (by k_asm) (by k_mem)) (by omega) ?_))) | (k_end; wrow_close) | walk1 | (dsimp only; walk1) | (leave1; walk_say "STEP leave1"; try dsimp only) | fail "no step")
  dsimp only [Behind]
  rename_i bd h8 ob lo b1 b2 b3 b4 l9 h9 F9 N9
  exact k _ _ _ _ bd ob F9 (O.agree F9 N9 (by intro p hp; k_ownIn) [] (by walk_at "Same9")) (keep_ov hov (by walk_at "Keep9")) rfl rfl (news_sub N9 (by walk_at "Sub9")) (O.fresh l9) b1 lo
end Mine
end

section
open PySem PySem.W PyProof.Rows
namespace Mine
theorem anew42 : True ∧ True := by
  walk1
  w_top off
  all_goals exact True.intro
end Mine
end

section
open PySem PySem.W PySem.Calls PyProof.Rows PyProof.Rows.LCg
set_option maxRecDepth 100000
set_option maxHeartbeats 1000000
namespace Mine

/-- a number's four bits, the lowest first -/
noncomputable def bits4 (v : Int) : List Int := figsOf v ++ List.replicate (4 - (figsOf v).length) 0
theorem bits4_eq : ∀ v : Int, 0 ≤ v → v < 16 → bits4 v = [v % 2, v / 2 % 2, v / 4 % 2, v / 8 % 2] ∧ (figsOf v).length ≤ 4 := by
  have h : ∀ v : Fin 16, bits4 (v.val : Int) = [(v.val : Int) % 2, (v.val : Int) / 2 % 2, (v.val : Int) / 4 % 2, (v.val : Int) / 8 % 2] ∧ (figsOf (v.val : Int)).length ≤ 4 := by decide +kernel
  intro v h0 h1
  have := h ⟨v.toNat, by omega⟩
  dsimp only at this
  rw [show ((v.toNat : Nat) : Int) = v by omega] at this
  exact this
/-- the figure of a sign -/
noncomputable def idxCp (c : Nat) : Int := if c = 97 then 0 else if c = 34 then 1 else if c = 92 then 2 else 3
theorem idx_let {f : Int} (h0 : 0 ≤ f) (h4 : f < 4) : idxCp (letCp f) = f := by
  have : f = 0 ∨ f = 1 ∨ f = 2 ∨ f = 3 := by omega
  rcases this with rfl | rfl | rfl | rfl <;> decide
/-- the number of a word -/
noncomputable def decW (s : Str) : Int := match s.cps.toList with
  | [] => 0
  | [a] => idxCp a
  | a :: b :: _ => idxCp a + 4 * idxCp b
theorem dec_strN (x : Int) (n : Nat) (hn : n ≤ 2) : decW (strN x n) = valN x n := by
  have a0 := figAt_lo x 0; have a1 := figAt_hi x 0; have b0 := figAt_lo x 1; have b1 := figAt_hi x 1
  have : n = 0 ∨ n = 1 ∨ n = 2 := by omega
  rcases this with rfl | rfl | rfl
  · rfl
  · show idxCp (letCp (figAt x 0)) = _
    rw [idx_let a0 a1]; simp [valN]
  · show idxCp (letCp (figAt x 0)) + 4 * idxCp (letCp (figAt x 1)) = _
    rw [idx_let a0 a1, idx_let b0 b1]; simp [valN, List.range_succ]; omega
theorem dec_wordW (x : Int) : decW (wordW x) = valW x := dec_strN x _ (by omega)
theorem valW_bound (x : Int) : 0 ≤ valW x ∧ valW x < 16 := valN_bound x _ (by omega)

theorem letters_idx {prog : Program} {w : World} {A : Around} {E : Value → Shared → Prop} {s : Shared} {f : Int} {t u : Tok} {Q : Value → Shared → Prop} (hA : A.handled = none) (h0 : 0 ≤ f) (h4 : f < 4)
    (h : Q (.int f s.toks) { s with toks := s.toks + 1 }) : wpAny (model prog w) A (call (.builtin "str.index") [.str (Str.ofString "a\"\\\n") t, .str ⟨#[letCp f]⟩ u]) Q E s := by
  have e : Txt.find (Str.ofString "a\"\\\n") ⟨#[letCp f]⟩ = f := by
    have : f = 0 ∨ f = 1 ∨ f = 2 ∨ f = 3 := by omega
    rcases this with rfl | rfl | rfl | rfl <;> decide +kernel
  refine index_or hA (fun q => ?_) (fun _ _ => ?_)
  · rw [e] at q; omega
  · rw [e]; exact h

theorem d2i_any {w : World} {dp un : Nat} {gd : Option (List Code)} {fr : List Env} {h₀ : Heap} {L dg cc : Addr} {m : Str → Option Value} {s : Shared} {R : Result → Shared → Prop} {x : Int} {n : Nat} {ys : List Value} {tn : Tok} {oc : Obj} {vs : Array Value} {tq : Tok}
    (C : Cx w (AA dp un gd fr) h₀ L m s.heap) (hA : dp ≤ 400) (o1 : @LT.lt Nat _ 32 cc) (o2 : @Ne Nat cc dg) (o3 : @Ne Nat 32 dg) (hn : n ≤ 2) (hi : IntsAre ys ((List.range n).map (figAt x)))
    (N : News h₀ L s.heap [(dg, lst ys), (32, tab32 cc), (cc, oc)]) (d1 : oc.data = .fields vs) (d2 : vs[1]? = some (.str d2iQual tq))
    (k : ∀ h' tk t, Agree [dg, 32, cc] s.heap h' → News h₀ L h' [(dg, lst ys), (32, tab32 cc), (cc, oc)] → R (.ok (.ret (.int (valN x n) t))) { s with heap := h', toks := tk }) :
    codeAny (model PP w) (AA dp un gd fr) (.call (.ref 37) ⟨[.ref dg, .int 2 tn], []⟩) R s := by
  have a0 := figAt_lo x 0; have a1 := figAt_hi x 0; have b0 := figAt_lo x 1; have b1 := figAt_hi x 1
  have : n = 0 ∨ n = 1 ∨ n = 2 := by omega
  rcases this with rfl | rfl | rfl
  · cases hi
    exact d2i_0 C hA o1 o2 o3 N d1 d2 k
  · cases hi with
    | cons _ ta hi =>
      cases hi
      refine d2i_1 C hA o1 o2 o3 ⟨a0, a1⟩ N d1 d2 fun h' tk t a b => ?_
      have := k h' tk t a b
      simpa [valN] using this
  · cases hi with
    | cons _ ta hi =>
      cases hi with
      | cons _ tb hi =>
        cases hi
        refine d2i_2 C hA o1 o2 o3 ⟨a0, a1⟩ ⟨b0, b1⟩ N d1 d2 fun h' tk t a b => ?_
        have := k h' tk t a b
        rw [show valN x 2 = figAt x 0 + 4 * figAt x 1 by simp [valN, List.range_succ]; omega] at this
        exact this

theorem i2d_any {w : World} {dp un : Nat} {gd : Option (List Code)} {fr : List Env} {h₀ : Heap} {L cc : Addr} {m : Str → Option Value} {s : Shared} {R : Result → Shared → Prop} {a : Int} {ta tn tq : Tok} {oc : Obj} {cv : Array Value}
    (C : Cx w (AA dp un gd fr) h₀ L m s.heap) (hA : dp ≤ 400) (ha0 : 0 ≤ a) (ha1 : a < 16) (o1 : @LT.lt Nat _ 25 cc)
    (N : News h₀ L s.heap [(25, tab25 cc), (cc, oc)]) (d1 : oc.data = .fields cv) (d2 : cv[1]? = some (.str i2dQual tq))
    (k : ∀ h' tk D vs n, Agree [25, cc] s.heap h' → News h₀ L h' [(25, tab25 cc), (cc, oc), (D, listOf (List.toArray vs) n)] → s.heap.objs.size ≤ D → IntsAre vs (figsOf a) → R (.ok (.ret (.ref D))) { s with heap := h', toks := tk }) :
    codeAny (model PP w) (AA dp un gd fr) (.call (.ref 30) ⟨[.int a ta, .int 1 tn], []⟩) R s := by
  by_cases h : a = 0
  · subst h
    refine i2d_zero C hA o1 N d1 d2 fun h' tk D vs n x1 x2 x3 x4 => k h' tk D vs n x1 x2 x3 ?_
    subst x4
    rw [show figsOf 0 = [] from by decide +kernel]
    exact .nil
  · exact i2d_hit C hA (by omega) ha1 o1 N d1 d2 k
end Mine
end

section
open PySem PySem.W PyProof.Rows
namespace Mine
theorem anew43 : True ∧ True := by
  walk1
  w_top off
  all_goals exact True.intro
end Mine
end

section
open PySem PySem.W PySem.Calls PyProof.Rows PyProof.Rows.LCg
set_option maxRecDepth 100000
set_option maxHeartbeats 1000000
namespace Mine

theorem off_cons {S : List Addr} {a : Addr} {o : Obj} {l : List (Addr × Obj)} (h1 : a ∉ S) (h2 : ∀ p ∈ l, p.1 ∉ S) : ∀ p ∈ (a, o) :: l, p.1 ∉ S := fun p hp => by
  rcases List.mem_cons.mp hp with rfl | hp
  · exact h1
  · exact h2 p hp
theorem off_own {S adr : List Addr} {own : List (Addr × Obj)} (off : OwnOff own adr) (h : ∀ a ∈ S, a ∈ adr) : ∀ p ∈ own, p.1 ∉ S := fun p hp hs => off p hp _ (h _ hs) rfl
theorem off_new {own : List (Addr × Obj)} {adr : List Addr} {D : Addr} (off : OwnOff own adr) (h : ∀ p ∈ own, p.1 ≠ D) : OwnOff own (D :: adr) := fun p hp b hb => by
  rcases List.mem_cons.mp hb with rfl | hb
  · exact h p hp
  · exact off p hp b hb
theorem not_mem1 {a b : Addr} (h : a ≠ b) : a ∉ [b] := by simpa using h
theorem not_mem2 {a b c : Addr} (h1 : a ≠ b) (h2 : a ≠ c) : a ∉ [b, c] := by simp [h1, h2]
theorem not_mem3 {a b c d : Addr} (h1 : a ≠ b) (h2 : a ≠ c) (h3 : a ≠ d) : a ∉ [b, c, d] := by simp [h1, h2, h3]

noncomputable def bFor14 : Stmt := lawStm 14
noncomputable def figStm : Stmt := (stBody bFor14).getD 1 (.Pass ⟨0, 0, 0, 0⟩)
noncomputable def idxC : Expr := callArg (callArg (asgVal figStm))

theorem idx_rest {w : World} {g : Heap} {L fa : Addr} {cd : Value} {m : Str → Option Value} {base : Heap} {p loose mean mg mb} {s₂ : Shared} {own : List (Addr × Obj)} {Fin : List Value → List (Addr × Obj) → Prop} {oL : Obj} {tl : Tok} {x : Int} {n : Nat}
    (B : Below LA base [] g) (X : (hd.heap_1 w.params).In g) (T : Top p loose mean mg mb g) (dL : oL.data = .cell (some (.str (Str.ofString "a\"\\\n") tl)))
    (fin : ∀ ys, IntsAre ys ((List.range n).map (figAt x)) → Fin ys ((L+1, oL) :: own)) : ∀ k i ys, i + k = n → IntsAre ys ((List.range i).map (figAt x)) →
    CompRest PP w (LA.deeper (lawEnv L fa cd)) g L m (lawEnv L fa cd) (compElt idxC) (Str.ofString "sign") (compSco idxC) [(Str.ofString "letters", L+1)] s₂ (fun _ => True) (SignAt (strN x n)) Fin k i ys ((L+1, oL) :: own) := by
  intro k
  induction k with
  | zero =>
    intro i ys hi hy
    obtain rfl : i = n := by omega
    exact CompRest.zero (fin ys hy)
  | succ k ih =>
    intro i ys hi hy
    refine CompRest.succ ?_
    intro v I oI C oC D m₂ h tk E' hP hNs hmx F N off ne
    obtain ⟨c, u, hc, rfl⟩ := hP
    have hcc : c = letCp (figAt x i) := by
      simp only [strN, List.getElem?_toArray, List.getElem?_map, List.getElem?_range (show i < n by omega), Option.map_some, Option.some.injEq] at hc
      exact hc.symm
    subst hcc
    conv in compElt idxC => whnf
    repeat' ((fail_if_success (with_reducible show wpAny _ _ (call (Value.builtin "str.index") _) _ _ _)); first | (k_unfold; (try dsimp only)) | walk1 | (dsimp only; walk1))
    refine letters_idx rfl (figAt_lo _ _) (figAt_hi _ _) ?_
    k_unfold
    try dsimp only
    refine CompEnd.intro F N ((L+1, oL) :: own) (fun _ hp => hp) off trivial (ih _ _ (by omega) ?_)
    rw [List.range_succ, List.map_append]
    exact ints_snoc hy _ _

theorem t_figs {w : World} {g : Heap} {L fa cc c2 : Addr} {cd : Value} {s : Shared} {m : Str → Option Value} {Q : Flow → Shared → Prop} {oL oc oc2 : Obj} {tl tw tq tq2 : Tok} {x : Int} {vs vs2 : Array Value}
    (bas : Bas w g) (F : Fr g L s.heap m) (hmw : m (Str.ofString "word") = some (.str (wordW x) tw)) (N : News g L s.heap [(L+1, oL), (32, tab32 cc), (cc, oc), (25, tab25 c2), (c2, oc2)])
    (dL : oL.data = .cell (some (.str (Str.ofString "a\"\\\n") tl))) (hL : @LT.lt Nat _ 81 L) (o1 : @LT.lt Nat _ (L+1) cc) (o2 : @LT.lt Nat _ (L+1) c2) (o3 : @Ne Nat cc c2)
    (d1 : oc.data = .fields vs) (d2 : vs[1]? = some (.str d2iQual tq)) (e1 : oc2.data = .fields vs2) (e2 : vs2[1]? = some (.str i2dQual tq2))
    (k : ∀ h' tk m' D zs n, Fr g L h' m' → Agree [L] s.heap h' → Keep [Str.ofString "figures"] m m' → m' (Str.ofString "figures") = some (.ref D) → News g L h' [(D, listOf (List.toArray zs) n)] → s.heap.get? D = none → IntsAre zs (figsOf (valW x)) → Q .next { s with heap := h', toks := tk }) :
    wpAny (model PP w) (LA.deeper (lawEnv L fa cd)) (exec figStm (lawEnv L fa cd)) Q (fun _ _ => False) s := by
  obtain ⟨h85, h36, h29, X, base, p, loose, mean, mg, mb, B, T⟩ := bas
  obtain ⟨own, O, N2, off⟩ := old_of F N
  simp only [List.cons_append, List.nil_append] at N2
  simp only [List.map_cons, List.map_nil] at off
  have F2 := fr_ov [(Str.ofString "word", _)] F (AtM.all ⟨hmw, trivial⟩)
  have hov := ov_eq (m := m) (l := [(Str.ofString "word", .str (wordW x) tw)]) (AtM.all ⟨hmw, trivial⟩)
  dsimp only [ov] at F2
  clear F N
  conv in figStm => whnf
  repeat' ((fail_if_success (with_reducible show wpAny _ _ (eval (Expr.ListComp _ _ _ _) _) _ _ _)); first | (k_unfold; (try dsimp only)) | walk1 | (dsimp only; walk1))
  rename Fr _ _ _ _ => F8
  rename News _ _ _ _ => N8
  refine ListComp_SF F8 (by rfl) (by decide) (by rfl) (by decide) (by rfl) ?_
  repeat' ((fail_if_success (with_reducible show Exists _)); first | (k_unfold; (try dsimp only)) | walk1 | (dsimp only; walk1))
  have hn2 : (x % 3).toNat ≤ 2 := by omega
  have hws : (wordW x).cps.size = (x % 3).toNat := strN_length x _
  refine ⟨wordW x, tw, (L+1, oL) :: (32, tab32 cc) :: (cc, oc) :: (25, tab25 c2) :: (c2, oc2) :: own, rfl, rfl, F8, N8, wordW_ascii x, by rw [sizeLine_eq]; omega, fun s₂ hs₂ => idx_rest (n := (x % 3).toNat) B X T dL (fun ys hys => ?_) _ 0 [] (by omega) .nil⟩
  intro D h2 tk2 F2 N2 o2'
  obtain ⟨h9, rfl⟩ := hs₂
  clear F8 N8
  have hDm := off1_mem o2'
  have hD := N2 (D, lst ys) (.head _)
  have a2 := O.agree F2 N2 (by intro p hp; k_ownIn) [] (by walk_at "Same9")
  have n1 : @Ne Nat (L+1) D := hDm (L+1, oL) (by k_mem)
  have n2 : @Ne Nat 32 D := hDm (32, tab32 cc) (by k_mem)
  have n3 : @Ne Nat cc D := hDm (cc, oc) (by k_mem)
  have n4 : @Ne Nat 25 D := hDm (25, tab25 c2) (by k_mem)
  have n5 : @Ne Nat c2 D := hDm (c2, oc2) (by k_mem)
  have off2 : OwnOff own [D, L+1, 32, cc, 25, c2] := off_new off fun q hq => hDm q (by repeat (first | assumption | refine List.Mem.tail _ ?_))
  dsimp only
  repeat' ((fail_if_success (with_reducible show wpAny _ _ (call (Value.ref 37) _) _ _ _)); first | (k_unfold; (try dsimp only)) | walk1 | (dsimp only; walk1))
  have vb := valW_bound x
  refine wpAny_call (d2i_any (x := x) (n := (x % 3).toNat) (cx_of (env := lawEnv L fa cd) B F2 X T rfl rfl) (by decide) (ltN (by omega)) n3 n2 hn2 hys (news_sub N2 (by walk_at "Sub9")) d1 d2 fun h3 tk3 t3 ha3 hN3 => ?_)
  have F3 := after_fr F2 (news_sub N2 (rel := [(D, lst ys), (32, tab32 cc), (cc, oc)]) (by walk_at "Sub9")) ha3
  have N3 : News g L h3 ((D, lst ys) :: (32, tab32 cc) :: (cc, oc) :: (L+1, oL) :: (25, tab25 c2) :: (c2, oc2) :: own) :=
    news_app hN3 (after_news (S := [D, 32, cc]) (news := (L+1, oL) :: (25, tab25 c2) :: (c2, oc2) :: own) (fun q hq => N2 q (by
      rcases List.mem_cons.mp hq with rfl | hq
      · k_mem
      rcases List.mem_cons.mp hq with rfl | hq
      · k_mem
      rcases List.mem_cons.mp hq with rfl | hq
      · k_mem
      k_ownIn)) ha3 (off_cons (not_mem3 n1 (neN (by omega)) (neN (by omega))) (off_cons (not_mem3 n4 (by decide) (neN (by omega))) (off_cons (not_mem3 n5 (neN (by omega)) o3.symm) (off_own off2 (by simp))))))
  clear F2 N2 hN3
  dsimp only
  repeat' ((fail_if_success (with_reducible show wpAny _ _ (call (Value.ref 30) _) _ _ _)); first | (k_unfold; (try dsimp only)) | walk1 | (dsimp only; walk1))
  refine wpAny_call (i2d_any (cc := c2) (a := valW x) (cx_of (env := lawEnv L fa cd) B F3 X T rfl rfl) (by decide) vb.1 vb.2 (ltN (by omega)) (news_sub N3 (by walk_at "Sub9")) e1 e2 fun h4 tk4 D4 zs n4' ha4 hN4 hsz4 hI4 => ?_)
  have F4 := after_fr F3 (news_sub N3 (rel := [(25, tab25 c2), (c2, oc2)]) (by walk_at "Sub9")) ha4
  have N4 : News g L h4 ((D, lst ys) :: (32, tab32 cc) :: (cc, oc) :: (L+1, oL) :: own) :=
    after_news (S := [25, c2]) (news := (D, lst ys) :: (32, tab32 cc) :: (cc, oc) :: (L+1, oL) :: own) (fun q hq => N3 q (by
      rcases List.mem_cons.mp hq with rfl | hq
      · k_mem
      rcases List.mem_cons.mp hq with rfl | hq
      · k_mem
      rcases List.mem_cons.mp hq with rfl | hq
      · k_mem
      rcases List.mem_cons.mp hq with rfl | hq
      · k_mem
      k_ownIn)) ha4 (off_cons (not_mem2 (Ne.symm n4) (Ne.symm n5)) (off_cons (not_mem2 (by decide) (neN (by omega))) (off_cons (not_mem2 (neN (by omega)) o3) (off_cons (not_mem2 (neN (by omega)) (neN (by omega))) (off_own off2 (by simp))))))
  have hfr4 : ∀ q ∈ (D, lst ys) :: (32, tab32 cc) :: (cc, oc) :: (L+1, oL) :: (25, tab25 c2) :: (c2, oc2) :: own, q.1 ≠ D4 := fun q hq => Nat.ne_of_lt (Nat.lt_of_lt_of_le (Heap.lt_size (N3 q (by
      rcases List.mem_cons.mp hq with rfl | hq
      · k_mem
      rcases List.mem_cons.mp hq with rfl | hq
      · k_mem
      rcases List.mem_cons.mp hq with rfl | hq
      · k_mem
      rcases List.mem_cons.mp hq with rfl | hq
      · k_mem
      rcases List.mem_cons.mp hq with rfl | hq
      · k_mem
      rcases List.mem_cons.mp hq with rfl | hq
      · k_mem
      k_ownIn)).1) hsz4)
  have N5 := news_app hN4 N4
  dsimp only [List.cons_append, List.nil_append] at N5
  clear F3 N3 hN4 N4
  dsimp only
  k_steps
  rename Fr _ _ _ _ => F9
  rename News _ _ _ _ => N9
  have hD4 := N9 (D4, listOf zs.toArray n4') (by k_mem)
  refine k _ _ _ D4 zs n4' F9 (O.agree F9 N9 (by intro p hp; k_ownIn) [] (by walk_at "Same9")) (keep_ov hov (by walk_at "Keep9")) rfl (news_sub N9 (by walk_at "Sub9")) (O.new (fun q hq => hfr4 q ?_) hD4.2.1 hD4.2.2) hI4
  exact (show ∀ q ∈ _, q ∈ _ from by walk_at "Subs9") q hq
end Mine
end

section
open PySem PySem.W PyProof.Rows
namespace Mine
theorem anew44 : True ∧ True := by
  walk1
  w_top off
  all_goals exact True.intro
end Mine
end

section
open PySem PySem.W PySem.Calls PyProof.Rows PyProof.Rows.LCg
set_option maxRecDepth 100000
set_option maxHeartbeats 1000000
namespace Mine

theorem t_figs1 {w : World} {g : Heap} {L fa : Addr} {cd : Value} {s : Shared} {m : Str → Option Value} {Q : Flow → Shared → Prop} {oL : Obj} {tl tw : Tok}
    (bas : Bas w g) (F : Fr g L s.heap m) (hmw : m (Str.ofString "word") = some (.str (wordW 29) tw)) (N : News g L s.heap [(L+1, oL), (32, tabObj #[]), (25, tabObj #[])])
    (dL : oL.data = .cell (some (.str (Str.ofString "a\"\\\n") tl))) (hL : @LT.lt Nat _ 81 L)
    (k : ∀ h' tk m' D zs n cc c2 oc oc2 vs vs2 tq tq2, Fr g L h' m' → Agree [L, 32, 25] s.heap h' → Keep [Str.ofString "figures"] m m' → m' (Str.ofString "figures") = some (.ref D) → News g L h' [(D, listOf (List.toArray zs) n)] → s.heap.get? D = none → IntsAre zs (figsOf (valW 29)) →
      News g L h' [(32, tab32 cc), (cc, oc), (25, tab25 c2), (c2, oc2)] → Fresh g L s.heap cc → Fresh g L s.heap c2 → @Ne Nat cc c2 → @Ne Nat D cc → @Ne Nat D c2 → oc.data = .fields vs → vs[1]? = some (.str d2iQual tq) → oc2.data = .fields vs2 → vs2[1]? = some (.str i2dQual tq2) → Q .next { s with heap := h', toks := tk }) :
    wpAny (model PP w) (LA.deeper (lawEnv L fa cd)) (exec figStm (lawEnv L fa cd)) Q (fun _ _ => False) s := by
  obtain ⟨h85, h36, h29, X, base, p, loose, mean, mg, mb, B, T⟩ := bas
  obtain ⟨own, O, N2, off⟩ := old_of F N
  simp only [List.cons_append, List.nil_append] at N2
  simp only [List.map_cons, List.map_nil] at off
  have F2 := fr_ov [(Str.ofString "word", _)] F (AtM.all ⟨hmw, trivial⟩)
  have hov := ov_eq (m := m) (l := [(Str.ofString "word", .str (wordW 29) tw)]) (AtM.all ⟨hmw, trivial⟩)
  dsimp only [ov] at F2
  clear F N
  conv in figStm => whnf
  repeat' ((fail_if_success (with_reducible show wpAny _ _ (eval (Expr.ListComp _ _ _ _) _) _ _ _)); first | (k_unfold; (try dsimp only)) | walk1 | (dsimp only; walk1))
  rename Fr _ _ _ _ => F8
  rename News _ _ _ _ => N8
  refine ListComp_SF F8 (by rfl) (by decide) (by rfl) (by decide) (by rfl) ?_
  repeat' ((fail_if_success (with_reducible show Exists _)); first | (k_unfold; (try dsimp only)) | walk1 | (dsimp only; walk1))
  have hws : (wordW 29).cps.size = 2 := by decide +kernel
  refine ⟨wordW 29, tw, (L+1, oL) :: (32, tabObj #[]) :: (25, tabObj #[]) :: own, rfl, rfl, F8, N8, wordW_ascii 29, by rw [sizeLine_eq]; omega, fun s₂ hs₂ => idx_rest (x := 29) (n := 2) B X T dL (fun ys hys => ?_) _ 0 [] (by omega) .nil⟩
  intro D h2 tk2 F2 N2 o2'
  obtain ⟨h9, rfl⟩ := hs₂
  clear F8 N8
  have hDm := off1_mem o2'
  have hD := N2 (D, lst ys) (.head _)
  have a2 := O.agree F2 N2 (by intro p hp; k_ownIn) [] (by walk_at "Same9")
  have n1 : @Ne Nat (L+1) D := hDm (L+1, oL) (by k_mem)
  have n2 : @Ne Nat 32 D := hDm (32, tabObj #[]) (by k_mem)
  have n4 : @Ne Nat 25 D := hDm (25, tabObj #[]) (by k_mem)
  have off2 : OwnOff own [D, L+1, 32, 25] := off_new off fun q hq => hDm q (by repeat (first | assumption | refine List.Mem.tail _ ?_))
  obtain ⟨ta, tb, rfl⟩ : ∃ ta tb, ys = [.int 1 ta, .int 2 tb] := by
    rw [show (List.range 2).map (figAt 29) = [1, 2] from by decide +kernel] at hys
    cases hys with
    | cons _ ta hys => cases hys with
      | cons _ tb hys => cases hys; exact ⟨ta, tb, rfl⟩
  dsimp only
  repeat' ((fail_if_success (with_reducible show wpAny _ _ (call (Value.ref 37) _) _ _ _)); first | (k_unfold; (try dsimp only)) | walk1 | (dsimp only; walk1))
  refine wpAny_call (d2i_first2 (ta := ta) (tb := tb) (n := 2) (cx_of (env := lawEnv L fa cd) B F2 X T rfl rfl) (by decide) n2 (news_sub N2 (by walk_at "Sub9")) fun h3 tk3 t3 cc oc vs tq ha3 hN3 d1 d2 hsz3 => ?_)
  have F3 := after_fr F2 (news_sub N2 (rel := [(D, listOf #[.int 1 ta, .int 2 tb] 2), (32, tabObj #[])]) (by walk_at "Sub9")) ha3
  have hc3 : ∀ q ∈ (D, listOf #[.int 1 ta, .int 2 tb] 2) :: (L+1, oL) :: (32, tabObj #[]) :: (25, tabObj #[]) :: own, @LT.lt Nat _ q.1 cc := fun q hq => Nat.lt_of_lt_of_le (Heap.lt_size (N2 q hq).1) hsz3
  have N3 : News g L h3 ((D, listOf #[.int 1 ta, .int 2 tb] 2) :: (32, tab32 cc) :: (cc, oc) :: (L+1, oL) :: (25, tabObj #[]) :: own) :=
    news_app hN3 (after_news (S := [D, 32]) (news := (L+1, oL) :: (25, tabObj #[]) :: own) (fun q hq => N2 q (by
      rcases List.mem_cons.mp hq with rfl | hq
      · k_mem
      rcases List.mem_cons.mp hq with rfl | hq
      · k_mem
      k_ownIn)) ha3 (off_cons (not_mem2 n1 (neN (by omega))) (off_cons (not_mem2 n4 (by decide)) (off_own off2 (by simp)))))
  have q1 : @LT.lt Nat _ D cc := hc3 (D, _) (.head _)
  have q2 : @LT.lt Nat _ (L+1) cc := hc3 (L+1, _) (by k_mem)
  have fcc : Fresh g L s.heap cc := O.fresh (by
    have : AllLt cc ((L+1, oL) :: (32, tabObj #[]) :: (25, tabObj #[]) :: own) := allLt_of fun q hq => hc3 q (.tail _ hq)
    exact this)
  clear F2 N2 hN3
  dsimp only
  repeat' ((fail_if_success (with_reducible show wpAny _ _ (call (Value.ref 30) _) _ _ _)); first | (k_unfold; (try dsimp only)) | walk1 | (dsimp only; walk1))
  refine wpAny_call (i2d_first (cx_of (env := lawEnv L fa cd) B F3 X T rfl rfl) (by decide) (news_sub N3 (by walk_at "Sub9")) fun h4 tk4 D4 zs n4' c2 oc2 vs2 tq2 ha4 hN4 e1 e2 hsz4 hsz5 hI4 => ?_)
  have F4 := after_fr F3 (news_sub N3 (rel := [(25, tabObj #[])]) (by walk_at "Sub9")) ha4
  have hl : ∀ D5, h3.objs.size ≤ D5 → ∀ q ∈ (D, listOf #[.int 1 ta, .int 2 tb] 2) :: (32, tab32 cc) :: (cc, oc) :: (L+1, oL) :: (25, tabObj #[]) :: own, @LT.lt Nat _ q.1 D5 := fun D5 h q hq => Nat.lt_of_lt_of_le (Heap.lt_size (N3 q hq).1) h
  have N4 : News g L h4 ((D, listOf #[.int 1 ta, .int 2 tb] 2) :: (32, tab32 cc) :: (cc, oc) :: (L+1, oL) :: own) :=
    after_news (S := [25]) (news := (D, listOf #[.int 1 ta, .int 2 tb] 2) :: (32, tab32 cc) :: (cc, oc) :: (L+1, oL) :: own) (fun q hq => N3 q (by
      rcases List.mem_cons.mp hq with rfl | hq
      · k_mem
      rcases List.mem_cons.mp hq with rfl | hq
      · k_mem
      rcases List.mem_cons.mp hq with rfl | hq
      · k_mem
      rcases List.mem_cons.mp hq with rfl | hq
      · k_mem
      k_ownIn)) ha4 (off_cons (not_mem1 (Ne.symm n4)) (off_cons (not_mem1 (by decide)) (off_cons (not_mem1 (neN (by omega))) (off_cons (not_mem1 (neN (by omega))) (off_own off2 (by simp))))))
  have N5 := news_app hN4 N4
  dsimp only [List.cons_append, List.nil_append] at N5
  have w1 := hl D4 hsz4
  have w2 := hl c2 hsz5
  have m1 : @LT.lt Nat _ cc c2 := w2 (cc, oc) (by k_mem)
  have m2 : @LT.lt Nat _ cc D4 := w1 (cc, oc) (by k_mem)
  have fc2 : Fresh g L s.heap c2 := O.fresh (by
    have : AllLt c2 ((L+1, oL) :: (32, tabObj #[]) :: (25, tabObj #[]) :: own) := allLt_of fun q hq => by
      have z := hc3 q (.tail _ hq)
      exact Nat.lt_trans z m1
    exact this)
  have hne : @Ne Nat D4 c2 := by
    intro e
    have z1 := (hN4 (c2, oc2) (by k_mem)).1
    have z2 := (hN4 (D4, listOf zs.toArray n4') (by k_mem)).1
    dsimp only at z1 z2
    rw [show D4 = c2 from e, z1] at z2
    rw [Option.some.inj z2] at e1
    cases e1
  clear F3 N3 N4
  dsimp only
  k_steps
  rename Fr _ _ _ _ => F9
  rename News _ _ _ _ => N9
  have hD4 := N9 (D4, listOf zs.toArray n4') (by k_mem)
  refine k _ _ _ D4 zs n4' cc c2 oc oc2 vs vs2 tq tq2 F9 (O.agree F9 N9 (by intro p hp; k_ownIn) [32, 25] (by walk_at "Same9")) (keep_ov hov (by walk_at "Keep9")) rfl (news_sub N9 (by walk_at "Sub9")) (O.new (fun q hq => ?_) hD4.2.1 hD4.2.2) hI4 (news_sub N9 (by walk_at "Sub9")) fcc fc2 (Nat.ne_of_lt m1) (Nat.ne_of_gt m2) hne d1 d2 e1 e2
  exact Nat.ne_of_lt (Nat.lt_trans (hc3 q (.tail _ hq)) m2)
end Mine
end

section
open PySem PySem.W PyProof.Rows
namespace Mine
theorem anew45 : True ∧ True := by
  walk1
  w_top off
  all_goals exact True.intro
end Mine
end

section
open PySem PySem.W PySem.Calls PyProof.Rows PyProof.Rows.LCg
set_option maxRecDepth 100000
set_option maxHeartbeats 1000000
namespace Mine

noncomputable def bitStm : Stmt := (stBody bFor14).getD 2 (.Pass ⟨0, 0, 0, 0⟩)
theorem t_bits {w : World} {g : Heap} {L fa D bd : Addr} {cd : Value} {s : Shared} {m : Str → Option Value} {Q : Flow → Shared → Prop} {ob : Obj} {tw : Tok} {x : Str} {v : Int} {zs : List Value} {n : Nat} {kvs : List (Str × Value)}
    (bas : Bas w g) (F : Fr g L s.heap m) (hmw : m (Str.ofString "word") = some (.str x tw)) (hmf : m (Str.ofString "figures") = some (.ref D)) (hmb : m (Str.ofString "bits") = some (.ref bd)) (N : News g L s.heap [(D, listOf zs.toArray n), (bd, ob)])
    (o1 : @Ne Nat D bd) (hi : IntsAre zs (figsOf v)) (hf : (figsOf v).length ≤ 4) (hd : ob.IsDictOf (strKind PP w) kvs) (hk : kvs.length ≤ 100)
    (k : ∀ h' tk E vs n ob', Fr g L h' m → Agree [L, bd] s.heap h' → News g L h' [(bd, ob')] → ob'.IsDictOf (strKind PP w) (stored kvs x (.ref E)) → News g L h' [(E, listOf (List.toArray vs) n)] → IntsAre vs (bits4 v) → Fresh g L s.heap E → Q .next { s with heap := h', toks := tk }) :
    wpAny (model PP w) (LA.deeper (lawEnv L fa cd)) (exec bitStm (lawEnv L fa cd)) Q (fun _ _ => False) s := by
  obtain ⟨h85, h36, h29, X, base, p, loose, mean, mg, mb, B, T⟩ := bas
  obtain ⟨own, O, N2, off⟩ := old_of F N
  simp only [List.cons_append, List.nil_append] at N2
  simp only [List.map_cons, List.map_nil] at off
  have F2 := fr_ov [(Str.ofString "word", _), (Str.ofString "figures", _), (Str.ofString "bits", _)] F (AtM.all ⟨hmw, hmf, hmb, trivial⟩)
  have hov := ov_eq (m := m) (l := [(Str.ofString "word", .str x tw), (Str.ofString "figures", .ref D), (Str.ofString "bits", .ref bd)]) (AtM.all ⟨hmw, hmf, hmb, trivial⟩)
  dsimp only [ov] at F2
  clear F N
  have hzl := hi.length
  conv in bitStm => whnf
  repeat' ((fail_if_success (with_reducible show wpAny _ _ (binaryOp Operator.Mult (Value.ref _) _) _ _ _)); first | (k_unfold; (try dsimp only)) | ((with_reducible show wpAny _ _ (call (Value.builtin "len") _) _ _ _); (k_dflt (refine len_any (News.isList (by k_asm) (by k_mem)) (by omega) ?_))) | walk1 | (dsimp only; walk1))
  obtain ⟨nz, hnz⟩ : ∃ nz : Nat, (4 : Int) - ((zs.length : Nat) : Int) = (nz : Int) := ⟨4 - zs.length, by omega⟩
  rw [hnz]
  k_dflt (refine' KMa.mul ?F ?N ?l ?lo ?hi ?z ?e ?_; (case F => k_asm); (case N => k_asm); (case l => is_list); (case lo => omega); (case hi => omega); (case z => (simp; omega)); (case e => exact flat_one _ _))
  intro dg h2 F2 N2 l2
  (try k_lt l2)
  (try k_sweep)
  simp only [Int.toNat_natCast] at N2
  have hr : ∀ t, IntsAre (List.replicate nz (Value.int 0 t)) (List.replicate nz 0) := fun t => ints_replicate t nz
  k_dflt (refine' kmk_add_ints ?F ?N ?a ?b ?i ?j ?_ ?z; (case F => k_asm); (case N => k_asm); (case a => exact News.isList N2 (by k_mem)); (case b => exact News.isList N2 (by k_mem)); (case i => exact hi); (case j => exact hr _); (case z => (rw [sizeLine_eq]; simp; omega)))
  intro E9 vs h3 F3 N3 l3 hI
  (try k_lt l3)
  (try k_sweep)
  have hb4 : figsOf v ++ List.replicate nz 0 = bits4 v := by
    unfold bits4
    rw [show 4 - (figsOf v).length = nz by omega]
  rw [hb4] at hI
  repeat' ((fail_if_success (with_reducible show wpAny _ _ (setItem _ _ _) _ _ _)); first | (k_unfold; (try dsimp only)) | ((with_reducible show wpAny _ _ (call (Value.builtin "len") _) _ _ _); (k_dflt (refine len_any (News.isList (by k_asm) (by k_mem)) (by omega) ?_))) | walk1 | (dsimp only; walk1))
  k_dflt (refine' kda_set (knd := PySem.strKind _ _) ?F ?N ?U ?d (strKind_is _ _ _ _) ?z ?_; (case F => k_asm); (case N => k_asm); (case U => k_updF); (case d => k_asm); (case z => (rw [sizeLine_eq]; omega)))
  intro h4 ob' F4 N4 hd4
  (try dsimp only at N4)
  (try k_sweep)
  repeat' (first | (k_unfold; (try dsimp only)) | ((with_reducible show wpAny _ _ (call (Value.builtin "len") _) _ _ _); (k_dflt (refine len_any (News.isList (by k_asm) (by k_mem)) (by omega) ?_))) | (k_end; wrow_close) | walk1 | (dsimp only; walk1) | (leave1; walk_say "STEP leave1"; try dsimp only) | fail "no step")
  have F5 : Fr g L h4 m := by
    rw [← hov]
    exact F4
  exact k _ _ E9 vs 0 ob' F5 (O.agree F4 N4 (by intro p hp; k_ownIn) [bd] (by walk_at "Same9")) (news_sub N4 (by walk_at "Sub9")) hd4 (news_sub N4 (by walk_at "Sub9")) hI (O.fresh l3.2.2)
end Mine
end

section
open PySem PySem.W PyProof.Rows
namespace Mine
theorem anew46 : True ∧ True := by
  walk1
  w_top off
  all_goals exact True.intro
end Mine
end

section
open PySem PySem.W PySem.Calls PyProof.Rows PyProof.Rows.LCg
set_option maxRecDepth 100000
set_option maxHeartbeats 200000
namespace Mine

noncomputable def pushStm : Stmt := (stBody bFor14).getD 0 (.Pass ⟨0, 0, 0, 0⟩)
theorem t_push {w : World} {g : Heap} {L fa : Addr} {cd : Value} {s : Shared} {m : Str → Option Value} {Q : Flow → Shared → Prop} {r : Rd} {oR : Obj} {ln : Int} {u1 tw : Tok} {sl pl : List Value} {n pn : Nat} {x : Str}
    (bas : Bas w g) (F : Fr g L s.heap m) (hmw : m (Str.ofString "word") = some (.str x tw)) (ok : r.Ok) (N : News g L s.heap (lexNews r ln u1 sl n pl pn)) (NR : News g L s.heap [(L+1+1+1+1, oR)]) (dR : oR.data = .cell (some (.ref r.x))) (hpl : pl.length ≤ 1000)
    (o1 : (L+1+1+1+1) ∉ r.adr)
    (k : ∀ h' tk, Fr g L h' m → Agree (L :: r.adr) s.heap h' → News g L h' (lexNews r ln u1 sl n (pl ++ [.str x tw]) (pn + 1)) → Q .next { s with heap := h', toks := tk }) :
    wpAny (model PP w) (LA.deeper (lawEnv L fa cd)) (exec pushStm (lawEnv L fa cd)) Q (fun _ _ => False) s := by
  obtain ⟨h85, h36, h29, X, base, p, loose, mean, mg, mb, B, T⟩ := bas
  have NA : News g L s.heap ((L+1+1+1+1, oR) :: lexNews r ln u1 sl n pl pn) := news_app (a := [(L+1+1+1+1, oR)]) NR N
  have F2 := fr_ov [(Str.ofString "word", _)] F (AtM.all ⟨hmw, trivial⟩)
  have hov := ov_eq (m := m) (l := [(Str.ofString "word", .str x tw)]) (AtM.all ⟨hmw, trivial⟩)
  dsimp only [ov] at F2
  have N9 : News g L s.heap (lexNews r ln u1 sl n pl pn) ∧ True := ⟨N, trivial⟩
  dsimp only [lexNews] at NA
  clear N NR F
  conv in pushStm => whnf
  repeat' ((fail_if_success (with_reducible show wpAny _ _ (call (Value.ref 72) _) _ _ _)); first | (k_unfold; (try dsimp only)) | walk1 | (dsimp only; walk1))
  try dsimp only [List.append_nil, List.cons_append, List.nil_append]
  rw [show (fun y => if y = Str.ofString "word" then some (Value.str x tw) else m y) = m from hov] at F2
  refine wpAny_call (push_tok (cx_of (env := lawEnv L fa cd) B F2 X T rfl rfl) (by decide) (by omega) ok N9.1 fun h' tk hag hN => ?_)
  dsimp only
  exact k _ _ (after_fr F2 N9.1 hag) (agree_mono hag fun q hq => .tail _ hq) hN
end Mine
end

section
open PySem PySem.W PyProof.Rows
namespace Mine
theorem anew47 : True ∧ True := by
  walk1
  w_top off
  all_goals exact True.intro
end Mine
end

section
open PySem PySem.W PySem.Calls PyProof.Rows PyProof.Rows.LCg
set_option maxRecDepth 100000
set_option maxHeartbeats 1000000
namespace Mine

theorem strs_at {vs : List Value} {ns : List Str} (h : StrsAre vs ns) : ∀ {i : Nat} {v : Value}, vs[i]? = some v → ∃ n t, v = .str n t ∧ ns[i]? = some n := by
  induction h with
  | nil => intro i v e; simp at e
  | cons k u _ ih =>
    intro i v e
    cases i with
    | zero => simp at e; exact ⟨k, u, e.symm, rfl⟩
    | succ i => simp at e; simpa using ih e
theorem valueAt_stored (kvs : List (Str × Value)) (k k' : Str) (v : Value) : valueAt (stored kvs k v) k' = if k = k' then some v else valueAt kvs k' := by
  unfold stored
  by_cases ha : kvs.any (fun kv => decide (kv.1 = k)) = true
  · rw [if_pos ha]
    unfold valueAt
    induction kvs with
    | nil => simp at ha
    | cons q r ih =>
      obtain ⟨a, b⟩ := q
      simp only [List.map_cons, List.find?_cons]
      by_cases h1 : a = k
      · subst h1
        simp only [if_true]
        by_cases h2 : a = k'
        · simp [h2]
        · simp only [decide_eq_false h2, if_neg h2]
          by_cases h3 : r.any (fun kv => decide (kv.1 = a)) = true
          · rw [ih h3, if_neg h2]
          · have : r.map (fun kv => if kv.1 = a then (kv.1, v) else kv) = r := by
              have q : r.map (fun kv => if kv.1 = a then (kv.1, v) else kv) = r.map id := List.map_congr_left fun p hp => by
                rw [if_neg (fun e => h3 (List.any_eq_true.mpr ⟨p, hp, decide_eq_true e⟩))]; rfl
              rw [q, List.map_id]
            rw [this]
      · simp only [if_neg h1]
        have h3 : r.any (fun kv => decide (kv.1 = k)) = true := by simpa [h1] using ha
        by_cases h2 : a = k'
        · have : ¬ k = k' := fun e => h1 (h2.trans e.symm)
          simp [h2, this]
        · simp only [decide_eq_false h2]
          exact ih h3
  · rw [if_neg ha]
    unfold valueAt
    rw [List.find?_append]
    have hn : ∀ p ∈ kvs, ¬ p.1 = k := fun p hp e => ha (List.any_eq_true.mpr ⟨p, hp, decide_eq_true e⟩)
    by_cases h2 : k = k'
    · subst h2
      have : kvs.find? (fun kv => decide (kv.1 = k)) = none := List.find?_eq_none.mpr fun p hp => by simpa using hn p hp
      simp [this]
    · rw [if_neg h2]
      cases kvs.find? (fun kv => decide (kv.1 = k')) <;> simp [h2]
theorem stored_length (kvs : List (Str × Value)) (k : Str) (v : Value) : (stored kvs k v).length ≤ kvs.length + 1 := by
  unfold stored; split <;> simp

/-- the bits of a word lie in the dict, in a list that is none of `av` -/
noncomputable def BitsAt (g : Heap) (L : Addr) (av : List Addr) (h : Heap) (kvs : List (Str × Value)) (x : Str) : Prop :=
  ∃ E vs n, valueAt kvs x = some (.ref E) ∧ News g L h [(E, listOf (List.toArray vs) n)] ∧ IntsAre vs (bits4 (decW x)) ∧ E ∉ av
theorem BitsAt.carry {g : Heap} {L : Addr} {av : List Addr} {h h' : Heap} {kvs : List (Str × Value)} {x : Str} {S : List Addr} (b : BitsAt g L av h kvs x) (ha : Agree S h h') (hS : ∀ q ∈ S, q = L ∨ q ∈ av ∨ h.get? q = none) : BitsAt g L av h' kvs x := by
  obtain ⟨E, vs, n, b1, b2, b3, b4⟩ := b
  have z := b2 _ (.head _)
  refine ⟨E, vs, n, b1, after_news b2 ha (fun q hq => ?_), b3, b4⟩
  rw [List.mem_singleton.mp hq]
  intro hs
  rcases hS E hs with e | e | e
  · exact z.2.1 e
  · exact b4 e
  · rw [show h.get? E = _ from z.1] at e; cases e
theorem BitsAt.mono {g : Heap} {L : Addr} {av av' : List Addr} {h : Heap} {kvs : List (Str × Value)} {x : Str} (b : BitsAt g L av h kvs x) (hs : ∀ q ∈ av', q ∈ av) : BitsAt g L av' h kvs x := by
  obtain ⟨E, vs, n, b1, b2, b3, b4⟩ := b
  exact ⟨E, vs, n, b1, b2, b3, fun q => b4 (hs _ q)⟩
theorem BitsAt.grow {g : Heap} {L D : Addr} {av : List Addr} {h : Heap} {kvs : List (Str × Value)} {x : Str} (b : BitsAt g L av h kvs x) (hD : h.get? D = none) : BitsAt g L (D :: av) h kvs x := by
  obtain ⟨E, vs, n, b1, b2, b3, b4⟩ := b
  refine ⟨E, vs, n, b1, b2, b3, fun q => ?_⟩
  rcases List.mem_cons.mp q with e | e
  · have z := (b2 _ (.head _)).1
    rw [show D = E from e.symm] at hD
    rw [show h.get? E = _ from z] at hD; cases hD
  · exact b4 e

theorem nin_cons {q a : Addr} {S : List Addr} (h1 : q ≠ a) (h2 : q ∉ S) : q ∉ a :: S := fun h => by
  rcases List.mem_cons.mp h with e | e
  · exact h1 e
  · exact h2 e
theorem nin_nil {q : Addr} : q ∉ ([] : List Addr) := by simp

/-- the two tables, filled -/
structure Tabs (g : Heap) (L : Addr) (h : Heap) (cc c2 : Addr) : Prop where
  lo : @LT.lt Nat _ (L+1+1+1+1+1) cc
  lo2 : @LT.lt Nat _ (L+1+1+1+1+1) c2
  ne : @Ne Nat cc c2
  rest : ∃ oc oc2 vs vs2 tq tq2, News g L h [(32, tab32 cc), (cc, oc), (25, tab25 c2), (c2, oc2)] ∧ oc.data = .fields vs ∧ vs[1]? = some (.str d2iQual tq) ∧ oc2.data = .fields vs2 ∧ vs2[1]? = some (.str i2dQual tq2)
theorem Tabs.carry {g : Heap} {L cc c2 : Addr} {h h' : Heap} {S : List Addr} (b : Tabs g L h cc c2) (ha : Agree S h h') (h1 : (32 : Nat) ∉ S) (h2 : cc ∉ S) (h3 : (25 : Nat) ∉ S) (h4 : c2 ∉ S) : Tabs g L h' cc c2 := by
  obtain ⟨lo, lo2, ne, oc, oc2, vs, vs2, tq, tq2, N, r⟩ := b
  refine ⟨lo, lo2, ne, oc, oc2, vs, vs2, tq, tq2, after_news N ha fun q hq => ?_, r⟩
  simp only [List.mem_cons, List.not_mem_nil, or_false] at hq
  rcases hq with rfl | rfl | rfl | rfl
  · exact h1
  · exact h2
  · exact h3
  · exact h4
end Mine
end

section
open PySem PySem.W PyProof.Rows
namespace Mine
theorem anew48 : True ∧ True := by
  walk1
  w_top off
  all_goals exact True.intro
end Mine
end

section
open PySem PySem.W PySem.Calls PyProof.Rows PyProof.Rows.LCg
set_option maxRecDepth 100000
set_option maxHeartbeats 1000000
namespace Mine
theorem body14 : stBody bFor14 = [pushStm, figStm, bitStm] := by kernel_rfl
theorem target14 : forTarget bFor14 = .Name (Str.ofString "word") (match forTarget bFor14 with | .Name _ p => p | _ => ⟨0, 0, 0, 0⟩) := by kernel_rfl

theorem assign_word {w : World} {g : Heap} {L fa : Addr} {cd : Value} {s : Shared} {m : Str → Option Value} {Q : Unit → Shared → Prop} {E : Value → Shared → Prop} {x : Str} {p : Pos} {v : Value}
    (F : Fr g L s.heap m) (hk : (lawEnv L fa cd).kindOf x = some .local) (k : ∀ h' tk, Fr g L h' (fun y => if y = x then some v else m y) → Agree [L] s.heap h' → Q () { s with heap := h', toks := tk }) :
    wpAny (model PP w) (LA.deeper (lawEnv L fa cd)) (assign (.Name x p) (lawEnv L fa cd) v) Q E s := by
  refine wpAny_assign_Name (wpAny_storeName_local hk F.ns (fun h2 hn hs => ?_) rfl)
  exact k h2 _ (F.set hn hs) (agree_same hs)

theorem adr_live {g h : Heap} {L a : Addr} {r : Rd} {ln : Int} {u1 : Tok} {sl pl : List Value} {n pn : Nat} (N : News g L h (lexNews r ln u1 sl n pl pn)) (ha : a ∈ r.adr) : ∃ o, h.get? a = some o := by
  obtain ⟨p, hp, rfl⟩ := List.mem_map.mp (show a ∈ (lexNews r ln u1 sl n pl pn).map (·.1) from ha)
  exact ⟨p.2, (N p hp).1⟩
theorem not_adr {g h : Heap} {L a : Addr} {r : Rd} {ln : Int} {u1 : Tok} {sl pl : List Value} {n pn : Nat} (N : News g L h (lexNews r ln u1 sl n pl pn)) (ha : h.get? a = none) : a ∉ r.adr := fun hm => by
  obtain ⟨o, ho⟩ := adr_live N hm
  rw [ha] at ho; cases ho
theorem lex_off {r : Rd} {ln : Int} {u1 : Tok} {sl pl : List Value} {n pn : Nat} {q : Addr × Obj} (hq : q ∈ lexNews r ln u1 sl n pl pn) : q.1 ∈ r.adr :=
  List.mem_map_of_mem (f := fun p : Addr × Obj => p.1) hq

theorem b_turn {w : World} {g : Heap} {L fa bd cc c2 : Addr} {cd : Value} {s : Shared} {m : Str → Option Value} {Q : Flow → Shared → Prop} {r : Rd} {oR oL ob : Obj} {ln : Int} {u1 tw tl : Tok} {sl pl : List Value} {n pn : Nat} {x : Int} {kvs : List (Str × Value)}
    (bas : Bas w g) (hL : @LT.lt Nat _ 81 L) (F : Fr g L s.heap m) (hmb : m (Str.ofString "bits") = some (.ref bd)) (ok : r.Ok) (N : News g L s.heap (lexNews r ln u1 sl n pl pn)) (NC : News g L s.heap [(L+1+1+1+1, oR), (L+1, oL)]) (NB : News g L s.heap [(bd, ob)])
    (dR : oR.data = .cell (some (.ref r.x))) (dL : oL.data = .cell (some (.str (Str.ofString "a\"\\\n") tl))) (hpl : pl.length ≤ 1000) (hd : ob.IsDictOf (strKind PP w) kvs) (hk : kvs.length ≤ 100)
    (tabs : Tabs g L s.heap cc c2) (q1 : (L+1+1+1+1) ∉ r.adr) (q2 : (L+1) ∉ r.adr) (q3 : bd ∉ r.adr) (q4 : (32 : Nat) ∉ r.adr ∧ (25 : Nat) ∉ r.adr ∧ cc ∉ r.adr ∧ c2 ∉ r.adr)
    (k : ∀ h' tk m' E vs n' ob', Fr g L h' m' → Agree (L :: bd :: r.adr) s.heap h' → Keep [Str.ofString "word", Str.ofString "figures"] m m' → News g L h' (lexNews r ln u1 sl n (pl ++ [.str (wordW x) tw]) (pn + 1)) → News g L h' [(bd, ob')] → ob'.IsDictOf (strKind PP w) (stored kvs (wordW x) (.ref E)) →
      News g L h' [(E, listOf (List.toArray vs) n')] → IntsAre vs (bits4 (decW (wordW x))) → s.heap.get? E = none → Q .next { s with heap := h', toks := tk }) :
    wpAny (model PP w) (LA.deeper (lawEnv L fa cd)) (assign (forTarget bFor14) (lawEnv L fa cd) (.str (wordW x) tw)) (fun _ s₂ => wpAny (model PP w) (LA.deeper (lawEnv L fa cd)) (execs (stBody bFor14) (lawEnv L fa cd)) Q (fun _ _ => False) s₂) (fun _ _ => False) s := by
  rw [target14, body14]
  refine assign_word F (by rfl) fun h1 tk1 F1 a1 => ?_
  have N1 := after_L N a1
  have NC1 := after_L NC a1
  refine step_gen (t_push bas F1 (if_pos rfl) ok N1 (news_sub NC1 ⟨by k_mem, trivial⟩) dR hpl q1 fun h2 tk2 F2 a2 N2 => ?_)
  have aN : Agree (L :: r.adr) s.heap h2 := agree_trans (agree_mono a1 (by walk_at "Subs9")) a2
  have hadr : ∀ {a : Addr}, a ≠ L → a ∉ r.adr → a ∉ L :: r.adr := fun h1 h2 h3 => by
    rcases List.mem_cons.mp h3 with h3 | h3
    · exact h1 h3
    · exact h2 h3
  have NC2 : News g L h2 [(L+1+1+1+1, oR), (L+1, oL)] := after_news NC aN (off_cons (hadr (NC _ (.head _)).2.1 q1) (off_cons (hadr (NC (L+1, oL) (by k_mem)).2.1 q2) (by simp)))
  obtain ⟨t1, t2, t3, oc, oc2, zs, zs2, tq, tq2, NT, d1, d2, e1, e2⟩ := id tabs
  have NT2 := after_news NT aN (off_cons (hadr (NT (32, _) (by k_mem)).2.1 q4.1) (off_cons (hadr (NT (cc, _) (by k_mem)).2.1 q4.2.2.1) (off_cons (hadr (NT (25, _) (by k_mem)).2.1 q4.2.1) (off_cons (hadr (NT (c2, _) (by k_mem)).2.1 q4.2.2.2) (by simp)))))
  have NB2 := after_news NB aN (off_cons (hadr (NB (bd, ob) (by k_mem)).2.1 q3) (by simp))
  dsimp only [Behind]
  refine step_gen (t_figs bas F2 (if_pos rfl) (news_sub (news_app NC2 NT2) ⟨by k_mem, by k_mem, by k_mem, by k_mem, by k_mem, trivial⟩) dL hL (ltN (by omega)) (ltN (by omega)) t3 d1 d2 e1 e2 fun h3 tk3 m3 D zs3 n3 F3 a3 k3 hm3 N3 hD hz => ?_)
  have NB3 := after_L NB2 a3
  have N5 := after_L N2 a3
  have hne : @Ne Nat D bd := fun e => by
    have := (NB2 (bd, ob) (.head _)).1
    rw [show bd = D from e.symm] at this
    rw [show (Heap.get? _ D) = none from hD] at this; cases this
  dsimp only [Behind]
  have vb := valW_bound x
  have hw3 : m3 (Str.ofString "word") = some (.str (wordW x) tw) := (k3 _ (by decide)).trans (if_pos rfl)
  have hb3 : m3 (Str.ofString "bits") = some (.ref bd) := (k3 _ (by decide)).trans ((if_neg (by decide)).trans hmb)
  refine step_gen (t_bits bas F3 hw3 hm3 hb3 (news_app N3 NB3) hne hz (bits4_eq _ vb.1 vb.2).2 hd hk fun h4 tk4 E vs n4 ob' F4 a4 NB4 hd4 NE hI hE => ?_)
  dsimp only [Behind]
  refine wpAny_execs_nil ?_
  have a34 : Agree (L :: bd :: r.adr) s.heap h4 := agree_trans (agree_trans (agree_mono aN (by walk_at "Subs9")) (agree_mono a3 (by walk_at "Subs9"))) (agree_mono a4 (by walk_at "Subs9"))
  refine k h4 _ m3 E vs n4 ob' F4 a34 (Keep.trans (m' := fun y => if y = Str.ofString "word" then some (Value.str (wordW x) tw) else m y) (Keep.set Keep.refl (by k_mem)) (k3.mono (by simp))) (after_news N5 a4 fun q hq hs => ?_) NB4 hd4 NE (by rw [dec_wordW]; exact hI) ?_
  · simp only [List.mem_cons, List.not_mem_nil, or_false] at hs
    rcases hs with hs | hs
    · exact (N5 q hq).2.1 hs
    · exact q3 (hs ▸ lex_off hq)
  · cases hq : s.heap.get? E with
    | none => rfl
    | some o =>
      have z := NE (E, _) (.head _)
      have live : ∃ o, h3.get? E = some o := by
        by_cases z1 : E ∈ r.adr
        · exact adr_live N5 z1
        by_cases z2 : E = bd
        · exact ⟨_, by rw [z2]; exact (NB3 (bd, ob) (.head _)).1⟩
        · exact ⟨o, a3 _ _ (aN _ _ hq (hadr z.2.1 z1)) (by simpa using z.2.1)⟩
      obtain ⟨o', ho'⟩ := live
      exact absurd (hE E o' ho' z.2.1 z.2.2) (Nat.lt_irrefl _)
theorem b_turn0 {w : World} {g : Heap} {L fa bd : Addr} {cd : Value} {s : Shared} {m : Str → Option Value} {Q : Flow → Shared → Prop} {r : Rd} {oR oL oD ob : Obj} {ln : Int} {u1 tw tl : Tok} {sl pl : List Value} {n pn : Nat} {kvs : List (Str × Value)}
    (bas : Bas w g) (hL : @LT.lt Nat _ 81 L) (F : Fr g L s.heap m) (hmb : m (Str.ofString "bits") = some (.ref bd)) (ok : r.Ok) (N : News g L s.heap (lexNews r ln u1 sl n pl pn)) (NC : News g L s.heap [(L+1+1+1+1, oR), (L+1, oL)]) (NB : News g L s.heap [(bd, ob)])
    (dR : oR.data = .cell (some (.ref r.x))) (dL : oL.data = .cell (some (.str (Str.ofString "a\"\\\n") tl))) (hpl : pl.length ≤ 1000) (hd : ob.IsDictOf (strKind PP w) kvs) (hk : kvs.length ≤ 100)
    (NT : News g L s.heap [(32, tabObj #[]), (25, tabObj #[])]) (NL : News g L s.heap [(L+1+1+1+1+1, oD)]) (q1 : (L+1+1+1+1) ∉ r.adr) (q2 : (L+1) ∉ r.adr) (q3 : bd ∉ r.adr) (q4 : (32 : Nat) ∉ r.adr ∧ (25 : Nat) ∉ r.adr) (q5 : (L+1+1+1+1+1) ∉ r.adr) (q6 : @Ne Nat 32 bd ∧ @Ne Nat 25 bd)
    (k : ∀ h' tk m' E vs n' ob' cc c2, Fr g L h' m' → Agree (L :: bd :: 32 :: 25 :: r.adr) s.heap h' → Keep [Str.ofString "word", Str.ofString "figures"] m m' → News g L h' (lexNews r ln u1 sl n (pl ++ [.str (wordW 29) tw]) (pn + 1)) → News g L h' [(bd, ob')] → ob'.IsDictOf (strKind PP w) (stored kvs (wordW 29) (.ref E)) →
      News g L h' [(E, listOf (List.toArray vs) n')] → IntsAre vs (bits4 (decW (wordW 29))) → s.heap.get? E = none → Tabs g L h' cc c2 → cc ∉ r.adr → c2 ∉ r.adr → @Ne Nat cc bd → @Ne Nat c2 bd → (∀ a o, s.heap.get? a = some o → a ≠ L → g.get? a = none → a ≠ cc ∧ a ≠ c2) → Q .next { s with heap := h', toks := tk }) :
    wpAny (model PP w) (LA.deeper (lawEnv L fa cd)) (assign (forTarget bFor14) (lawEnv L fa cd) (.str (wordW 29) tw)) (fun _ s₂ => wpAny (model PP w) (LA.deeper (lawEnv L fa cd)) (execs (stBody bFor14) (lawEnv L fa cd)) Q (fun _ _ => False) s₂) (fun _ _ => False) s := by
  rw [target14, body14]
  refine assign_word F (by rfl) fun h1 tk1 F1 a1 => ?_
  have N1 := after_L N a1
  have NC1 := after_L NC a1
  refine step_gen (t_push bas F1 (if_pos rfl) ok N1 (news_sub NC1 ⟨by k_mem, trivial⟩) dR hpl q1 fun h2 tk2 F2 a2 N2 => ?_)
  have aN : Agree (L :: r.adr) s.heap h2 := agree_trans (agree_mono a1 (by walk_at "Subs9")) a2
  have hadr : ∀ {a : Addr}, a ≠ L → a ∉ r.adr → a ∉ L :: r.adr := fun h1 h2 h3 => by
    rcases List.mem_cons.mp h3 with h3 | h3
    · exact h1 h3
    · exact h2 h3
  have NC2 : News g L h2 [(L+1+1+1+1, oR), (L+1, oL)] := after_news NC aN (off_cons (hadr (NC _ (.head _)).2.1 q1) (off_cons (hadr (NC (L+1, oL) (by k_mem)).2.1 q2) (by simp)))
  have NT2 := after_news NT aN (off_cons (hadr (NT (32, _) (by k_mem)).2.1 q4.1) (off_cons (hadr (NT (25, _) (by k_mem)).2.1 q4.2) (by simp)))
  have NL2 := after_news NL aN (off_cons (hadr (NL (L+1+1+1+1+1, oD) (by k_mem)).2.1 q5) (by simp))
  have NB2 := after_news NB aN (off_cons (hadr (NB (bd, ob) (by k_mem)).2.1 q3) (by simp))
  dsimp only [Behind]
  refine step_gen (t_figs1 bas F2 (if_pos rfl) (news_sub (news_app NC2 NT2) ⟨by k_mem, by k_mem, by k_mem, trivial⟩) dL hL fun h3 tk3 m3 D zs3 n3 cc c2 oc oc2 zs zs2 tq tq2 F3 a3 k3 hm3 N3 hD hz N32 fcc fc2 ne1 ne2 ne3 d1 d2 e1 e2 => ?_)
  have a3' : ∀ {q : Addr}, q ≠ L → q ≠ 32 → q ≠ 25 → q ∉ [L, 32, 25] := fun h1 h2 h3 => by simp [h1, h2, h3]
  have NB3 := after_news NB2 a3 (off_cons (a3' (NB2 (bd, ob) (.head _)).2.1 q6.1.symm q6.2.symm) (by simp))
  have N5 := after_news N2 a3 fun q hq => a3' (N2 q hq).2.1 (fun e => q4.1 (e ▸ lex_off hq)) (fun e => q4.2 (e ▸ lex_off hq))
  have lcc : cc ∉ r.adr := fun hm => by obtain ⟨o, ho⟩ := adr_live N2 hm; have z := N32 (cc, oc) (by k_mem); exact absurd (fcc _ _ ho z.2.1 z.2.2) (Nat.lt_irrefl _)
  have lc2 : c2 ∉ r.adr := fun hm => by obtain ⟨o, ho⟩ := adr_live N2 hm; have z := N32 (c2, oc2) (by k_mem); exact absurd (fc2 _ _ ho z.2.1 z.2.2) (Nat.lt_irrefl _)
  have lt1 := fcc.news NL2 _ (.head _)
  have lt2 := fc2.news NL2 _ (.head _)
  have lt3 := fcc.news NB2 _ (.head _)
  have lt4 := fc2.news NB2 _ (.head _)
  have hne : @Ne Nat D bd := fun e => by
    have := (NB2 (bd, ob) (.head _)).1
    rw [show bd = D from e.symm] at this
    rw [show (Heap.get? _ D) = none from hD] at this; cases this
  dsimp only [Behind]
  have vb := valW_bound 29
  have hw3 : m3 (Str.ofString "word") = some (.str (wordW 29) tw) := (k3 _ (by decide)).trans (if_pos rfl)
  have hb3 : m3 (Str.ofString "bits") = some (.ref bd) := (k3 _ (by decide)).trans ((if_neg (by decide)).trans hmb)
  refine step_gen (t_bits bas F3 hw3 hm3 hb3 (news_app N3 NB3) hne hz (bits4_eq _ vb.1 vb.2).2 hd hk fun h4 tk4 E vs n4 ob' F4 a4 NB4 hd4 NE hI hE => ?_)
  dsimp only [Behind]
  refine wpAny_execs_nil ?_
  have a34 : Agree (L :: bd :: 32 :: 25 :: r.adr) s.heap h4 := agree_trans (agree_trans (agree_mono aN (by walk_at "Subs9")) (agree_mono a3 (by walk_at "Subs9"))) (agree_mono a4 (by walk_at "Subs9"))
  refine k h4 _ m3 E vs n4 ob' cc c2 F4 a34 (Keep.trans (m' := fun y => if y = Str.ofString "word" then some (Value.str (wordW 29) tw) else m y) (Keep.set Keep.refl (by k_mem)) (k3.mono (by simp))) (after_news N5 a4 fun q hq hs => ?_) NB4 hd4 NE (by rw [dec_wordW]; exact hI) ?_ ⟨lt1, lt2, ne1, oc, oc2, zs, zs2, tq, tq2, after_news N32 a4 ?_, d1, d2, e1, e2⟩ lcc lc2 (Nat.ne_of_gt lt3) (Nat.ne_of_gt lt4) (fun a o z1 z2 z3 => ⟨fun e => absurd (fcc a o (aN a o z1 (hadr z2 (by rw [e]; exact lcc))) z2 z3) (by rw [e]; exact Nat.lt_irrefl _), fun e => absurd (fc2 a o (aN a o z1 (hadr z2 (by rw [e]; exact lc2))) z2 z3) (by rw [e]; exact Nat.lt_irrefl _)⟩)
  · simp only [List.mem_cons, List.not_mem_nil, or_false] at hs
    rcases hs with hs | hs
    · exact (N5 q hq).2.1 hs
    · exact q3 (hs ▸ lex_off hq)
  · cases hq : s.heap.get? E with
    | none => rfl
    | some o =>
      have z := NE (E, _) (.head _)
      have live : ∃ o, h3.get? E = some o := by
        by_cases z1 : E ∈ r.adr
        · exact adr_live N5 z1
        by_cases z2 : E = bd
        · exact ⟨_, by rw [z2]; exact (NB3 (bd, ob) (.head _)).1⟩
        by_cases z3 : E = 32
        · exact ⟨_, by rw [z3]; exact (N32 (32, _) (by k_mem)).1⟩
        by_cases z4 : E = 25
        · exact ⟨_, by rw [z4]; exact (N32 (25, _) (by k_mem)).1⟩
        · exact ⟨o, a3 _ _ (aN _ _ hq (hadr z.2.1 z1)) (a3' z.2.1 z3 z4)⟩
      obtain ⟨o', ho'⟩ := live
      exact absurd (hE E o' ho' z.2.1 z.2.2) (Nat.lt_irrefl _)
  · have nb : ∀ {q : Addr}, q ≠ L → q ≠ bd → q ∉ [L, bd] := fun h1 h2 => by simp [h1, h2]
    exact off_cons (nb (N32 (32, _) (by k_mem)).2.1 q6.1) (off_cons (nb (N32 (cc, _) (by k_mem)).2.1 (Nat.ne_of_gt lt3)) (off_cons (nb (N32 (25, _) (by k_mem)).2.1 q6.2) (off_cons (nb (N32 (c2, _) (by k_mem)).2.1 (Nat.ne_of_gt lt4)) (by simp))))
end Mine
end

section
open PySem PySem.W PyProof.Rows
namespace Mine
theorem anew49 : True ∧ True := by
  walk1
  w_top off
  all_goals exact True.intro
end Mine
end

section
open PySem PySem.W PySem.Calls PyProof.Rows PyProof.Rows.LCg
set_option maxRecDepth 100000
set_option maxHeartbeats 1000000
namespace Mine

theorem BitsAt.store {g : Heap} {L E : Addr} {av : List Addr} {h : Heap} {kvs : List (Str × Value)} {x y : Str} {vs : List Value} {n : Nat} (b : y = x ∨ BitsAt g L av h kvs y) (N : News g L h [(E, listOf vs.toArray n)]) (hi : IntsAre vs (bits4 (decW x))) (hE : E ∉ av) : BitsAt g L av h (stored kvs x (.ref E)) y := by
  by_cases e : x = y
  · subst e
    exact ⟨E, vs, n, by rw [valueAt_stored, if_pos rfl], N, hi, hE⟩
  · rcases b with b | ⟨E', vs', n', b1, b2, b3, b4⟩
    · exact absurd b.symm e
    · exact ⟨E', vs', n', by rw [valueAt_stored, if_neg e]; exact b1, b2, b3, b4⟩

theorem ph14 {w : World} {g : Heap} {L fa bd D : Addr} {cd : Value} {s : Shared} {m : Str → Option Value} {Q : Flow → Shared → Prop} {r : Rd} {oR oL oD ob : Obj} {ln : Int} {u1 tl : Tok} {sl ys : List Value} {n pn : Nat} {xs : List Int}
    (bas : Bas w g) (hL : @LT.lt Nat _ 81 L) (F : Fr g L s.heap m) (hmt : m (Str.ofString "told") = some (.ref D)) (hmb : m (Str.ofString "bits") = some (.ref bd)) (ok : r.Ok) (N : News g L s.heap (lexNews r ln u1 sl n [] pn)) (NC : News g L s.heap [(L+1+1+1+1, oR), (L+1, oL), (L+1+1+1+1+1, oD)]) (NB : News g L s.heap [(bd, ob)])
    (ND : News g L s.heap [(D, lst ys)]) (NT : News g L s.heap [(32, tabObj #[]), (25, tabObj #[])])
    (dR : oR.data = .cell (some (.ref r.x))) (dL : oL.data = .cell (some (.str (Str.ofString "a\"\\\n") tl))) (hd : ob.IsDictOf (strKind PP w) []) (hy : StrsAre ys (xs.map wordW)) (hx8 : xs.length ≤ 8) (hx0 : ∃ xr, xs = 29 :: xr)
    (q1 : (L+1+1+1+1) ∉ r.adr) (q2 : (L+1) ∉ r.adr) (q3 : bd ∉ r.adr) (q4 : (32 : Nat) ∉ r.adr ∧ (25 : Nat) ∉ r.adr) (q5 : (L+1+1+1+1+1) ∉ r.adr) (q6 : @Ne Nat 32 bd ∧ @Ne Nat 25 bd) (q7 : D ∉ r.adr) (q8 : @Ne Nat D bd) (q9 : @Ne Nat D 32 ∧ @Ne Nat D 25)
    (q10 : (L+1+1+1+1) ≠ bd ∧ (L+1) ≠ bd ∧ (L+1+1+1+1+1) ≠ bd)
    (k : ∀ h' tk m' ob' kvs pl pn' cc c2, Fr g L h' m' → Agree (L :: bd :: 32 :: 25 :: r.adr) s.heap h' → Keep [Str.ofString "word", Str.ofString "figures"] m m' → News g L h' (lexNews r ln u1 sl n pl pn') → StrsAre pl (xs.map wordW) → News g L h' [(bd, ob')] → ob'.IsDictOf (strKind PP w) kvs →
      (∀ x ∈ xs, BitsAt g L (bd :: 32 :: 25 :: r.adr) h' kvs (wordW x)) → Tabs g L h' cc c2 → cc ∉ r.adr → c2 ∉ r.adr → @Ne Nat cc bd → @Ne Nat c2 bd → Q .next { s with heap := h', toks := tk }) :
    wpAny (model PP w) (LA.deeper (lawEnv L fa cd)) (exec (lawStm 14) (lawEnv L fa cd)) Q (fun _ _ => False) s := by
  have bas2 := bas
  obtain ⟨h85, h36, h29, X, base, p, loose, mean, mg, mb, B, T⟩ := bas
  obtain ⟨own, O, N2, off⟩ := old_of F ND
  simp only [List.cons_append, List.nil_append] at N2
  simp only [List.map_cons, List.map_nil] at off
  have F2 := fr_ov [(Str.ofString "told", _)] F (AtM.all ⟨hmt, trivial⟩)
  have hov := ov_eq (m := m) (l := [(Str.ofString "told", .ref D)]) (AtM.all ⟨hmt, trivial⟩)
  dsimp only [ov] at F2
  have hide : (News g L s.heap (lexNews r ln u1 sl n [] pn) ∧ News g L s.heap [(L+1+1+1+1, oR), (L+1, oL), (L+1+1+1+1+1, oD)]) ∧ News g L s.heap [(bd, ob)] ∧ News g L s.heap [(32, tabObj #[]), (25, tabObj #[])] := ⟨⟨N, NC⟩, NB, NT⟩
  clear F N NC NB ND NT
  have hyl := hy.length
  simp only [List.length_map] at hyl
  conv in lawStm 14 => whnf
  repeat' (first | (k_unfold; (try dsimp only)) | ((with_reducible show wpAny _ _ (pyIter (Value.ref _)) _ _ _); (k_dflt (refine' pyIter_listK ?zqF ?zqN ?zql ?_; (case zqF => k_asm); (case zqN => k_asm); (case zql => is_list))); walk_at "In9") | ((with_reducible show wpAny _ _ (exec (Stmt.For _ (Expr.Name _ _) _ _ _) _) _ _ _); (k_dflt (refine wpAny_For ?_))) | (k_end; wrow_close) | walk1 | (dsimp only; walk1) | (leave1; walk_say "STEP leave1"; try dsimp only) | fail "no step")
  rename_i it9 h9' F9 N9 l9
  obtain ⟨⟨N, NC⟩, NB, NT⟩ := hide
  have hF9 : (fun y => if y = Str.ofString "told" then some (Value.ref D) else m y) = m := hov
  rw [hF9] at F9
  have h9 := N9 (it9, _) (.head _)
  have hf : Fresh g L s.heap it9 := O.fresh l9
  have hn := hf.none h9.2.1 h9.2.2
  have a9 := O.agree F9 N9 (by intro p hp; k_ownIn) [] (by walk_at "Same9")
  have nit : ∀ {q : Addr × Obj} {S : List (Addr × Obj)}, News g L s.heap S → q ∈ S → q.1 ≠ it9 := fun NS hq => Nat.ne_of_lt (hf.news NS _ hq)
  have n81 : @Ne Nat (L+1+1+1+1) 32 ∧ @Ne Nat (L+1+1+1+1) 25 ∧ @Ne Nat (L+1) 32 ∧ @Ne Nat (L+1) 25 ∧ @Ne Nat (L+1+1+1+1+1) 32 ∧ @Ne Nat (L+1+1+1+1+1) 25 := ⟨neN (by omega), neN (by omega), neN (by omega), neN (by omega), neN (by omega), neN (by omega)⟩
  have ira : it9 ∉ r.adr := not_adr N hn
  obtain ⟨av, hav⟩ : ∃ av, av = it9 :: bd :: 32 :: 25 :: r.adr := ⟨_, rfl⟩
  refine for_list0 (vs := ys) (fun i h m1 => Agree (it9 :: L :: bd :: 32 :: 25 :: r.adr) s.heap h ∧ Keep [Str.ofString "word", Str.ofString "figures"] m m1 ∧
      (∃ pl pn', News g L h (lexNews r ln u1 sl n pl pn') ∧ StrsAre pl ((xs.take i).map wordW)) ∧
      (∃ ob' kvs, News g L h [(bd, ob')] ∧ ob'.IsDictOf (strKind PP w) kvs ∧ kvs.length ≤ i ∧ ∀ j x, j < i → xs[j]? = some x → BitsAt g L av h kvs (wordW x)) ∧
      ((i = 0 ∧ News g L h [(32, tabObj #[]), (25, tabObj #[])]) ∨ (0 < i ∧ ∃ cc c2, Tabs g L h cc c2 ∧ cc ∉ r.adr ∧ c2 ∉ r.adr ∧ @Ne Nat cc bd ∧ @Ne Nat c2 bd ∧ @Ne Nat cc it9 ∧ @Ne Nat c2 it9)))
    rfl (fun _ _ => rfl) (.head _) N9 ?stab ?hl ?turn ?done F9 ?J0
  case stab =>
    rintro i h h' m1 ⟨ja, jk, ⟨pl, pn', jN, jp⟩, ⟨ob', kvs, jB, jd, jl, jb⟩, jt⟩ ha
    refine ⟨agree_trans ja (agree_mono ha (by walk_at "Subs9")), jk, ⟨pl, pn', after_news jN ha fun q hq => not_mem1 fun e => ira (e ▸ lex_off hq), jp⟩, ⟨ob', kvs, after_news jB ha (off_cons (not_mem1 (nit NB (.head _))) (by simp)), jd, jl, fun j x hj hx => (jb j x hj hx).carry ha fun q hq => ?_⟩, ?_⟩
    · rw [List.mem_singleton.mp hq, hav]; exact .inr (.inl (.head _))
    · rcases jt with ⟨j0, jT⟩ | ⟨j0, cc, c2, jT, j1, j2, j3, j4, j5, j6⟩
      · exact .inl ⟨j0, after_news jT ha (off_cons (not_mem1 (nit NT (.head _))) (off_cons (not_mem1 (nit (q := (25, tabObj #[])) NT (by k_mem))) (by simp)))⟩
      · exact .inr ⟨j0, cc, c2, jT.carry ha (not_mem1 (nit (q := (32, tabObj #[])) NT (by k_mem))) (not_mem1 j5) (not_mem1 (nit (q := (25, tabObj #[])) NT (by k_mem))) (not_mem1 j6), j1, j2, j3, j4, j5, j6⟩
  case hl =>
    rintro i h m1 ⟨ja, _⟩
    have z := O.N (D, lst ys) (.head _)
    exact News.isList (h₀ := g) (L := L) (after_news (news := [(D, lst ys)]) O.N ja (off_cons (nin_cons (nit O.N (.head _)) (nin_cons z.2.1 (nin_cons q8 (nin_cons q9.1 (nin_cons q9.2 q7))))) (by simp))) (.head _)
  case J0 =>
    exact ⟨agree_mono a9 (by walk_at "Subs9"), Keep.refl, ⟨[], pn, after_L N a9, .nil⟩, ⟨ob, [], after_L NB a9, hd, Nat.le_refl _, fun j x hj => absurd hj (Nat.not_lt_zero j)⟩, .inl ⟨rfl, after_L NT a9⟩⟩
  case turn =>
    rintro i v m1 h tk oi hv ⟨ja, jk, ⟨pl, pn', jN, jp⟩, ⟨ob', kvs, jB, jd, jl, jb⟩, jt⟩ F1 g1 g2 g3
    obtain ⟨wx, t, rfl, hw⟩ := strs_at hy hv
    obtain ⟨x, hx, rfl⟩ : ∃ x, xs[i]? = some x ∧ wx = wordW x := by
      rw [List.getElem?_map] at hw
      cases e : xs[i]? with
      | none => rw [e] at hw; cases hw
      | some x => rw [e] at hw; exact ⟨x, rfl, (Option.some.inj hw).symm⟩
    have hi8 : i < xs.length := by
      obtain ⟨h1, _⟩ := List.getElem?_eq_some_iff.mp hx
      exact h1
    have jNC : News g L h [(L+1+1+1+1, oR), (L+1, oL), (L+1+1+1+1+1, oD)] := after_news NC ja
      (off_cons (nin_cons (nit (q := (L+1+1+1+1, oR)) NC (by k_mem)) (nin_cons (NC (L+1+1+1+1, oR) (by k_mem)).2.1 (nin_cons q10.1 (nin_cons n81.1 (nin_cons n81.2.1 q1)))))
      (off_cons (nin_cons (nit (q := (L+1, oL)) NC (by k_mem)) (nin_cons (NC (L+1, oL) (by k_mem)).2.1 (nin_cons q10.2.1 (nin_cons n81.2.2.1 (nin_cons n81.2.2.2.1 q2)))))
      (off_cons (nin_cons (nit (q := (L+1+1+1+1+1, oD)) NC (by k_mem)) (nin_cons (NC (L+1+1+1+1+1, oD) (by k_mem)).2.1 (nin_cons q10.2.2 (nin_cons n81.2.2.2.2.1 (nin_cons n81.2.2.2.2.2 q5))))) (by simp))))
    have hpl := jp.length
    simp only [List.length_map, List.length_take] at hpl
    have hmb1 := (jk (Str.ofString "bits") (by decide)).trans hmb
    have hEav : ∀ {E : Addr}, h.get? E = none → (∃ o, h.get? 32 = some o) → (∃ o, h.get? 25 = some o) → E ∉ av := fun {E} hE l1 l2 => by
      rw [hav]
      have nn : ∀ {a : Addr}, (∃ o, h.get? a = some o) → E ≠ a := fun ⟨o, ho⟩ e => by rw [← e, hE] at ho; cases ho
      exact nin_cons (nn ⟨_, g1⟩) (nin_cons (nn ⟨_, (jB _ (.head _)).1⟩) (nin_cons (nn l1) (nin_cons (nn l2) (not_adr jN hE))))
    have bits' : ∀ {S : List Addr} {h' : Heap} {E : Addr} {vs : List Value} {n' : Nat}, Agree S h h' → (∀ q ∈ S, q = L ∨ q ∈ av ∨ h.get? q = none) → News g L h' [(E, listOf vs.toArray n')] → IntsAre vs (bits4 (decW (wordW x))) → E ∉ av →
        ∀ j y, j < i + 1 → xs[j]? = some y → BitsAt g L av h' (stored kvs (wordW x) (.ref E)) (wordW y) := fun ha hS NE hI hE j y hj hy => by
      refine BitsAt.store ?_ NE hI hE
      by_cases e : j = i
      · subst e; rw [hx] at hy; exact .inl (by rw [Option.some.inj hy])
      · exact .inr ((jb j y (by omega) hy).carry ha hS)
    have itS : ∀ {S : List Addr}, S = L :: bd :: r.adr ∨ S = L :: bd :: 32 :: 25 :: r.adr → it9 ∉ S := fun hS => by
      have b1 : it9 ≠ bd := (nit NB (.head _)).symm
      have b2 : it9 ≠ 32 := (nit (q := (32, tabObj #[])) NT (by k_mem)).symm
      have b3 : it9 ≠ 25 := (nit (q := (25, tabObj #[])) NT (by k_mem)).symm
      rcases hS with rfl | rfl
      · exact nin_cons h9.2.1 (nin_cons b1 ira)
      · exact nin_cons h9.2.1 (nin_cons b1 (nin_cons b2 (nin_cons b3 ira)))
    rcases jt with ⟨j0, jT⟩ | ⟨j0, cc, c2, jT, j1, j2, j3, j4, j5, j6⟩
    · subst j0
      obtain ⟨xr, hxr⟩ := hx0
      have hx29 : x = 29 := by rw [hxr] at hx; exact (Option.some.inj hx).symm
      subst hx29
      refine b_turn0 bas2 hL F1 hmb1 ok jN (news_sub jNC ⟨by k_mem, by k_mem, trivial⟩) jB dR dL (by omega) jd (by omega) jT (news_sub jNC ⟨by k_mem, trivial⟩) q1 q2 q3 q4 q5 q6 fun h' tk' m' E vs n' ob2 cc c2 F' ha hk NL NB' hd' NE hI hE hT z1 z2 z3 z4 z5 => ?_
      have l32 : ∃ o, h.get? 32 = some o := ⟨_, (jT (32, _) (by k_mem)).1⟩
      have l25 : ∃ o, h.get? 25 = some o := ⟨_, (jT (25, _) (by k_mem)).1⟩
      have cit := z5 it9 oi g1 h9.2.1 h9.2.2
      refine TurnEnd.next F' (ha _ _ g1 (itS (.inr rfl))) rfl ⟨agree_trans ja (agree_mono ha fun q hq => .tail _ hq), jk.trans hk, ⟨_, _, NL, ?_⟩, ⟨ob2, _, NB', hd', Nat.le_trans (stored_length _ _ _) (by omega), bits' ha ?_ NE hI (hEav hE l32 l25)⟩, .inr ⟨Nat.succ_pos _, cc, c2, hT, z1, z2, z3, z4, ?_, ?_⟩⟩
      · rw [map_take_snoc wordW hx]; exact strs_snoc jp _ _
      · intro q hq
        rcases List.mem_cons.mp hq with e | hq
        · exact .inl e
        · exact .inr (.inl (by rw [hav]; exact .tail _ hq))
      · exact cit.1.symm
      · exact cit.2.symm
    · refine b_turn bas2 hL F1 hmb1 ok jN (news_sub jNC ⟨by k_mem, by k_mem, trivial⟩) jB dR dL (by omega) jd (by omega) jT q1 q2 q3 ⟨q4.1, q4.2, j1, j2⟩ fun h' tk' m' E vs n' ob2 F' ha hk NL NB' hd' NE hI hE => ?_
      have l32 : ∃ o, h.get? 32 = some o := by obtain ⟨_, _, _, _, _, _, _, _, _, NT', _⟩ := jT; exact ⟨_, (NT' (32, _) (by k_mem)).1⟩
      have l25 : ∃ o, h.get? 25 = some o := by obtain ⟨_, _, _, _, _, _, _, _, _, NT', _⟩ := jT; exact ⟨_, (NT' (25, _) (by k_mem)).1⟩
      have nT : ∀ {q : Addr}, q ≠ L → q ≠ bd → q ∉ r.adr → q ∉ L :: bd :: r.adr := fun a b c => nin_cons a (nin_cons b c)
      have zT := jT
      obtain ⟨_, _, _, oc, oc2, _, _, _, _, NT', _⟩ := zT
      refine TurnEnd.next F' (ha _ _ g1 (itS (.inl rfl))) rfl ⟨agree_trans ja (agree_mono ha ?_), jk.trans hk, ⟨_, _, NL, ?_⟩, ⟨ob2, _, NB', hd', Nat.le_trans (stored_length _ _ _) (by omega), bits' ha ?_ NE hI (hEav hE l32 l25)⟩,
        .inr ⟨Nat.succ_pos _, cc, c2, jT.carry ha (nT (NT' (32, _) (by k_mem)).2.1 q6.1 q4.1) (nT (NT' (cc, oc) (by k_mem)).2.1 j3 j1) (nT (NT' (25, _) (by k_mem)).2.1 q6.2 q4.2) (nT (NT' (c2, oc2) (by k_mem)).2.1 j4 j2), j1, j2, j3, j4, j5, j6⟩⟩
      · intro q hq
        simp only [List.mem_cons] at hq ⊢
        rcases hq with e | e | hq
        · exact .inr (.inl e)
        · exact .inr (.inr (.inl e))
        · exact .inr (.inr (.inr (.inr (.inr hq))))
      · rw [map_take_snoc wordW hx]; exact strs_snoc jp _ _
      · intro q hq
        rcases List.mem_cons.mp hq with e | hq
        · exact .inl e
        · rcases List.mem_cons.mp hq with e | hq
          · exact .inr (.inl (by rw [hav, e]; exact .tail _ (.head _)))
          · exact .inr (.inl (by rw [hav]; exact .tail _ (.tail _ (.tail _ (.tail _ hq)))))
  case done =>
    rintro m1 h tk ⟨ja, jk, ⟨pl, pn', jN, jp⟩, ⟨ob', kvs, jB, jd, jl, jb⟩, jt⟩ F1
    obtain ⟨xr, hxr⟩ := hx0
    rcases jt with ⟨j0, _⟩ | ⟨j0, cc, c2, jT, j1, j2, j3, j4, j5, j6⟩
    · rw [hyl, hxr] at j0; cases j0
    rw [List.take_of_length_le (by omega)] at jp
    refine k _ _ _ ob' kvs pl pn' cc c2 F1 (agree_fresh ja hn) jk jN jp jB jd (fun x hx => ?_) jT j1 j2 j3 j4
    obtain ⟨j, hj, e⟩ := List.getElem_of_mem hx
    exact (jb j x (by omega) (by rw [List.getElem?_eq_getElem hj, e])).mono (by rw [hav]; intro q hq; exact .tail _ hq)
end Mine
end

section
open PySem PySem.W PyProof.Rows
namespace Mine
theorem anew50 : True ∧ True := by
  walk1
  w_top off
  all_goals exact True.intro
end Mine
end

section
open PySem PySem.W PySem.Calls PyProof.Rows PyProof.Rows.LCg
set_option maxRecDepth 100000
set_option maxHeartbeats 1000000
namespace Mine

/-- the second lexer's fixed data -/
structure Sd where
  (x dx pb st : Addr)
  (h1 h2 h3 h4 : Int)
  (t1 t2 t3 t4 u1 u3 : Tok)
structure Sd.Ok (r : Sd) : Prop where
  o1 : @LT.lt Nat _ r.dx r.x
  o2 : @LT.lt Nat _ r.x r.pb
noncomputable abbrev sidNews (r : Sd) (pl : List Value) (pn : Nat) : List (Addr × Obj) :=
  [(r.pb, listOf pl.toArray pn), (r.x, instObj 75 r.dx),
   (r.dx, dictOf [⟨r.h1, .str "lineno" r.t1, .int 1 r.u1⟩, ⟨r.h2, .str "instream" r.t2, .ref r.st⟩, ⟨r.h3, .str "whitespace" r.t3, .str "\n\t\r " r.u3⟩, ⟨r.h4, .str "pushback" r.t4, .ref r.pb⟩] 4)]
noncomputable abbrev Sd.adr (r : Sd) : List Addr := [r.pb, r.x, r.dx]

theorem sid_push {w : World} {dp un : Nat} {gd : Option (List Code)} {fr : List Env} {h₀ : Heap} {L : Addr} {m : Str → Option Value} {s : Shared} {R : Result → Shared → Prop} {r : Sd} {pn : Nat} {y : Value} {pl : List Value}
    (C : Cx w (AA dp un gd fr) h₀ L m s.heap) (hA : dp ≤ 490) (hz : pl.length < 100000) (ok : r.Ok) (N : News h₀ L s.heap (sidNews r pl pn))
    (k : ∀ h' tk, Agree r.adr s.heap h' → News h₀ L h' (sidNews r (pl ++ [y]) (pn + 1)) → R (.ok (.ret .none)) { s with heap := h', toks := tk }) :
    codeAny (model PP w) (AA dp un gd fr) (.call (.ref 72) ⟨[.ref r.x, y], []⟩) R s := by
  have X₀ := C.kin
  have F₀ := C.fr
  obtain ⟨o1, o2⟩ := ok
  k_dflt (refine' enter (binds := [("self", .ref r.x), ("token", y)]) C N ?ho ?hcd ?hroom ?hb ?hl ?_ ?hc ?h1 ?h2 ?h3; (case ho => k_is); (case hcd => k_is); (case hroom => k_room); (case hb => exact BindsTo.of_eq rfl); (case hl => exact locs rfl); (case hc => decide); (case h1 => exact rfl); (case h2 => exact rfl); (case h3 => exact rfl))
  k_whole
  clear X₀ F₀
  intro base outer env L' h₁ p loose mean mg mb F' N' B' X' T' hlt
  have eF : some fr = some (env :: outer) := B'.stack
  injection eF with eF
  subst eF
  have hzz : pl.toArray.size ≤ sizeLine := by rw [sizeLine_eq]; simp; omega
  (try dsimp only); (try k_fold)
  repeat' (first | (k_unfold; (try dsimp only)) | ((with_reducible show wpAny _ _ (call (Value.builtin "list.pop") _) _ _ _); k_dflt (refine' pop_first ?zqF ?zqN ?zqU ?zqz ?_; (case zqF => k_asm); (case zqN => k_asm); (case zqU => k_upd); (case zqz => assumption)); (intro _ _ zN'; (try dsimp only [List.nil_append, List.cons_append] at zN'); (try k_sweep))) | ((with_reducible show wpAny _ _ (truthy (Value.ref _)) _ _ _); (k_dflt (first | (refine' truthy_cons ?zqk1 ?zqk2 ?_; (case zqk1 => exact News.isList (by k_asm) (by k_mem)); (case zqk2 => assumption); k_whole)))) | (k_end; wrow_close) | walk1 | (dsimp only; walk1) | (leave1; walk_say "STEP leave1"; try dsimp only) | fail "no step")
  refine ⟨_, _, _, by k_asm, by k_asm, fun hag hN => ?_⟩
  rw [List.push_toArray] at hN
  exact k _ _ hag hN

theorem sid_get {w : World} {dp un : Nat} {gd : Option (List Code)} {fr : List Env} {h₀ : Heap} {L : Addr} {m : Str → Option Value} {s : Shared} {R : Result → Shared → Prop} {r : Sd} {pn : Nat} {y : Value} {pl : List Value}
    (C : Cx w (AA dp un gd fr) h₀ L m s.heap) (hA : dp ≤ 490) (hz : pl.length < 100000) (ok : r.Ok) (N : News h₀ L s.heap (sidNews r (y :: pl) pn))
    (k : ∀ h' tk, Agree r.adr s.heap h' → News h₀ L h' (sidNews r pl (pn + 1)) → R (.ok (.ret y)) { s with heap := h', toks := tk }) :
    codeAny (model PP w) (AA dp un gd fr) (.call (.ref 65) ⟨[.ref r.x], []⟩) R s := by
  have X₀ := C.kin
  have F₀ := C.fr
  obtain ⟨o1, o2⟩ := ok
  k_dflt (refine' enter (binds := [("self", .ref r.x)]) C N ?ho ?hcd ?hroom ?hb ?hl ?_ ?hc ?h1 ?h2 ?h3; (case ho => k_is); (case hcd => k_is); (case hroom => k_room); (case hb => exact BindsTo.of_eq rfl); (case hl => exact locs rfl); (case hc => decide); (case h1 => exact rfl); (case h2 => exact rfl); (case h3 => exact rfl))
  k_whole
  clear X₀ F₀
  intro base outer env L' h₁ p loose mean mg mb F' N' B' X' T' hlt
  have eF : some fr = some (env :: outer) := B'.stack
  injection eF with eF
  subst eF
  (try dsimp only); (try k_fold)
  repeat' (first | (k_unfold; (try dsimp only)) | ((with_reducible show wpAny _ _ (call (Value.builtin "list.pop") _) _ _ _); k_dflt (refine' pop_first ?zqF ?zqN ?zqU ?zqz ?_; (case zqF => k_asm); (case zqN => k_asm); (case zqU => k_upd); (case zqz => assumption)); (intro _ _ zN'; (try dsimp only [List.nil_append, List.cons_append] at zN'); (try k_sweep))) | ((with_reducible show wpAny _ _ (truthy (Value.ref _)) _ _ _); (k_dflt (first | (refine' truthy_cons ?zqk1 ?zqk2 ?_; (case zqk1 => exact News.isList (by k_asm) (by k_mem)); (case zqk2 => assumption); k_whole)))) | (k_end; wrow_close) | walk1 | (dsimp only; walk1) | (leave1; walk_say "STEP leave1"; try dsimp only) | fail "no step")
  dsimp only
  refine ⟨_, _, _, by k_asm, by k_asm, fun hag hN => ?_⟩
  exact k _ _ hag hN

theorem ph15_end {g h : Heap} {L x dx pb st : Addr} {h1 h2 h3 h4 : Int} {t1 t2 t3 t4 u1 u3 : Tok} {own : List (Addr × Obj)} {P : Prop}
    (N : News g L h ((pb, listOf #[] 0) :: (x, instObj 75 dx) ::
      (dx, dictOf [⟨h1, .str "lineno" t1, .int 1 u1⟩, ⟨h2, .str "instream" t2, .ref st⟩, ⟨h3, .str "whitespace" t3, .str "\n\t\r " u3⟩, ⟨h4, .str "pushback" t4, .ref pb⟩] 4) :: own))
    (k : ∀ r : Sd, r.dx = dx → r.x = x → r.pb = pb → News g L h (sidNews r [] 0) → P) : P :=
  k ⟨x, dx, pb, st, h1, h2, h3, h4, t1, t2, t3, t4, u1, u3⟩ rfl rfl rfl fun q hq => N q (by
    simp only [sidNews, List.mem_cons, List.not_mem_nil, or_false] at hq
    rcases hq with rfl | rfl | rfl <;> k_mem)

theorem ph15 {w : World} {g : Heap} {L fa c0 c : Addr} {cd : Value} {s : Shared} {m : Str → Option Value} {Q : Flow → Shared → Prop} {oc oc0 : Obj} {vs vs0 : Array Value} {tq tq0 : Tok}
    (bas : Bas w g) (hL : @LT.lt Nat _ 81 L) (F : Fr g L s.heap m) (N : News g L s.heap [(c, oc), (c0, oc0), (81, tab81 c0 c)]) (o1 : @LT.lt Nat _ 81 c0) (o2 : @LT.lt Nat _ c0 c)
    (d1 : oc.data = .fields vs) (d2 : vs[1]? = some (.str strQual tq)) (e1 : oc0.data = .fields vs0) (e2 : vs0[1]? = some (.str strQual tq0))
    (k : ∀ h' tk m' (r : Sd) lv, Fr g L h' m' → Agree [L] s.heap h' → Keep [Str.ofString "siding", Str.ofString "levels"] m m' → m' (Str.ofString "siding") = some (.ref r.x) → m' (Str.ofString "levels") = some (.ref lv) → r.Ok → News g L h' (sidNews r [] 0) → News g L h' [(lv, listOf #[] 0)] →
      Fresh g L s.heap r.dx → @LT.lt Nat _ r.pb lv →
      wpAny (model PP w) (LA.deeper (lawEnv L fa cd)) (execs (lawRest 17) (lawEnv L fa cd)) Q (fun _ _ => False) { s with heap := h', toks := tk }) :
    wpAny (model PP w) (LA.deeper (lawEnv L fa cd)) (execs (lawRest 15) (lawEnv L fa cd)) Q (fun _ _ => False) s := by
  obtain ⟨h85, h36, h29, X, base, p, loose, mean, mg, mb, B, T⟩ := bas
  obtain ⟨own, O, N2, off⟩ := old_of F N
  simp only [List.cons_append, List.nil_append] at N2
  simp only [List.map_cons, List.map_nil] at off
  clear N
  refine step 15 (by decide) ?_
  conv in lawStm 15 => whnf
  repeat' ((fail_if_success (with_reducible show wpAny _ _ (call (Value.ref 86) _) _ _ _)); first | (k_unfold; (try dsimp only)) | ((with_reducible show wpAny _ _ (call (Value.builtin "list.pop") _) _ _ _); k_dflt (refine' pop_first ?zqF ?zqN ?zqU ?zqz ?_; (case zqF => k_asm); (case zqN => k_asm); (case zqU => k_upd); (case zqz => assumption)); (intro _ _ zN'; (try dsimp only [List.nil_append, List.cons_append] at zN'); (try k_sweep))) | ((with_reducible show wpAny _ _ (truthy (Value.ref _)) _ _ _); (k_dflt (first | (refine' truthy_cons ?zqk1 ?zqk2 ?_; (case zqk1 => exact News.isList (by k_asm) (by k_mem)); (case zqk2 => assumption); k_whole)))) | walk1 | (dsimp only; walk1))
  rename_i sg' h8 F8 N8 l8
  refine wpAny_call (stream_hit (sl := []) (n := 0) (c := c) (c0 := c0) (cx_of (env := lawEnv L fa cd) B F8 X T rfl rfl) (by decide) o1 o2 (ltN (by omega)) (news_sub N8 (by walk_at "Sub9")) d1 d2 e1 e2 fun h' tk st ha hN hsz => ?_)
  have hown : News g L h' own := after_news (S := [sg', c, c0, 81]) (fun q hq => N8 q (by k_ownIn)) ha (fun q hq hs => by
    simp only [List.mem_cons, List.not_mem_nil, or_false] at hs
    rcases hs with e | e | e | e
    · exact allLt_ne (by exact l8.2.2.2) q hq e
    · exact off q hq c (by k_mem) e
    · exact off q hq c0 (by k_mem) e
    · exact off q hq 81 (by k_mem) e)
  have F7 := after_fr F8 (news_sub N8 (rel := [(sg', listOf #[] 0), (c, oc), (c0, oc0), (81, tab81 c0 c)]) (by walk_at "Sub9")) ha
  have off7 : OwnOff own [sg', c, c0, 81] := fun q hq b hb => by
    simp only [List.mem_cons, List.not_mem_nil, or_false] at hb
    rcases hb with rfl | rfl | rfl | rfl
    · exact allLt_ne (by exact l8.2.2.2) q hq
    · exact off q hq _ (by k_mem)
    · exact off q hq _ (by k_mem)
    · exact off q hq _ (by k_mem)
  have N7 := news_app hN hown
  dsimp only [List.cons_append, List.nil_append] at N7
  clear F8 N8 hN hown
  dsimp only
  repeat' (first | (k_unfold; (try dsimp only)) | ((with_reducible show wpAny _ _ (call (Value.builtin "list.pop") _) _ _ _); k_dflt (refine' pop_first ?zqF ?zqN ?zqU ?zqz ?_; (case zqF => k_asm); (case zqN => k_asm); (case zqU => k_upd); (case zqz => assumption)); (intro _ _ zN'; (try dsimp only [List.nil_append, List.cons_append] at zN'); (try k_sweep))) | ((with_reducible show wpAny _ _ (truthy (Value.ref _)) _ _ _); (k_dflt (first | (refine' truthy_cons ?zqk1 ?zqk2 ?_; (case zqk1 => exact News.isList (by k_asm) (by k_mem)); (case zqk2 => assumption); k_whole)))) | (k_end; wrow_close) | walk1 | (dsimp only; walk1) | (leave1; walk_say "STEP leave1"; try dsimp only) | fail "no step")
  dsimp only [Behind]
  refine step 16 (by decide) ?_
  conv in lawStm 16 => whnf
  repeat' (first | (k_unfold; (try dsimp only)) | ((with_reducible show wpAny _ _ (call (Value.builtin "list.pop") _) _ _ _); k_dflt (refine' pop_first ?zqF ?zqN ?zqU ?zqz ?_; (case zqF => k_asm); (case zqN => k_asm); (case zqU => k_upd); (case zqz => assumption)); (intro _ _ zN'; (try dsimp only [List.nil_append, List.cons_append] at zN'); (try k_sweep))) | ((with_reducible show wpAny _ _ (truthy (Value.ref _)) _ _ _); (k_dflt (first | (refine' truthy_cons ?zqk1 ?zqk2 ?_; (case zqk1 => exact News.isList (by k_asm) (by k_mem)); (case zqk2 => assumption); k_whole)))) | (k_end; wrow_close) | walk1 | (dsimp only; walk1) | (leave1; walk_say "STEP leave1"; try dsimp only) | fail "no step")
  dsimp only [Behind]
  rename News _ _ _ _ => N9
  rename Fr _ _ _ _ => F9
  rename (sg' < _) ∧ _ => ld
  have a9 := O.agree F9 N9 (by intro p hp; k_ownIn) [] (by walk_at "Same9")
  refine ph15_end (fun q hq => N9 q (.tail _ hq)) fun r r1 r2 r3 n1 => ?_
  subst r1 r2 r3
  refine k _ _ _ r _ F9 a9 (Keep.set (Keep.set Keep.refl (by k_mem)) (by k_mem)) rfl rfl ⟨ltN (by omega), ltN (by omega)⟩ n1 (fun q hq => N9 q (by rw [List.mem_singleton.mp hq]; exact .head _)) (O.fresh ld.2) (ltN (by omega))
end Mine
end

section
open PySem PySem.W PyProof.Rows
namespace Mine
theorem anew51 : True ∧ True := by
  walk1
  w_top off
  all_goals exact True.intro
end Mine
end

section
open PySem PySem.W PySem.Calls PyProof.Rows PyProof.Rows.LCg
set_option maxRecDepth 100000
set_option maxHeartbeats 1000000
namespace Mine

theorem fr_back {g h : Heap} {L : Addr} {l : List (Str × Value)} {m : Str → Option Value} (e : ov l m = m) (F : Fr g L h (ov l m)) : Fr g L h m := by rw [← e]; exact F

noncomputable def levFor : Stmt := lawStm 17
noncomputable def pf1 : Stmt := (stBody levFor).getD 1 (.Pass ⟨0, 0, 0, 0⟩)
noncomputable def pf2 : Stmt := (stBody levFor).getD 2 (.Pass ⟨0, 0, 0, 0⟩)
noncomputable def lvS (i : Nat) : Stmt := (stBody pf1).getD i (.Pass ⟨0, 0, 0, 0⟩)

theorem lv_get {w : World} {g : Heap} {L fa : Addr} {cd : Value} {s : Shared} {m : Str → Option Value} {Q : Flow → Shared → Prop} {r : Rd} {oR : Obj} {ln : Int} {u1 : Tok} {sl pl : List Value} {n pn : Nat} {y : Value}
    (bas : Bas w g) (F : Fr g L s.heap m) (ok : r.Ok) (N : News g L s.heap (lexNews r ln u1 sl n (y :: pl) pn)) (NR : News g L s.heap [(L+1+1+1+1, oR)]) (dR : oR.data = .cell (some (.ref r.x))) (hpl : pl.length ≤ 1000)
    (k : ∀ h' tk, Fr g L h' (fun z => if z = Str.ofString "word" then some y else m z) → Agree (L :: r.adr) s.heap h' → News g L h' (lexNews r ln u1 sl n pl (pn + 1)) → Q .next { s with heap := h', toks := tk }) :
    wpAny (model PP w) (LA.deeper (lawEnv L fa cd)) (exec (lvS 0) (lawEnv L fa cd)) Q (fun _ _ => False) s := by
  obtain ⟨h85, h36, h29, X, base, p, loose, mean, mg, mb, B, T⟩ := bas
  have NA : News g L s.heap ((L+1+1+1+1, oR) :: lexNews r ln u1 sl n (y :: pl) pn) := news_app (a := [(L+1+1+1+1, oR)]) NR N
  have N9 : News g L s.heap (lexNews r ln u1 sl n (y :: pl) pn) ∧ True := ⟨N, trivial⟩
  dsimp only [lexNews] at NA
  clear N NR
  conv in lvS 0 => whnf
  repeat' ((fail_if_success (with_reducible show wpAny _ _ (call (Value.ref 65) _) _ _ _)); first | (k_unfold; (try dsimp only)) | walk1 | (dsimp only; walk1))
  try dsimp only [List.append_nil, List.cons_append, List.nil_append]
  refine wpAny_call (gt_push (cx_of (env := lawEnv L fa cd) B F X T rfl rfl) (by decide) (by omega) ok N9.1 fun h' tk hag hN => ?_)
  have F2 := after_fr F N9.1 hag
  clear F NA
  have hN9 : News g L h' (lexNews r ln u1 sl n pl (pn + 1)) ∧ True := ⟨hN, trivial⟩
  clear hN
  dsimp only
  refine wpAny_storeName_local (by rfl) F2.ns (fun h2 hn hs => ?_) rfl
  exact k h2 _ (F2.set hn hs) (agree_trans (agree_mono hag fun q hq => .tail _ hq) (agree_mono (agree_same (it := L) hs) fun q hq => by rw [List.mem_singleton.mp hq]; exact .head _)) (after_L hN9.1 (agree_same hs))

theorem lv_in {w : World} {g : Heap} {L fa bd : Addr} {cd : Value} {s : Shared} {m : Str → Option Value} {Q : Flow → Shared → Prop} {ob : Obj} {tw : Tok} {x : Str} {kvs : List (Str × Value)} {v : Value}
    (bas : Bas w g) (F : Fr g L s.heap m) (hmw : m (Str.ofString "word") = some (.str x tw)) (hmb : m (Str.ofString "bits") = some (.ref bd)) (N : News g L s.heap [(bd, ob)])
    (hd : ob.IsDictOf (strKind PP w) kvs) (hv : valueAt kvs x = some v) (lo : (bd == sysModules) = false)
    (k : ∀ tk, Q .next { s with toks := tk }) :
    wpAny (model PP w) (LA.deeper (lawEnv L fa cd)) (exec (lvS 1) (lawEnv L fa cd)) Q (fun _ _ => False) s := by
  obtain ⟨h85, h36, h29, X, base, p, loose, mean, mg, mb, B, T⟩ := bas
  have F2 := fr_ov [(Str.ofString "word", _), (Str.ofString "bits", _)] F (AtM.all ⟨hmw, hmb, trivial⟩)
  dsimp only [ov] at F2
  clear F
  conv in lvS 1 => whnf
  repeat' ((fail_if_success (with_reducible show wpAny _ _ (compareOp _ _ _) _ _ _)); first | (k_unfold; (try dsimp only)) | walk1 | (dsimp only; walk1))
  refine kdg_notin (knd := PySem.strKind PP w) N (.head _) hd lo (strKind_is _ _ _ _) true (by rw [hv]; rfl) ?_
  rw [Bool.not_true]
  k_steps
  exact k _

noncomputable def lvThen : List Stmt := stBody (lvS 2)
noncomputable def lvElse : List Stmt := elseOf (lvS 2)
noncomputable def thenS0 : Stmt := lvThen.getD 0 (.Pass ⟨0, 0, 0, 0⟩)
noncomputable def thenS1 : Stmt := lvThen.getD 1 (.Pass ⟨0, 0, 0, 0⟩)
noncomputable def elseS0 : Stmt := lvElse.getD 0 (.Pass ⟨0, 0, 0, 0⟩)
theorem lvThen_eq : lvThen = [thenS0, thenS1] := by kernel_rfl
theorem lvElse_eq : lvElse = [elseS0] := by kernel_rfl

theorem lv_app {w : World} {g : Heap} {L fa zl : Addr} {cd : Value} {s : Shared} {m : Str → Option Value} {Q : Flow → Shared → Prop} {i : Int} {tp : Tok} {zs : List Value} {nz : Nat}
    (bas : Bas w g) (F : Fr g L s.heap m) (hmz : m (Str.ofString "zeros") = some (.ref zl)) (hmp : m (Str.ofString "place") = some (.int i tp)) (N : News g L s.heap [(zl, listOf zs.toArray nz)]) (hz : zs.length ≤ 1000)
    (k : ∀ h' tk, Fr g L h' m → Agree [L, zl] s.heap h' → News g L h' [(zl, listOf (zs ++ [Value.int i tp]).toArray (nz + 1))] → Q .next { s with heap := h', toks := tk }) :
    wpAny (model PP w) (LA.deeper (lawEnv L fa cd)) (exec thenS0 (lawEnv L fa cd)) Q (fun _ _ => False) s := by
  obtain ⟨h85, h36, h29, X, base, p, loose, mean, mg, mb, B, T⟩ := bas
  obtain ⟨own, O, N2, off⟩ := old_of F N
  simp only [List.cons_append, List.nil_append] at N2
  simp only [List.map_cons, List.map_nil] at off
  have F2 := fr_ov [(Str.ofString "zeros", _), (Str.ofString "place", _)] F (AtM.all ⟨hmz, hmp, trivial⟩)
  have hov := ov_eq (m := m) (l := [(Str.ofString "zeros", .ref zl), (Str.ofString "place", .int i tp)]) (AtM.all ⟨hmz, hmp, trivial⟩)
  dsimp only [ov] at F2
  clear F N
  have hzz : zs.toArray.size ≤ sizeLine := by rw [sizeLine_eq]; simp; omega
  conv in thenS0 => whnf
  k_steps
  rename Fr _ _ _ _ => F9
  rename News _ _ _ _ => N9
  rw [List.push_toArray] at N9
  exact k _ _ (fr_back hov F9) (O.agree F9 N9 (by intro p hp; k_ownIn) [zl] (by walk_at "Same9")) (news_sub N9 (by walk_at "Sub9"))

theorem lv_pushR {w : World} {g : Heap} {L fa : Addr} {cd : Value} {s : Shared} {m : Str → Option Value} {Q : Flow → Shared → Prop} {r : Rd} {oR : Obj} {ln : Int} {u1 tw : Tok} {sl pl : List Value} {n pn : Nat} {x : Str}
    (bas : Bas w g) (F : Fr g L s.heap m) (hmw : m (Str.ofString "word") = some (.str x tw)) (ok : r.Ok) (N : News g L s.heap (lexNews r ln u1 sl n pl pn)) (NR : News g L s.heap [(L+1+1+1+1, oR)]) (dR : oR.data = .cell (some (.ref r.x))) (hpl : pl.length ≤ 1000)
    (o1 : (L+1+1+1+1) ∉ r.adr)
    (k : ∀ h' tk, Fr g L h' m → Agree (L :: r.adr) s.heap h' → News g L h' (lexNews r ln u1 sl n (pl ++ [.str x tw]) (pn + 1)) → Q .next { s with heap := h', toks := tk }) :
    wpAny (model PP w) (LA.deeper (lawEnv L fa cd)) (exec thenS1 (lawEnv L fa cd)) Q (fun _ _ => False) s := by
  obtain ⟨h85, h36, h29, X, base, p, loose, mean, mg, mb, B, T⟩ := bas
  have NA : News g L s.heap ((L+1+1+1+1, oR) :: lexNews r ln u1 sl n pl pn) := news_app (a := [(L+1+1+1+1, oR)]) NR N
  have F2 := fr_ov [(Str.ofString "word", _)] F (AtM.all ⟨hmw, trivial⟩)
  have hov := ov_eq (m := m) (l := [(Str.ofString "word", .str x tw)]) (AtM.all ⟨hmw, trivial⟩)
  dsimp only [ov] at F2
  have N9 : News g L s.heap (lexNews r ln u1 sl n pl pn) ∧ True := ⟨N, trivial⟩
  dsimp only [lexNews] at NA
  clear N NR F
  conv in thenS1 => whnf
  repeat' ((fail_if_success (with_reducible show wpAny _ _ (call (Value.ref 72) _) _ _ _)); first | (k_unfold; (try dsimp only)) | walk1 | (dsimp only; walk1))
  try dsimp only [List.append_nil, List.cons_append, List.nil_append]
  rw [show (fun y => if y = Str.ofString "word" then some (Value.str x tw) else m y) = m from hov] at F2
  refine wpAny_call (push_tok (cx_of (env := lawEnv L fa cd) B F2 X T rfl rfl) (by decide) (by omega) ok N9.1 fun h' tk hag hN => ?_)
  dsimp only
  exact k _ _ (after_fr F2 N9.1 hag) (agree_mono hag fun q hq => .tail _ hq) hN

/-- the test of a word's bit -/
theorem lv_if {w : World} {g : Heap} {L fa bd E : Addr} {cd : Value} {s : Shared} {m : Str → Option Value} {Q : Flow → Shared → Prop} {ob : Obj} {tw tl : Tok} {x : Str} {kvs : List (Str × Value)} {l : Nat} {vs : List Value} {n : Nat} {b0 b1 b2 b3 : Int}
    (bas : Bas w g) (F : Fr g L s.heap m) (hmw : m (Str.ofString "word") = some (.str x tw)) (hmb : m (Str.ofString "bits") = some (.ref bd)) (hml : m (Str.ofString "level") = some (.int (l : Nat) tl)) (hl : l < 4) (N : News g L s.heap [(bd, ob), (E, listOf vs.toArray n)])
    (hd : ob.IsDictOf (strKind PP w) kvs) (hv : valueAt kvs x = some (.ref E)) (hi : IntsAre vs [b0, b1, b2, b3])
    (k0 : ([b0, b1, b2, b3].getD l 0 = 0) → ∀ tk, wpAny (model PP w) (LA.deeper (lawEnv L fa cd)) (execs lvThen (lawEnv L fa cd)) Q (fun _ _ => False) { s with toks := tk })
    (k1 : ([b0, b1, b2, b3].getD l 0 ≠ 0) → ∀ tk, wpAny (model PP w) (LA.deeper (lawEnv L fa cd)) (execs lvElse (lawEnv L fa cd)) Q (fun _ _ => False) { s with toks := tk }) :
    wpAny (model PP w) (LA.deeper (lawEnv L fa cd)) (exec (lvS 2) (lawEnv L fa cd)) Q (fun _ _ => False) s := by
  obtain ⟨h85, h36, h29, X, base, p, loose, mean, mg, mb, B, T⟩ := bas
  obtain ⟨t0, t1, t2, t3, rfl⟩ := ints4 hi
  have F2 := fr_ov [(Str.ofString "word", _), (Str.ofString "bits", _), (Str.ofString "level", _)] F (AtM.all ⟨hmw, hmb, hml, trivial⟩)
  dsimp only [ov] at F2
  clear F
  conv at k0 in lvThen => whnf
  conv at k1 in lvElse => whnf
  conv in lvS 2 => whnf
  have hl4 : l = 0 ∨ l = 1 ∨ l = 2 ∨ l = 3 := by omega
  repeat' ((fail_if_success (with_reducible show wpAny _ _ (subscriptTail _ _ (Value.ref bd) _) _ _ _)); first | (k_unfold; (try dsimp only)) | walk1 | (dsimp only; walk1))
  refine kda_item (knd := PySem.strKind PP w) N (.head _) hd (strKind_is _ _ _ _) hv ?_
  rcases hl4 with rfl | rfl | rfl | rfl
  all_goals
    repeat' ((fail_if_success (with_reducible show (if _ then _ else _))); first | (k_unfold; (try dsimp only)) | walk1 | (dsimp only; walk1))
    split
    · rename_i hc; exact k0 (by simpa using hc) _
    · rename_i hc; exact k1 (by simpa using hc) _

theorem lv_pushS {w : World} {g : Heap} {L fa : Addr} {cd : Value} {s : Shared} {m : Str → Option Value} {Q : Flow → Shared → Prop} {r : Sd} {tw : Tok} {pl : List Value} {pn : Nat} {x : Str}
    (bas : Bas w g) (F : Fr g L s.heap m) (hmw : m (Str.ofString "word") = some (.str x tw)) (hms : m (Str.ofString "siding") = some (.ref r.x)) (ok : r.Ok) (N : News g L s.heap (sidNews r pl pn)) (hpl : pl.length ≤ 1000)
    (k : ∀ h' tk, Fr g L h' m → Agree (L :: r.adr) s.heap h' → News g L h' (sidNews r (pl ++ [Value.str x tw]) (pn + 1)) → Q .next { s with heap := h', toks := tk }) :
    wpAny (model PP w) (LA.deeper (lawEnv L fa cd)) (exec elseS0 (lawEnv L fa cd)) Q (fun _ _ => False) s := by
  obtain ⟨h85, h36, h29, X, base, p, loose, mean, mg, mb, B, T⟩ := bas
  have NA := N
  have F2 := fr_ov [(Str.ofString "word", _), (Str.ofString "siding", _)] F (AtM.all ⟨hmw, hms, trivial⟩)
  have hov := ov_eq (m := m) (l := [(Str.ofString "word", .str x tw), (Str.ofString "siding", .ref r.x)]) (AtM.all ⟨hmw, hms, trivial⟩)
  dsimp only [ov] at F2
  have N9 : News g L s.heap (sidNews r pl pn) ∧ True := ⟨N, trivial⟩
  dsimp only [sidNews] at NA
  clear N F
  conv in elseS0 => whnf
  repeat' ((fail_if_success (with_reducible show wpAny _ _ (call (Value.ref 72) _) _ _ _)); first | (k_unfold; (try dsimp only)) | walk1 | (dsimp only; walk1))
  try dsimp only [List.append_nil, List.cons_append, List.nil_append]
  have F3 : Fr g L s.heap m := by
    rw [← hov]
    exact F2
  refine wpAny_call (sid_push (cx_of (env := lawEnv L fa cd) B F3 X T rfl rfl) (by decide) (by omega) ok N9.1 fun h' tk hag hN => ?_)
  dsimp only
  exact k _ _ (after_fr F3 N9.1 hag) (agree_mono hag fun q hq => .tail _ hq) hN
end Mine
end

section
open PySem PySem.W PyProof.Rows
namespace Mine
theorem anew52 : True ∧ True := by
  walk1
  w_top off
  all_goals exact True.intro
end Mine
end

section
open PySem PySem.W PySem.Calls PyProof.Rows PyProof.Rows.LCg
set_option maxRecDepth 100000
set_option maxHeartbeats 1000000
namespace Mine
/-- is the word's bit zero? -/
noncomputable def zb (l : Nat) (x : Int) : Bool := (bits4 (valW x)).getD l 0 == 0
theorem pf1_body : stBody pf1 = [lvS 0, lvS 1, lvS 2] := by kernel_rfl
theorem pf1_target : forTarget pf1 = .Name (Str.ofString "place") (match forTarget pf1 with | .Name _ p => p | _ => ⟨0, 0, 0, 0⟩) := by kernel_rfl

theorem mem_of_out {q a : Addr} {S T : List Addr} (h : q ∉ a :: S) : q ≠ a ∧ q ∉ S := ⟨fun e => h (e ▸ .head _), fun e => h (.tail _ e)⟩

theorem lv_turn {w : World} {g : Heap} {L fa bd zl : Addr} {cd : Value} {s : Shared} {m : Str → Option Value} {Q : Flow → Shared → Prop} {r : Rd} {q : Sd} {oR ob : Obj} {ln : Int} {u1 tw tp tl : Tok} {sl pl spl zs : List Value} {n pn spn nz l : Nat} {x i : Int} {kvs : List (Str × Value)} {av : List Addr}
    (bas : Bas w g) (F : Fr g L s.heap m) (hmb : m (Str.ofString "bits") = some (.ref bd)) (hml : m (Str.ofString "level") = some (.int (l : Nat) tl)) (hms : m (Str.ofString "siding") = some (.ref q.x)) (hmz : m (Str.ofString "zeros") = some (.ref zl)) (hl : l < 4)
    (ok : r.Ok) (qk : q.Ok) (N : News g L s.heap (lexNews r ln u1 sl n (.str (wordW x) tw :: pl) pn)) (NR : News g L s.heap [(L+1+1+1+1, oR)]) (NB : News g L s.heap [(bd, ob)]) (NS : News g L s.heap (sidNews q spl spn)) (NZ : News g L s.heap [(zl, listOf zs.toArray nz)])
    (dR : oR.data = .cell (some (.ref r.x))) (hpl : pl.length ≤ 100) (hspl : spl.length ≤ 100) (hzs : zs.length ≤ 100) (hd : ob.IsDictOf (strKind PP w) kvs) (lo : (bd == sysModules) = false) (hb : BitsAt g L av s.heap kvs (wordW x)) (hav : ∀ a ∈ r.adr, a ∈ av)
    (x1 : (L+1+1+1+1) ∉ r.adr) (x2 : bd ∉ r.adr) (x3 : ∀ a ∈ q.adr, a ∉ r.adr) (x4 : zl ∉ r.adr) (x5 : zl ∉ q.adr) (x6 : (L+1+1+1+1) ≠ zl)
    (k0 : zb l x = true → ∀ h' tk m', Fr g L h' m' → Agree (L :: zl :: r.adr) s.heap h' → Keep [Str.ofString "place", Str.ofString "word"] m m' → News g L h' (lexNews r ln u1 sl n (pl ++ [.str (wordW x) tw]) (pn + 1 + 1)) → News g L h' [(zl, listOf (zs ++ [Value.int i tp]).toArray (nz + 1))] → Q .next { s with heap := h', toks := tk })
    (k1 : zb l x = false → ∀ h' tk m', Fr g L h' m' → Agree (L :: (q.adr ++ r.adr)) s.heap h' → Keep [Str.ofString "place", Str.ofString "word"] m m' → News g L h' (lexNews r ln u1 sl n pl (pn + 1)) → News g L h' (sidNews q (spl ++ [.str (wordW x) tw]) (spn + 1)) → Q .next { s with heap := h', toks := tk }) :
    wpAny (model PP w) (LA.deeper (lawEnv L fa cd)) (assign (forTarget pf1) (lawEnv L fa cd) (.int i tp)) (fun _ s₂ => wpAny (model PP w) (LA.deeper (lawEnv L fa cd)) (execs (stBody pf1) (lawEnv L fa cd)) Q (fun _ _ => False) s₂) (fun _ _ => False) s := by
  rw [pf1_target, pf1_body]
  refine assign_word F (by rfl) fun h1 tk1 F1 a1 => ?_
  refine step_gen (lv_get bas F1 ok (after_L N a1) (after_L NR a1) dR (by omega) fun h2 tk2 F2 a2 N2 => ?_)
  have aN : Agree (L :: r.adr) s.heap h2 := agree_trans (agree_mono a1 (fun q hq => by rw [List.mem_singleton.mp hq]; exact .head _)) a2
  have NR2 := after_news NR aN (off_cons (nin_cons (NR _ (.head _)).2.1 x1) (by simp))
  have NB2 := after_news NB aN (off_cons (nin_cons (NB _ (.head _)).2.1 x2) (by simp))
  have NZ2 := after_news NZ aN (off_cons (nin_cons (NZ _ (.head _)).2.1 x4) (by simp))
  have NS2 := after_news NS aN fun p hp => nin_cons (NS p hp).2.1 (x3 p.1 (List.mem_map_of_mem (f := fun p : Addr × Obj => p.1) hp))
  obtain ⟨E, vs, ne, b1, b2, b3, b4⟩ := hb.carry aN (fun q hq => by
    rcases List.mem_cons.mp hq with e | e
    · exact .inl e
    · exact .inr (.inl (hav _ e)))
  have vb := valW_bound x
  rw [dec_wordW, (bits4_eq _ vb.1 vb.2).1] at b3
  dsimp only [Behind]
  have hw2 : (fun z => if z = Str.ofString "word" then some (Value.str (wordW x) tw) else (fun y => if y = Str.ofString "place" then some (Value.int i tp) else m y) z) (Str.ofString "word") = some (.str (wordW x) tw) := if_pos rfl
  have other : ∀ {z : Str}, z ≠ Str.ofString "word" → z ≠ Str.ofString "place" → (fun z => if z = Str.ofString "word" then some (Value.str (wordW x) tw) else (fun y => if y = Str.ofString "place" then some (Value.int i tp) else m y) z) z = m z := fun h1 h2 => by
    dsimp only
    rw [if_neg h1, if_neg h2]
  have hp2 : (fun z => if z = Str.ofString "word" then some (Value.str (wordW x) tw) else (fun y => if y = Str.ofString "place" then some (Value.int i tp) else m y) z) (Str.ofString "place") = some (.int i tp) := rfl
  have kk : Keep [Str.ofString "place", Str.ofString "word"] m (fun z => if z = Str.ofString "word" then some (Value.str (wordW x) tw) else (fun y => if y = Str.ofString "place" then some (Value.int i tp) else m y) z) := Keep.set (Keep.set Keep.refl (by k_mem)) (by k_mem)
  generalize hm2 : (fun z => if z = Str.ofString "word" then some (Value.str (wordW x) tw) else (fun y => if y = Str.ofString "place" then some (Value.int i tp) else m y) z) = m2 at F2 hw2 other hp2 kk
  have mb2 := (other (z := Str.ofString "bits") (by decide) (by decide)).trans hmb
  refine step_gen (lv_in bas F2 hw2 mb2 NB2 hd b1 lo fun tk3 => ?_)
  dsimp only [Behind]
  refine step_gen (lv_if bas F2 hw2 mb2 ((other (by decide) (by decide)).trans hml) hl (news_app NB2 b2) hd b1 b3 (fun hz tk4 => ?_) (fun hz tk4 => ?_))
  · have hz' : zb l x = true := by unfold zb; rw [(bits4_eq _ vb.1 vb.2).1, hz]; rfl
    rw [lvThen_eq]
    refine step_gen (lv_app bas F2 ((other (by decide) (by decide)).trans hmz) hp2 NZ2 (by omega) fun h5 tk5 F5 a5 NZ5 => ?_)
    dsimp only [Behind]
    have N5 := after_news N2 a5 fun p hp => by
      have z1 : p.1 ≠ zl := fun e => x4 (e ▸ lex_off hp)
      exact nin_cons (N2 p hp).2.1 (not_mem1 z1)
    have NR5 := after_news NR2 a5 (off_cons (nin_cons (NR _ (.head _)).2.1 (not_mem1 x6)) (by simp))
    refine step_gen (lv_pushR bas F5 hw2 ok N5 NR5 dR (by omega) x1 fun h6 tk6 F6 a6 N6 => ?_)
    dsimp only [Behind]
    refine wpAny_execs_nil ?_
    dsimp only [Behind]
    refine wpAny_execs_nil ?_
    refine k0 hz' _ _ _ F6 (agree_trans (agree_trans (agree_mono aN ?_) (agree_mono a5 ?_)) (agree_mono a6 ?_)) kk N6 (after_news NZ5 a6 (off_cons (nin_cons (NZ _ (.head _)).2.1 x4) (by simp)))
    · intro q hq
      rcases List.mem_cons.mp hq with e | e
      · exact e ▸ .head _
      · exact .tail _ (.tail _ e)
    · intro q hq
      rcases List.mem_cons.mp hq with e | e
      · exact e ▸ .head _
      · rw [List.mem_singleton.mp e]; exact .tail _ (.head _)
    · intro q hq
      rcases List.mem_cons.mp hq with e | e
      · exact e ▸ .head _
      · exact .tail _ (.tail _ e)
  · have hz' : zb l x = false := by
      unfold zb; rw [(bits4_eq _ vb.1 vb.2).1]
      exact beq_eq_false_iff_ne.mpr hz
    rw [lvElse_eq]
    refine step_gen (lv_pushS bas F2 hw2 ((other (by decide) (by decide)).trans hms) qk NS2 (by omega) fun h5 tk5 F5 a5 NS5 => ?_)
    dsimp only [Behind]
    refine wpAny_execs_nil ?_
    dsimp only [Behind]
    refine wpAny_execs_nil ?_
    refine k1 hz' _ _ _ F5 (agree_trans (agree_mono aN ?_) (agree_mono a5 ?_)) kk (after_news N2 a5 fun p hp => nin_cons (N2 p hp).2.1 fun hq => x3 p.1 hq (lex_off hp)) NS5
    · intro q hq
      rcases List.mem_cons.mp hq with e | e
      · exact e ▸ .head _
      · exact .tail _ (List.mem_append_right _ e)
    · intro q hq
      rcases List.mem_cons.mp hq with e | e
      · exact e ▸ .head _
      · exact .tail _ (List.mem_append_left _ e)
end Mine
end

section
open PySem PySem.W PyProof.Rows
namespace Mine
theorem anew53 : True ∧ True := by
  walk1
  w_top off
  all_goals exact True.intro
end Mine
end

section
open PySem PySem.W PySem.Calls PyProof.Rows PyProof.Rows.LCg
set_option maxRecDepth 100000
set_option maxHeartbeats 1000000
namespace Mine

/-- the places, ahead of i, of the words whose bit is zero -/
noncomputable def zplaces (l : Nat) (row : List Int) (i : Nat) : List Int := ((List.range i).filter fun p => zb l (row.getD p 0)).map fun p : Nat => (p : Int)
theorem zplaces_succ (l : Nat) (row : List Int) (i : Nat) : zplaces l row (i + 1) = if zb l (row.getD i 0) then zplaces l row i ++ [(i : Int)] else zplaces l row i := by
  unfold zplaces
  rw [List.range_succ, List.filter_append, List.map_append]
  by_cases h : zb l (row.getD i 0) = true
  · rw [if_pos h, List.filter_cons_of_pos (p := fun p => zb l (row.getD p 0)) h]; rfl
  · rw [if_neg h, List.filter_cons_of_neg (p := fun p => zb l (row.getD p 0)) h]; simp
theorem zplaces_len (l : Nat) (row : List Int) (i : Nat) : (zplaces l row i).length ≤ i := by
  unfold zplaces
  rw [List.length_map]
  exact Nat.le_trans (List.length_filter_le _ _) (by simp)

theorem lv_loop1 {w : World} {g : Heap} {L fa bd zl wa : Addr} {cd : Value} {s : Shared} {m : Str → Option Value} {Q : Flow → Shared → Prop} {r : Rd} {q : Sd} {oR oW ob : Obj} {ln : Int} {u1 tl : Tok} {sl pl wl : List Value} {n pn nw l : Nat} {row : List Int} {kvs : List (Str × Value)} {av : List Addr} {nz spn : Nat}
    (bas : Bas w g) (F : Fr g L s.heap m) (hmb : m (Str.ofString "bits") = some (.ref bd)) (hml : m (Str.ofString "level") = some (.int (l : Nat) tl)) (hms : m (Str.ofString "siding") = some (.ref q.x)) (hmz : m (Str.ofString "zeros") = some (.ref zl)) (hl : l < 4)
    (ok : r.Ok) (qk : q.Ok) (N : News g L s.heap (lexNews r ln u1 sl n pl pn)) (NR : News g L s.heap [(L+1+1+1+1, oR)]) (NB : News g L s.heap [(bd, ob)]) (NS : News g L s.heap (sidNews q [] spn)) (NZ : News g L s.heap [(zl, listOf #[] nz)]) (NW : News g L s.heap [(wa, listOf wl.toArray nw), (L+1+1, oW)])
    (dR : oR.data = .cell (some (.ref r.x))) (dW : oW.data = .cell (some (.ref wa))) (hwl : wl.length = row.length) (h8 : row.length ≤ 8) (hp : StrsAre pl (row.map wordW)) (hd : ob.IsDictOf (strKind PP w) kvs) (lo : (bd == sysModules) = false) (hb : ∀ x ∈ row, BitsAt g L av s.heap kvs (wordW x))
    (hav : ∀ a ∈ zl :: (q.adr ++ r.adr), a ∈ av)
    (x1 : (L+1+1+1+1) ∉ zl :: (q.adr ++ r.adr)) (x2 : bd ∉ zl :: (q.adr ++ r.adr)) (x3 : ∀ a ∈ q.adr, a ∉ r.adr) (x4 : zl ∉ r.adr) (x5 : zl ∉ q.adr)
    (k : ∀ h' tk m' pl' pn' spl' spn' zs' nz', Fr g L h' m' → Agree (L :: zl :: (q.adr ++ r.adr)) s.heap h' → Keep [Str.ofString "place", Str.ofString "word"] m m' → News g L h' (lexNews r ln u1 sl n pl' pn') → StrsAre pl' ((row.filter (zb l)).map wordW) →
      News g L h' (sidNews q spl' spn') → StrsAre spl' ((row.filter fun x => !zb l x).map wordW) → News g L h' [(zl, listOf (List.toArray zs') nz')] → IntsAre zs' (zplaces l row row.length) → Q .next { s with heap := h', toks := tk }) :
    wpAny (model PP w) (LA.deeper (lawEnv L fa cd)) (exec pf1 (lawEnv L fa cd)) Q (fun _ _ => False) s := by
  have bas2 := bas
  obtain ⟨h85, h36, h29, X, base, p, loose, mean, mg, mb, B, T⟩ := bas
  have NX : News g L s.heap [(wa, listOf wl.toArray nw), (L+1+1, oW)] := NW
  obtain ⟨own, O, N2, off⟩ := old_of F NX
  simp only [List.cons_append, List.nil_append] at N2
  simp only [List.map_cons, List.map_nil] at off
  have hide : (News g L s.heap (lexNews r ln u1 sl n pl pn) ∧ News g L s.heap [(L+1+1+1+1, oR)]) ∧ (News g L s.heap [(bd, ob)] ∧ News g L s.heap (sidNews q [] spn)) ∧ News g L s.heap [(zl, listOf #[] nz)] := ⟨⟨N, NR⟩, ⟨NB, NS⟩, NZ⟩
  clear N NR NB NS NZ NW NX
  conv in pf1 => whnf
  repeat' (first | (k_unfold; (try dsimp only)) | ((with_reducible show wpAny _ _ (call (Value.builtin "len") _) _ _ _); (k_dflt (refine len_any (News.isList (by k_asm) (by k_mem)) (by omega) ?_))) | ((with_reducible show wpAny _ _ (pyIter (Value.ref _)) _ _ _); k_dflt (refine' pyIter_rangeK ?zqF ?zqN ?zqr ?zqa ?zqb ?zqc ?_; (case zqF => k_asm); (case zqN => k_asm); (case zqr => k_mem); (case zqa => omega); (case zqb => omega); (case zqc => omega)); walk_at "In9") | ((with_reducible show wpAny _ _ (call (Value.type "range") _) _ _ _); k_dflt (first | (refine' range1K ?zqF ?zqN ?_; (case zqF => k_asm); (case zqN => k_asm)) | (refine' range2K ?zqF ?zqN ?_; (case zqF => k_asm); (case zqN => k_asm))); walk_at "In9") | ((with_reducible show wpAny _ _ (exec (Stmt.For _ (Expr.Call _ _ _ _) _ _ _) _) _ _ _); (k_dflt (refine wpAny_For ?_))) | (k_end; wrow_close) | walk1 | (dsimp only; walk1) | (leave1; walk_say "STEP leave1"; try dsimp only) | fail "no step")
  rename_i rg h7 tk7 t7 u7 v7 l7 it9 h9' F9 N9 l9
  obtain ⟨⟨N, NR⟩, ⟨NB, NS⟩, NZ⟩ := hide
  have h9 := N9 (it9, _) (.head _)
  have hf : Fresh g L s.heap it9 := O.fresh l9.2
  have hn := hf.none h9.2.1 h9.2.2
  have a9 := O.agree F9 N9 (by intro p hp; k_ownIn) [] (by walk_at "Same9")
  have nit : ∀ {p : Addr × Obj} {S : List (Addr × Obj)}, News g L s.heap S → p ∈ S → p.1 ≠ it9 := fun NS hq => Nat.ne_of_lt (hf.news NS _ hq)
  have irs : it9 ∉ zl :: (q.adr ++ r.adr) := by
    refine nin_cons (nit NZ (.head _)).symm fun hm => ?_
    rcases List.mem_append.mp hm with hm | hm
    · obtain ⟨p9, hp9, e9⟩ := List.mem_map.mp (show it9 ∈ (sidNews q [] spn).map (·.1) from hm)
      exact nit NS hp9 e9
    · exact not_adr N hn hm
  have sid_off : ∀ {p : Addr × Obj} {spl : List Value} {spn : Nat}, p ∈ sidNews q spl spn → p.1 ∈ q.adr := fun hp => List.mem_map_of_mem (f := fun p : Addr × Obj => p.1) hp
  rw [hwl] at N9
  refine for_range0 row.length (fun i h m1 => Agree (it9 :: L :: zl :: (q.adr ++ r.adr)) s.heap h ∧ Keep [Str.ofString "place", Str.ofString "word"] m m1 ∧
      (∃ pl' pn', News g L h (lexNews r ln u1 sl n pl' pn') ∧ StrsAre pl' ((row.drop i ++ (row.take i).filter (zb l)).map wordW)) ∧
      (∃ spl' spn', News g L h (sidNews q spl' spn') ∧ StrsAre spl' (((row.take i).filter fun x => !zb l x).map wordW)) ∧
      ∃ zs' nz', News g L h [(zl, listOf (List.toArray zs') nz')] ∧ IntsAre zs' (zplaces l row i))
    rfl (fun _ _ => rfl) (.head _) N9 (by omega) ?stab ?turn ?done F9 ?J0
  case stab =>
    rintro i h h' m1 ⟨ja, jk, ⟨pl', pn', jN, jp⟩, ⟨spl', spn', jS, js⟩, zs', nz', jZ, jz⟩ ha
    refine ⟨agree_trans ja (agree_mono ha (by walk_at "Subs9")), jk, ⟨pl', pn', after_news jN ha fun p hp => not_mem1 fun e => (irs (.tail _ (List.mem_append_right _ (e ▸ lex_off hp)))), jp⟩, ⟨spl', spn', after_news jS ha fun p hp => not_mem1 fun e => irs (.tail _ (List.mem_append_left _ (e ▸ sid_off hp))), js⟩, zs', nz', after_news jZ ha (off_cons (not_mem1 (nit NZ (.head _))) (by simp)), jz⟩
  case J0 =>
    exact ⟨agree_mono a9 (by walk_at "Subs9"), Keep.refl, ⟨pl, pn, after_L N a9, by simpa using hp⟩, ⟨[], spn, after_L NS a9, .nil⟩, [], nz, after_L NZ a9, .nil⟩
  case turn =>
    rintro i m1 h tk t hi ⟨ja, jk, ⟨pl', pn', jN, jp⟩, ⟨spl', spn', jS, js⟩, zs', nz', jZ, jz⟩ F1 hI
    rw [show (0 : Int) + (i : Int) = (i : Int) by omega]
    have hdr : row.drop i = row[i] :: row.drop (i + 1) := List.drop_eq_getElem_cons hi
    have hgd : row.getD i 0 = row[i] := by rw [List.getD_eq_getElem?_getD, List.getElem?_eq_getElem hi]; rfl
    have htk : row.take (i + 1) = row.take i ++ [row[i]] := by rw [List.take_add_one, List.getElem?_eq_getElem hi]; rfl
    rw [hdr, List.cons_append, List.map_cons] at jp
    have lf : ((row.take i).filter (zb l)).length ≤ 8 := Nat.le_trans (List.length_filter_le _ _) (by simp; omega)
    have lf2 : ((row.take i).filter fun x => !zb l x).length ≤ 8 := Nat.le_trans (List.length_filter_le _ _) (by simp; omega)
    have lz := zplaces_len l row i
    obtain ⟨tw, pl2, rfl, jp2⟩ : ∃ tw pl2, pl' = .str (wordW row[i]) tw :: pl2 ∧ StrsAre pl2 ((row.drop (i + 1) ++ (row.take i).filter (zb l)).map wordW) := by
      cases jp with
      | cons _ tw jp => exact ⟨tw, _, rfl, jp⟩
    have e1 := jp2.length
    have e2 := js.length
    have e3 := jz.length
    simp only [List.length_map, List.length_append, List.length_drop] at e1 e2
    have jR : News g L h [(L+1+1+1+1, oR)] := after_news NR ja (off_cons (nin_cons (nit NR (.head _)) (nin_cons (NR _ (.head _)).2.1 x1)) (by simp))
    have jB : News g L h [(bd, ob)] := after_news NB ja (off_cons (nin_cons (nit NB (.head _)) (nin_cons (NB _ (.head _)).2.1 x2)) (by simp))
    have jb : BitsAt g L av h kvs (wordW row[i]) := (hb _ (List.getElem_mem hi)).carry ja fun a ha => by
      rcases List.mem_cons.mp ha with e | ha
      · exact .inr (.inr (e ▸ hn))
      rcases List.mem_cons.mp ha with e | ha
      · exact .inl e
      · exact .inr (.inl (hav _ ha))
    have itS : ∀ {S : List Addr}, (∀ a ∈ S, a ∈ zl :: (q.adr ++ r.adr)) → it9 ∉ L :: S := fun hS => nin_cons h9.2.1 fun hm => irs (hS _ hm)
    have up : ∀ {S : List Addr} {h'}, (∀ a ∈ S, a ∈ zl :: (q.adr ++ r.adr)) → Agree (L :: S) h h' → Agree (it9 :: L :: zl :: (q.adr ++ r.adr)) s.heap h' := fun hS ha => agree_trans ja (agree_mono ha fun a hm => by
      rcases List.mem_cons.mp hm with e | hm
      · exact e ▸ .tail _ (.head _)
      · exact .tail _ (.tail _ (hS a hm)))
    have s1 : ∀ a ∈ zl :: r.adr, a ∈ zl :: (q.adr ++ r.adr) := fun a hm => by
      rcases List.mem_cons.mp hm with e | hm
      · exact e ▸ .head _
      · exact .tail _ (List.mem_append_right _ hm)
    have s2 : ∀ a ∈ q.adr ++ r.adr, a ∈ zl :: (q.adr ++ r.adr) := fun a hm => .tail _ hm
    refine lv_turn (av := av) bas2 F1 ((jk _ (by decide)).trans hmb) ((jk _ (by decide)).trans hml) ((jk _ (by decide)).trans hms) ((jk _ (by decide)).trans hmz) hl ok qk jN jR jB jS jZ dR (by omega) (by omega) (by omega) hd lo jb (fun a ha => hav a (s1 a (.tail _ ha)))
      (fun hm => x1 (s1 _ (.tail _ hm))) (fun hm => x2 (s1 _ (.tail _ hm))) x3 x4 x5 (fun e => x1 (e ▸ .head _)) (fun hz h' tk' m' F' ha hk NL NZ' => ?_) (fun hz h' tk' m' F' ha hk NL NS' => ?_)
    · refine TurnEnd.next F' (ha _ _ hI (itS s1)) rfl ⟨up s1 ha, jk.trans hk, ⟨_, _, NL, ?_⟩, ⟨spl', spn', after_news jS ha fun p hp => nin_cons (jS p hp).2.1 (nin_cons (fun e => x5 (e ▸ sid_off hp)) (x3 _ (sid_off hp))), ?_⟩, _, _, NZ', ?_⟩
      · have := strs_snoc jp2 (wordW row[i]) tw
        rw [htk, List.filter_append]
        simpa [hz] using this
      · rw [htk, List.filter_append]
        simpa [hz] using js
      · rw [zplaces_succ, hgd, if_pos hz]
        exact ints_snoc jz _ _
    · refine TurnEnd.next F' (ha _ _ hI (itS s2)) rfl ⟨up s2 ha, jk.trans hk, ⟨_, _, NL, ?_⟩, ⟨_, _, NS', ?_⟩, zs', nz', after_news jZ ha (off_cons (nin_cons (NZ _ (.head _)).2.1 fun hm => by
        rcases List.mem_append.mp hm with hm | hm
        · exact x5 hm
        · exact x4 hm) (by simp)), ?_⟩
      · rw [htk, List.filter_append]
        simpa [hz] using jp2
      · have := strs_snoc js (wordW row[i]) tw
        rw [htk, List.filter_append]
        simpa [hz] using this
      · rw [zplaces_succ, hgd, if_neg (by rw [hz]; exact Bool.false_ne_true)]
        exact jz
  case done =>
    rintro m1 h tk ⟨ja, jk, ⟨pl', pn', jN, jp⟩, ⟨spl', spn', jS, js⟩, zs', nz', jZ, jz⟩ F1
    rw [List.take_length] at jp js
    rw [List.drop_length, List.nil_append] at jp
    exact k _ _ _ pl' pn' spl' spn' zs' nz' F1 (agree_fresh ja hn) jk jN jp jS js jZ jz
end Mine
end

section
open PySem PySem.W PyProof.Rows
namespace Mine
theorem anew54 : True ∧ True := by
  walk1
  w_top off
  all_goals exact True.intro
end Mine
end

section
open PySem PySem.W PySem.Calls PyProof.Rows PyProof.Rows.LCg
set_option maxRecDepth 100000
set_option maxHeartbeats 1000000
namespace Mine


noncomputable def mvStm : Stmt := (stBody pf2).getD 0 (.Pass ⟨0, 0, 0, 0⟩)
theorem pf2_body : stBody pf2 = [mvStm] := by kernel_rfl
theorem pf2_target : forTarget pf2 = .Name (Str.ofString "place") (match forTarget pf2 with | .Name _ p => p | _ => ⟨0, 0, 0, 0⟩) := by kernel_rfl

theorem lv_move {w : World} {g : Heap} {L fa : Addr} {cd : Value} {s : Shared} {m : Str → Option Value} {Q : Flow → Shared → Prop} {r : Rd} {q : Sd} {oR : Obj} {ln : Int} {u1 : Tok} {sl pl spl : List Value} {n pn spn : Nat} {y : Value}
    (bas : Bas w g) (F : Fr g L s.heap m) (hms : m (Str.ofString "siding") = some (.ref q.x)) (ok : r.Ok) (qk : q.Ok) (N : News g L s.heap (lexNews r ln u1 sl n pl pn)) (NR : News g L s.heap [(L+1+1+1+1, oR)]) (NS : News g L s.heap (sidNews q (y :: spl) spn)) (dR : oR.data = .cell (some (.ref r.x)))
    (hpl : pl.length ≤ 1000) (hspl : spl.length ≤ 1000) (x1 : (L+1+1+1+1) ∉ q.adr) (x3 : ∀ a ∈ q.adr, a ∉ r.adr)
    (k : ∀ h' tk, Fr g L h' m → Agree (L :: (q.adr ++ r.adr)) s.heap h' → News g L h' (lexNews r ln u1 sl n (pl ++ [y]) (pn + 1)) → News g L h' (sidNews q spl (spn + 1)) → Q .next { s with heap := h', toks := tk }) :
    wpAny (model PP w) (LA.deeper (lawEnv L fa cd)) (exec mvStm (lawEnv L fa cd)) Q (fun _ _ => False) s := by
  obtain ⟨h85, h36, h29, X, base, p, loose, mean, mg, mb, B, T⟩ := bas
  have sid_off : ∀ {p : Addr × Obj} {spl : List Value} {spn : Nat}, p ∈ sidNews q spl spn → p.1 ∈ q.adr := fun hp => List.mem_map_of_mem (f := fun p : Addr × Obj => p.1) hp
  have NA : News g L s.heap ((L+1+1+1+1, oR) :: (lexNews r ln u1 sl n pl pn ++ sidNews q (y :: spl) spn)) := news_app (a := [(L+1+1+1+1, oR)]) NR (news_app N NS)
  have F2 := fr_ov [(Str.ofString "siding", _)] F (AtM.all ⟨hms, trivial⟩)
  have hov := ov_eq (m := m) (l := [(Str.ofString "siding", .ref q.x)]) (AtM.all ⟨hms, trivial⟩)
  dsimp only [ov] at F2
  have hide : News g L s.heap (lexNews r ln u1 sl n pl pn) ∧ News g L s.heap [(L+1+1+1+1, oR)] ∧ News g L s.heap (sidNews q (y :: spl) spn) := ⟨N, NR, NS⟩
  dsimp only [lexNews, sidNews, List.cons_append, List.nil_append] at NA
  clear N NR NS F
  conv in mvStm => whnf
  repeat' ((fail_if_success (with_reducible show wpAny _ _ (call (Value.ref 65) _) _ _ _)); first | (k_unfold; (try dsimp only)) | ((with_reducible show wpAny _ _ (call (Value.builtin "len") _) _ _ _); (k_dflt (refine len_any (News.isList (by k_asm) (by k_mem)) (by omega) ?_))) | ((with_reducible show wpAny _ _ (pyIter (Value.ref _)) _ _ _); k_dflt (refine' pyIter_rangeK ?zqF ?zqN ?zqr ?zqa ?zqb ?zqc ?_; (case zqF => k_asm); (case zqN => k_asm); (case zqr => k_mem); (case zqa => omega); (case zqb => omega); (case zqc => omega)); walk_at "In9") | ((with_reducible show wpAny _ _ (call (Value.type "range") _) _ _ _); k_dflt (first | (refine' range1K ?zqF ?zqN ?_; (case zqF => k_asm); (case zqN => k_asm)) | (refine' range2K ?zqF ?zqN ?_; (case zqF => k_asm); (case zqN => k_asm))); walk_at "In9") | ((with_reducible show wpAny _ _ (exec (Stmt.For _ (Expr.Call _ _ _ _) _ _ _) _) _ _ _); (k_dflt (refine wpAny_For ?_))) | walk1 | (dsimp only; walk1))
  try dsimp only [List.append_nil, List.cons_append, List.nil_append]
  refine wpAny_call (sid_get (cx_of (env := lawEnv L fa cd) B F2 X T rfl rfl) (by decide) (by omega) qk hide.2.2 fun h2 tk2 hag hN => ?_)
  have F3 := after_fr F2 hide.2.2 hag
  have hide2 : News g L h2 (lexNews r ln u1 sl n pl pn) ∧ News g L h2 (sidNews q spl (spn + 1)) := ⟨after_news hide.1 hag fun p hp hq => x3 p.1 hq (lex_off hp), hN⟩
  have NA2 : News g L h2 ((L+1+1+1+1, oR) :: lexNews r ln u1 sl n pl pn) := news_app (a := [(L+1+1+1+1, oR)]) (after_news hide.2.1 hag (off_cons x1 (by simp))) hide2.1
  dsimp only [lexNews] at NA2
  clear F2 NA hN
  dsimp only
  repeat' ((fail_if_success (with_reducible show wpAny _ _ (call (Value.ref 72) _) _ _ _)); first | (k_unfold; (try dsimp only)) | ((with_reducible show wpAny _ _ (call (Value.builtin "len") _) _ _ _); (k_dflt (refine len_any (News.isList (by k_asm) (by k_mem)) (by omega) ?_))) | ((with_reducible show wpAny _ _ (pyIter (Value.ref _)) _ _ _); k_dflt (refine' pyIter_rangeK ?zqF ?zqN ?zqr ?zqa ?zqb ?zqc ?_; (case zqF => k_asm); (case zqN => k_asm); (case zqr => k_mem); (case zqa => omega); (case zqb => omega); (case zqc => omega)); walk_at "In9") | ((with_reducible show wpAny _ _ (call (Value.type "range") _) _ _ _); k_dflt (first | (refine' range1K ?zqF ?zqN ?_; (case zqF => k_asm); (case zqN => k_asm)) | (refine' range2K ?zqF ?zqN ?_; (case zqF => k_asm); (case zqN => k_asm))); walk_at "In9") | ((with_reducible show wpAny _ _ (exec (Stmt.For _ (Expr.Call _ _ _ _) _ _ _) _) _ _ _); (k_dflt (refine wpAny_For ?_))) | walk1 | (dsimp only; walk1))
  try dsimp only [List.append_nil, List.cons_append, List.nil_append]
  refine wpAny_call (push_tok (cx_of (env := lawEnv L fa cd) B F3 X T rfl rfl) (by decide) (by omega) ok hide2.1 fun h3 tk3 hag3 hN3 => ?_)
  dsimp only
  refine k _ _ (fr_back hov (after_fr F3 hide2.1 hag3)) (agree_trans (agree_mono hag ?_) (agree_mono hag3 ?_)) hN3 (after_news hide2.2 hag3 fun p hp => x3 _ (sid_off hp))
  · exact fun a ha => .tail _ (List.mem_append_left _ ha)
  · exact fun a ha => .tail _ (List.mem_append_right _ ha)

theorem mv_turn {w : World} {L fa : Addr} {cd : Value} {g : Heap} {s : Shared} {m : Str → Option Value} {Q : Flow → Shared → Prop} {v : Value} (F : Fr g L s.heap m)
    (k : ∀ h' tk, Fr g L h' (fun y => if y = Str.ofString "place" then some v else m y) → Agree [L] s.heap h' → wpAny (model PP w) (LA.deeper (lawEnv L fa cd)) (exec mvStm (lawEnv L fa cd)) (fun f s' => f = .next ∧ Q .next s') (fun _ _ => False) { s with heap := h', toks := tk }) :
    wpAny (model PP w) (LA.deeper (lawEnv L fa cd)) (assign (forTarget pf2) (lawEnv L fa cd) v) (fun _ s₂ => wpAny (model PP w) (LA.deeper (lawEnv L fa cd)) (execs (stBody pf2) (lawEnv L fa cd)) Q (fun _ _ => False) s₂) (fun _ _ => False) s := by
  rw [pf2_target, pf2_body]
  refine assign_word F (by rfl) fun h1 tk1 F1 a1 => step_gen (wpAny_mono (k h1 tk1 F1 a1) (fun f s' hf => ?_) fun _ _ e => e)
  obtain ⟨rfl, hq⟩ := hf
  exact wpAny_execs_nil hq

theorem lv_loop2 {w : World} {g : Heap} {L fa zl wa : Addr} {cd : Value} {s : Shared} {m : Str → Option Value} {Q : Flow → Shared → Prop} {r : Rd} {q : Sd} {oR oW : Obj} {ln : Int} {u1 : Tok} {sl pl spl wl zs : List Value} {n pn nw nz spn : Nat} {A0 B0 : List Str}
    (bas : Bas w g) (F : Fr g L s.heap m) (hms : m (Str.ofString "siding") = some (.ref q.x)) (hmz : m (Str.ofString "zeros") = some (.ref zl))
    (ok : r.Ok) (qk : q.Ok) (N : News g L s.heap (lexNews r ln u1 sl n pl pn)) (NR : News g L s.heap [(L+1+1+1+1, oR)]) (NS : News g L s.heap (sidNews q spl spn)) (NW : News g L s.heap [(zl, listOf zs.toArray nz), (wa, listOf wl.toArray nw), (L+1+1, oW)])
    (dR : oR.data = .cell (some (.ref r.x))) (dW : oW.data = .cell (some (.ref wa))) (hwl : wl.length ≤ 8) (hp : StrsAre pl A0) (hs : StrsAre spl B0) (h8 : A0.length + B0.length ≤ 8) (hn : wl.length = zs.length + B0.length)
    (x1 : (L+1+1+1+1) ∉ q.adr ++ r.adr) (x3 : ∀ a ∈ q.adr, a ∉ r.adr)
    (k : ∀ h' tk m' pl' pn' spn', Fr g L h' m' → Agree (L :: (q.adr ++ r.adr)) s.heap h' → Keep [Str.ofString "place"] m m' → News g L h' (lexNews r ln u1 sl n pl' pn') → StrsAre pl' (A0 ++ B0) → News g L h' (sidNews q [] spn') → Q .next { s with heap := h', toks := tk }) :
    wpAny (model PP w) (LA.deeper (lawEnv L fa cd)) (exec pf2 (lawEnv L fa cd)) Q (fun _ _ => False) s := by
  have bas2 := bas
  obtain ⟨h85, h36, h29, X, base, p, loose, mean, mg, mb, B, T⟩ := bas
  have sid_off : ∀ {p : Addr × Obj} {spl : List Value} {spn : Nat}, p ∈ sidNews q spl spn → p.1 ∈ q.adr := fun hp => List.mem_map_of_mem (f := fun p : Addr × Obj => p.1) hp
  have NX : News g L s.heap [(zl, listOf zs.toArray nz), (wa, listOf wl.toArray nw), (L+1+1, oW)] := NW
  obtain ⟨own, O, N2, off⟩ := old_of F NX
  simp only [List.cons_append, List.nil_append] at N2
  simp only [List.map_cons, List.map_nil] at off
  have F2 := fr_ov [(Str.ofString "zeros", _)] F (AtM.all ⟨hmz, trivial⟩)
  have hov := ov_eq (m := m) (l := [(Str.ofString "zeros", .ref zl)]) (AtM.all ⟨hmz, trivial⟩)
  dsimp only [ov] at F2
  have hide : (News g L s.heap (lexNews r ln u1 sl n pl pn) ∧ News g L s.heap [(L+1+1+1+1, oR)]) ∧ News g L s.heap (sidNews q spl spn) := ⟨⟨N, NR⟩, NS⟩
  clear N NR NS NW NX F
  conv in pf2 => whnf
  repeat' (first | (k_unfold; (try dsimp only)) | ((with_reducible show wpAny _ _ (call (Value.builtin "len") _) _ _ _); (k_dflt (refine len_any (News.isList (by k_asm) (by k_mem)) (by omega) ?_))) | ((with_reducible show wpAny _ _ (pyIter (Value.ref _)) _ _ _); k_dflt (refine' pyIter_rangeK ?zqF ?zqN ?zqr ?zqa ?zqb ?zqc ?_; (case zqF => k_asm); (case zqN => k_asm); (case zqr => k_mem); (case zqa => omega); (case zqb => omega); (case zqc => omega)); walk_at "In9") | ((with_reducible show wpAny _ _ (call (Value.type "range") _) _ _ _); k_dflt (first | (refine' range1K ?zqF ?zqN ?_; (case zqF => k_asm); (case zqN => k_asm)) | (refine' range2K ?zqF ?zqN ?_; (case zqF => k_asm); (case zqN => k_asm))); walk_at "In9") | ((with_reducible show wpAny _ _ (exec (Stmt.For _ (Expr.Call _ _ _ _) _ _ _) _) _ _ _); (k_dflt (refine wpAny_For ?_))) | (k_end; wrow_close) | walk1 | (dsimp only; walk1) | (leave1; walk_say "STEP leave1"; try dsimp only) | fail "no step")
  rename_i rg h7 tk7 t7 u7 v7 l7 it9 h9' F9 N9 l9
  obtain ⟨⟨N, NR⟩, NS⟩ := hide
  have h9 := N9 (it9, _) (.head _)
  have hf : Fresh g L s.heap it9 := O.fresh l9.2
  have hnn := hf.none h9.2.1 h9.2.2
  have a9 := O.agree F9 N9 (by intro p hp; k_ownIn) [] (by walk_at "Same9")
  replace F9 := fr_back hov F9
  have nit : ∀ {p : Addr × Obj} {S : List (Addr × Obj)}, News g L s.heap S → p ∈ S → p.1 ≠ it9 := fun NS hq => Nat.ne_of_lt (hf.news NS _ hq)
  have irs : it9 ∉ q.adr ++ r.adr := fun hm => by
    rcases List.mem_append.mp hm with hm | hm
    · obtain ⟨p9, hp9, e9⟩ := List.mem_map.mp (show it9 ∈ (sidNews q spl spn).map (·.1) from hm)
      exact nit NS hp9 e9
    · exact not_adr N hnn hm
  have hpl := hp.length
  have hsl := hs.length
  refine for_range0 B0.length (fun i h m1 => Agree (it9 :: L :: (q.adr ++ r.adr)) s.heap h ∧ Keep [Str.ofString "place"] m m1 ∧
      (∃ pl' pn', News g L h (lexNews r ln u1 sl n pl' pn') ∧ StrsAre pl' (A0 ++ B0.take i)) ∧
      ∃ spl' spn', News g L h (sidNews q spl' spn') ∧ StrsAre spl' (B0.drop i))
    rfl (fun _ _ => rfl) (.head _) N9 (by omega) ?stab ?turn ?done F9 ?J0
  case stab =>
    rintro i h h' m1 ⟨ja, jk, ⟨pl', pn', jN, jp⟩, spl', spn', jS, js⟩ ha
    exact ⟨agree_trans ja (agree_mono ha (by walk_at "Subs9")), jk, ⟨pl', pn', after_news jN ha fun p hp => not_mem1 fun e => irs (List.mem_append_right _ (e ▸ lex_off hp)), jp⟩, spl', spn', after_news jS ha fun p hp => not_mem1 fun e => irs (List.mem_append_left _ (e ▸ sid_off hp)), js⟩
  case J0 =>
    exact ⟨agree_mono a9 (by walk_at "Subs9"), Keep.refl, ⟨pl, pn, after_L N a9, by simpa using hp⟩, spl, spn, after_L NS a9, hs⟩
  case turn =>
    rintro i m1 h tk t hi ⟨ja, jk, ⟨pl', pn', jN, jp⟩, spl', spn', jS, js⟩ F1 hI
    have hdr : B0.drop i = B0[i] :: B0.drop (i + 1) := List.drop_eq_getElem_cons hi
    have htk : B0.take (i + 1) = B0.take i ++ [B0[i]] := by rw [List.take_add_one, List.getElem?_eq_getElem hi]; rfl
    rw [hdr] at js
    obtain ⟨tw, pl2, rfl, js2⟩ : ∃ tw pl2, spl' = .str B0[i] tw :: pl2 ∧ StrsAre pl2 (B0.drop (i + 1)) := by
      cases js with
      | cons _ tw js => exact ⟨tw, _, rfl, js⟩
    have e1 := jp.length
    have e2 := js2.length
    simp only [List.length_append, List.length_drop, List.length_take] at e1 e2
    have jR : News g L h [(L+1+1+1+1, oR)] := after_news NR ja (off_cons (nin_cons (nit NR (.head _)) (nin_cons (NR _ (.head _)).2.1 x1)) (by simp))
    refine mv_turn F1 fun h2 tk2 F2 a2 => ?_
    refine (lv_move bas2 F2 ((if_neg (by decide)).trans ((jk _ (by decide)).trans hms)) ok qk (after_L jN a2) (after_L jR a2) (after_L jS a2) dR (by omega) (by omega) (fun hm => x1 (List.mem_append_left _ hm)) x3 fun h3 tk3 F3 a3 N3 S3 => ?_)
    refine ⟨rfl, ?_⟩
    have it2 : it9 ∉ L :: (q.adr ++ r.adr) := nin_cons h9.2.1 irs
    refine TurnEnd.next F3 (a3 _ _ (a2 _ _ hI (not_mem1 h9.2.1)) it2) rfl ⟨agree_trans (agree_trans ja (agree_mono a2 ?_)) (agree_mono a3 fun a ha => .tail _ ha), jk.trans (Keep.set Keep.refl (.head _)), ⟨_, _, N3, ?_⟩, _, _, S3, js2⟩
    · intro a ha; rw [List.mem_singleton.mp ha]; exact .tail _ (.head _)
    · rw [htk, ← List.append_assoc]
      exact strs_snoc jp _ _
  case done =>
    rintro m1 h tk ⟨ja, jk, ⟨pl', pn', jN, jp⟩, spl', spn', jS, js⟩ F1
    rw [List.take_length] at jp
    rw [List.drop_length] at js
    cases js
    exact k _ _ _ pl' pn' spn' F1 (agree_fresh ja hnn) jk jN jp jS
end Mine
end

section
open PySem PySem.W PyProof.Rows
namespace Mine
theorem anew55 : True ∧ True := by
  walk1
  w_top off
  all_goals exact True.intro
end Mine
end

section
open PySem PySem.W PySem.Calls PyProof.Rows PyProof.Rows.LCg
set_option maxRecDepth 100000
set_option maxHeartbeats 1000000
namespace Mine

noncomputable def levS (i : Nat) : Stmt := (stBody levFor).getD i (.Pass ⟨0, 0, 0, 0⟩)
theorem lev_body : stBody levFor = [levS 0, pf1, pf2, levS 3] := by kernel_rfl
theorem lev_target : forTarget levFor = .Name (Str.ofString "level") (match forTarget levFor with | .Name _ p => p | _ => ⟨0, 0, 0, 0⟩) := by kernel_rfl

theorem lev_zeros {w : World} {g : Heap} {L fa : Addr} {cd : Value} {s : Shared} {m : Str → Option Value} {Q : Flow → Shared → Prop} (bas : Bas w g) (F : Fr g L s.heap m)
    (k : ∀ h' tk zl, Fr g L h' (fun z => if z = Str.ofString "zeros" then some (.ref zl) else m z) → Agree [L] s.heap h' → News g L h' [(zl, listOf #[] 0)] → Fresh g L s.heap zl → Q .next { s with heap := h', toks := tk }) :
    wpAny (model PP w) (LA.deeper (lawEnv L fa cd)) (exec (levS 0) (lawEnv L fa cd)) Q (fun _ _ => False) s := by
  obtain ⟨h85, h36, h29, X, base, p, loose, mean, mg, mb, B, T⟩ := bas
  obtain ⟨own, O, N2, off⟩ := old_of F News.nil
  simp only [List.cons_append, List.nil_append] at N2
  conv in levS 0 => whnf
  k_steps
  rename_i zl h8 l8 h9 F9 N9
  exact k _ _ zl F9 (O.agree F9 N9 (by intro p hp; k_ownIn) [] (by walk_at "Same9")) (news_sub N9 (by walk_at "Sub9")) (O.fresh (allLt_of l8))

theorem lev_app {w : World} {g : Heap} {L fa zl lv : Addr} {cd : Value} {s : Shared} {m : Str → Option Value} {Q : Flow → Shared → Prop} {ls : List Value} {nl : Nat}
    (bas : Bas w g) (F : Fr g L s.heap m) (hmz : m (Str.ofString "zeros") = some (.ref zl)) (hml : m (Str.ofString "levels") = some (.ref lv)) (N : News g L s.heap [(lv, listOf ls.toArray nl)]) (hz : ls.length ≤ 1000)
    (k : ∀ h' tk, Fr g L h' m → Agree [L, lv] s.heap h' → News g L h' [(lv, listOf (ls ++ [Value.ref zl]).toArray (nl + 1))] → Q .next { s with heap := h', toks := tk }) :
    wpAny (model PP w) (LA.deeper (lawEnv L fa cd)) (exec (levS 3) (lawEnv L fa cd)) Q (fun _ _ => False) s := by
  obtain ⟨h85, h36, h29, X, base, p, loose, mean, mg, mb, B, T⟩ := bas
  obtain ⟨own, O, N2, off⟩ := old_of F N
  simp only [List.cons_append, List.nil_append] at N2
  simp only [List.map_cons, List.map_nil] at off
  have F2 := fr_ov [(Str.ofString "zeros", _), (Str.ofString "levels", _)] F (AtM.all ⟨hmz, hml, trivial⟩)
  have hov := ov_eq (m := m) (l := [(Str.ofString "zeros", .ref zl), (Str.ofString "levels", .ref lv)]) (AtM.all ⟨hmz, hml, trivial⟩)
  dsimp only [ov] at F2
  clear F N
  have hzz : ls.toArray.size ≤ sizeLine := by rw [sizeLine_eq]; simp; omega
  conv in levS 3 => whnf
  k_steps
  rename Fr _ _ _ _ => F9
  rename News _ _ _ _ => N9
  rw [List.push_toArray] at N9
  exact k _ _ (fr_back hov F9) (O.agree F9 N9 (by intro p hp; k_ownIn) [lv] (by walk_at "Same9")) (news_sub N9 (by walk_at "Sub9"))

theorem sid_off {q : Sd} {p : Addr × Obj} {spl : List Value} {spn : Nat} (hp : p ∈ sidNews q spl spn) : p.1 ∈ q.adr := List.mem_map_of_mem (f := fun p : Addr × Obj => p.1) hp
theorem sid_live {g h : Heap} {L a : Addr} {q : Sd} {spl : List Value} {spn : Nat} (N : News g L h (sidNews q spl spn)) (ha : a ∈ q.adr) : ∃ o, (a, o) ∈ sidNews q spl spn := by
  have _ := N
  obtain ⟨p, hp, e⟩ := List.mem_map.mp (show a ∈ (sidNews q spl spn).map (·.1) from ha)
  exact ⟨p.2, by rw [← e]; exact hp⟩
theorem lex_live {a : Addr} {r : Rd} {ln : Int} {u1 : Tok} {sl pl : List Value} {n pn : Nat} (ha : a ∈ r.adr) : ∃ o, (a, o) ∈ lexNews r ln u1 sl n pl pn := by
  obtain ⟨p, hp, e⟩ := List.mem_map.mp (show a ∈ (lexNews r ln u1 sl n pl pn).map (·.1) from ha)
  exact ⟨p.2, by rw [← e]; exact hp⟩
theorem fresh_off {g h : Heap} {L D : Addr} {q : Sd} {r : Rd} {ln : Int} {u1 : Tok} {sl pl spl : List Value} {n pn spn : Nat} (N : News g L h (lexNews r ln u1 sl n pl pn)) (NS : News g L h (sidNews q spl spn)) (hD : Fresh g L h D) : D ∉ q.adr ++ r.adr := fun hm => by
  rcases List.mem_append.mp hm with hm | hm
  · obtain ⟨o, ho⟩ := sid_live NS hm
    exact absurd (hD.news NS _ ho) (Nat.lt_irrefl _)
  · obtain ⟨o, ho⟩ := lex_live (ln := ln) (u1 := u1) (sl := sl) (pl := pl) (n := n) (pn := pn) hm
    exact absurd (hD.news N _ ho) (Nat.lt_irrefl _)

/-- a level's row: the words with the bit zero, then those with a one -/
noncomputable def stepRow (l : Nat) (row : List Int) : List Int := row.filter (zb l) ++ row.filter fun x => !zb l x
theorem filter_len (f : Int → Bool) (row : List Int) : (row.filter f).length + (row.filter fun x => !f x).length = row.length := by
  induction row with
  | nil => rfl
  | cons x r ih =>
    cases h : f x
    · rw [List.filter_cons_of_neg (by simp [h]), List.filter_cons_of_pos (by simp [h])]; simp only [List.length_cons]; omega
    · rw [List.filter_cons_of_pos h, List.filter_cons_of_neg (by simp [h])]; simp only [List.length_cons]; omega
theorem stepRow_len (l : Nat) (row : List Int) : (stepRow l row).length = row.length := by
  unfold stepRow; rw [List.length_append]; exact filter_len _ _
theorem take_filter_len (l : Nat) (row : List Int) : ∀ i, i ≤ row.length → (zplaces l row i).length = ((row.take i).filter (zb l)).length
  | 0, _ => by simp [zplaces]
  | i + 1, h => by
    have hg : row.getD i 0 = row[i] := by rw [List.getD_eq_getElem?_getD, List.getElem?_eq_getElem (by omega)]; rfl
    rw [zplaces_succ, hg, List.take_add_one, List.getElem?_eq_getElem (by omega), List.filter_append]
    have ih := take_filter_len l row i (by omega)
    by_cases hz : zb l row[i] = true
    · simp [hz, ih]
    · simp [hz, ih]
theorem zplaces_count (l : Nat) (row : List Int) : (zplaces l row row.length).length = (row.filter (zb l)).length := by
  rw [take_filter_len l row _ (Nat.le_refl _), List.take_length]

theorem lev_turn {w : World} {g : Heap} {L fa bd lv wa : Addr} {cd : Value} {s : Shared} {m : Str → Option Value} {Q : Flow → Shared → Prop} {r : Rd} {q : Sd} {oR oW ob : Obj} {ln : Int} {u1 tl : Tok} {sl pl wl ls : List Value} {n pn nw l nl : Nat} {row : List Int} {kvs : List (Str × Value)} {av : List Addr} {spn : Nat}
    (bas : Bas w g) (F : Fr g L s.heap m) (hmb : m (Str.ofString "bits") = some (.ref bd)) (hms : m (Str.ofString "siding") = some (.ref q.x)) (hmv : m (Str.ofString "levels") = some (.ref lv)) (hl : l < 4)
    (ok : r.Ok) (qk : q.Ok) (N : News g L s.heap (lexNews r ln u1 sl n pl pn)) (NR : News g L s.heap [(L+1+1+1+1, oR)]) (NB : News g L s.heap [(bd, ob)]) (NS : News g L s.heap (sidNews q [] spn)) (NV : News g L s.heap [(lv, listOf ls.toArray nl)]) (NW : News g L s.heap [(wa, listOf wl.toArray nw), (L+1+1, oW)])
    (dR : oR.data = .cell (some (.ref r.x))) (dW : oW.data = .cell (some (.ref wa))) (hwl : wl.length = row.length) (h8 : row.length ≤ 8) (hp : StrsAre pl (row.map wordW)) (hd : ob.IsDictOf (strKind PP w) kvs) (lo : (bd == sysModules) = false) (hb : ∀ x ∈ row, BitsAt g L av s.heap kvs (wordW x)) (hls : ls.length ≤ 100)
    (hav : ∀ a ∈ lv :: (q.adr ++ r.adr), a ∈ av)
    (x1 : (L+1+1+1+1) ∉ q.adr ++ r.adr) (x2 : bd ∉ q.adr ++ r.adr) (x3 : ∀ a ∈ q.adr, a ∉ r.adr) (x4 : lv ∉ q.adr ++ r.adr) (x5 : wa ∉ q.adr ++ r.adr) (x6 : (L+1+1) ∉ q.adr ++ r.adr)
    (k : ∀ h' tk m' pl' pn' spn' zl zs' nz' nl', Fr g L h' m' → Agree (L :: lv :: (q.adr ++ r.adr)) s.heap h' → Keep [Str.ofString "level", Str.ofString "zeros", Str.ofString "place", Str.ofString "word"] m m' → News g L h' (lexNews r ln u1 sl n pl' pn') → StrsAre pl' ((stepRow l row).map wordW) →
      News g L h' (sidNews q [] spn') → News g L h' [(lv, listOf (ls ++ [Value.ref zl]).toArray nl')] → News g L h' [(zl, listOf (List.toArray zs') nz')] → IntsAre zs' (zplaces l row row.length) → Fresh g L s.heap zl → Q .next { s with heap := h', toks := tk }) :
    wpAny (model PP w) (LA.deeper (lawEnv L fa cd)) (assign (forTarget levFor) (lawEnv L fa cd) (.int (l : Nat) tl)) (fun _ s₂ => wpAny (model PP w) (LA.deeper (lawEnv L fa cd)) (execs (stBody levFor) (lawEnv L fa cd)) Q (fun _ _ => False) s₂) (fun _ _ => False) s := by
  rw [lev_target, lev_body]
  refine assign_word F (by rfl) fun h1 tk1 F1 a1 => ?_
  refine step_gen (lev_zeros bas F1 fun h2 tk2 zl F2 a2 NZ fz => ?_)
  dsimp only [Behind]
  have aN : Agree [L] s.heap h2 := agree_trans a1 a2
  have N2 := after_L N aN
  have NS2 := after_L NS aN
  have NW2 := after_L NW aN
  have NV2 := after_L NV aN
  have NR2 := after_L NR aN
  have NB2 := after_L NB aN
  have zoff : zl ∉ q.adr ++ r.adr := fresh_off (after_L N a1) (after_L NS a1) fz
  have zne : ∀ {p : Addr × Obj} {T : List (Addr × Obj)}, News g L s.heap T → p ∈ T → p.1 ≠ zl := fun NT hp => Nat.ne_of_lt (fz.news (after_L NT a1) _ hp)
  have fz0 : Fresh g L s.heap zl := fun a o e h1 h2 => fz a o (a1 _ _ e (by simpa using h1)) h1 h2
  have hz0 : s.heap.get? zl = none := fz0.none (NZ _ (.head _)).2.1 (NZ _ (.head _)).2.2
  have kk : Keep [Str.ofString "level", Str.ofString "zeros", Str.ofString "place", Str.ofString "word"] m (fun z => if z = Str.ofString "zeros" then some (.ref zl) else (fun y => if y = Str.ofString "level" then some (Value.int (l : Nat) tl) else m y) z) := Keep.set (Keep.set Keep.refl (by k_mem)) (by k_mem)
  have hzm : (fun z => if z = Str.ofString "zeros" then some (.ref zl) else (fun y => if y = Str.ofString "level" then some (Value.int (l : Nat) tl) else m y) z) (Str.ofString "zeros") = some (.ref zl) := rfl
  have hlm : (fun z => if z = Str.ofString "zeros" then some (.ref zl) else (fun y => if y = Str.ofString "level" then some (Value.int (l : Nat) tl) else m y) z) (Str.ofString "level") = some (.int (l : Nat) tl) := rfl
  generalize (fun z => if z = Str.ofString "zeros" then some (Value.ref zl) else (fun y => if y = Str.ofString "level" then some (Value.int (l : Nat) tl) else m y) z) = m2 at F2 kk hzm hlm
  refine step_gen (lv_loop1 (av := zl :: av) bas F2 ((kk _ (by decide)).trans hmb) hlm ((kk _ (by decide)).trans hms) hzm hl ok qk N2 NR2 NB2 NS2 NZ NW2 dR dW hwl h8 hp hd lo
    (fun x hx => ((hb x hx).grow hz0).carry aN fun a ha => .inl (List.mem_singleton.mp ha)) (fun a ha => ?_) (nin_cons (zne NR (.head _)) x1) (nin_cons (zne NB (.head _)) x2) x3 (fun h => zoff (List.mem_append_right _ h)) (fun h => zoff (List.mem_append_left _ h))
    fun h3 tk3 m3 pl3 pn3 spl3 spn3 zs3 nz3 F3 a3 k3 N3 p3 S3 s3 Z3 z3 => ?_)
  · rcases List.mem_cons.mp ha with e | ha
    · exact e ▸ .head _
    · exact .tail _ (hav _ (.tail _ ha))
  have o3 : ∀ {a : Addr}, a ≠ L → a ≠ zl → a ∉ q.adr ++ r.adr → a ∉ L :: zl :: (q.adr ++ r.adr) := fun h1 h2 h3 => nin_cons h1 (nin_cons h2 h3)
  have NR3 := after_news NR2 a3 (off_cons (o3 (NR _ (.head _)).2.1 (zne NR (.head _)) x1) (by simp))
  have NW3 := after_news NW2 a3 (off_cons (o3 (NW (wa, _) (.head _)).2.1 (zne NW (.head _)) x5) (off_cons (o3 (NW (L+1+1, oW) (by k_mem)).2.1 (zne (p := (L+1+1, oW)) NW (by k_mem)) x6) (by simp)))
  have NV3 := after_news NV2 a3 (off_cons (o3 (NV _ (.head _)).2.1 (zne NV (.head _)) x4) (by simp))
  have hzm3 := (k3 (Str.ofString "zeros") (by decide)).trans hzm
  have c1 := filter_len (zb l) row
  have c2 := zplaces_count l row
  have c3 := z3.length
  dsimp only [Behind]
  refine step_gen (lv_loop2 bas F3 ((k3 _ (by decide)).trans ((kk _ (by decide)).trans hms)) hzm3 ok qk N3 NR3 S3 (news_app (a := [(zl, listOf zs3.toArray nz3)]) Z3 NW3) dR dW (by omega) p3 s3 (by simp only [List.length_map]; omega) (by simp only [List.length_map]; omega) x1 x3
    fun h4 tk4 m4 pl4 pn4 spn4 F4 a4 k4 N4 p4 S4 => ?_)
  have NV4 := after_news NV3 a4 (off_cons (nin_cons (NV _ (.head _)).2.1 x4) (by simp))
  have Z4 := after_news Z3 a4 (off_cons (nin_cons (NZ _ (.head _)).2.1 zoff) (by simp))
  dsimp only [Behind]
  refine step_gen (lev_app bas F4 ((k4 _ (by decide)).trans hzm3) ((k4 _ (by decide)).trans ((k3 _ (by decide)).trans ((kk _ (by decide)).trans hmv))) NV4 (by omega) fun h5 tk5 F5 a5 NV5 => ?_)
  dsimp only [Behind]
  refine wpAny_execs_nil ?_
  refine k h5 _ m4 pl4 pn4 spn4 zl zs3 nz3 (nl + 1) F5 ?_ ((kk.trans (k3.mono (by simp))).trans (k4.mono (by simp))) (after_news N4 a5 fun p hp => nin_cons (N4 p hp).2.1 (not_mem1 fun e => x4 (List.mem_append_right _ (e ▸ lex_off hp)))) ?_ (after_news S4 a5 fun p hp => nin_cons (S4 p hp).2.1 (not_mem1 fun e => x4 (List.mem_append_left _ (e ▸ sid_off hp)))) NV5 (after_news Z4 a5 (off_cons (nin_cons (NZ _ (.head _)).2.1 (not_mem1 (zne NV (.head _)).symm)) (by simp))) z3 fz0
  · have a35 : Agree (zl :: L :: lv :: (q.adr ++ r.adr)) s.heap h5 := by
      refine agree_trans (agree_trans (agree_trans (agree_mono aN fun a ha => ?_) (agree_mono a3 fun a ha => ?_)) (agree_mono a4 fun a ha => ?_)) (agree_mono a5 fun a ha => ?_)
      · rw [List.mem_singleton.mp ha]; exact .tail _ (.head _)
      · rcases List.mem_cons.mp ha with e | ha
        · exact e ▸ .tail _ (.head _)
        rcases List.mem_cons.mp ha with e | ha
        · exact e ▸ .head _
        · exact .tail _ (.tail _ (.tail _ ha))
      · rcases List.mem_cons.mp ha with e | ha
        · exact e ▸ .tail _ (.head _)
        · exact .tail _ (.tail _ (.tail _ ha))
      · rcases List.mem_cons.mp ha with e | ha
        · exact e ▸ .tail _ (.head _)
        · rw [List.mem_singleton.mp ha]; exact .tail _ (.tail _ (.head _))
    exact agree_fresh a35 hz0
  · unfold stepRow; rw [List.map_append]; exact p4
end Mine
end

section
open PySem PySem.W PyProof.Rows
namespace Mine
theorem anew56 : True ∧ True := by
  walk1
  w_top off
  all_goals exact True.intro
end Mine
end

section
open PySem PySem.W PySem.Calls PyProof.Rows PyProof.Rows.LCg
set_option maxRecDepth 100000
set_option maxHeartbeats 1000000
namespace Mine

/-- the lists of noted places, none of them in `av` -/
inductive LevN (g : Heap) (L : Addr) (av : List Addr) (h : Heap) : List Value → List (List Int) → Prop
  | nil : LevN g L av h [] []
  | snoc {z : Addr} {vs : List Value} {n : Nat} {ns : List Int} {zl : List Value} {zs : List (List Int)} : LevN g L av h zl zs → News g L h [(z, listOf vs.toArray n)] → IntsAre vs ns → z ∉ av → LevN g L av h (zl ++ [.ref z]) (zs ++ [ns])
theorem LevN.carry {g : Heap} {L : Addr} {av : List Addr} {h h' : Heap} {zl : List Value} {zs : List (List Int)} {S : List Addr} (b : LevN g L av h zl zs) (ha : Agree S h h') (hS : ∀ q ∈ S, q = L ∨ q ∈ av ∨ h.get? q = none) : LevN g L av h' zl zs := by
  induction b with
  | nil => exact .nil
  | snoc b N hi hz ih =>
    rename_i z _ _ _ _ _
    refine .snoc ih (after_news N ha fun p hp => ?_) hi hz
    rw [List.mem_singleton.mp hp]
    have zz := N _ (.head _)
    intro hs
    rcases hS z hs with e | e | e
    · exact zz.2.1 e
    · exact hz e
    · rw [show h.get? z = _ from zz.1] at e; cases e
theorem LevN.mono {g : Heap} {L : Addr} {av av' : List Addr} {h : Heap} {zl : List Value} {zs : List (List Int)} (b : LevN g L av h zl zs) (hs : ∀ q ∈ av', q ∈ av) : LevN g L av' h zl zs := by
  induction b with
  | nil => exact .nil
  | snoc b N hi hz ih => exact .snoc ih N hi fun q => hz (hs _ q)
theorem LevN.length {g : Heap} {L : Addr} {av : List Addr} {h : Heap} {zl : List Value} {zs : List (List Int)} (b : LevN g L av h zl zs) : zl.length = zs.length := by
  induction b with
  | nil => rfl
  | snoc b N hi hz ih => simp [ih]

noncomputable def lvls : List Nat := [3, 2, 1, 0]
noncomputable def rowAt (xs : List Int) (i : Nat) : List Int := (lvls.take i).foldl (fun row l => stepRow l row) xs
noncomputable def zerosAt (xs : List Int) (i : Nat) : List (List Int) := (List.range i).map fun j => zplaces (lvls.getD j 0) (rowAt xs j) xs.length
theorem rowAt_succ (xs : List Int) {i : Nat} (hi : i < 4) : rowAt xs (i + 1) = stepRow (lvls.getD i 0) (rowAt xs i) := by
  have : i = 0 ∨ i = 1 ∨ i = 2 ∨ i = 3 := by omega
  rcases this with rfl | rfl | rfl | rfl <;> rfl
theorem zerosAt_succ (xs : List Int) (i : Nat) : zerosAt xs (i + 1) = zerosAt xs i ++ [zplaces (lvls.getD i 0) (rowAt xs i) xs.length] := by
  unfold zerosAt; rw [List.range_succ, List.map_append]; rfl
theorem foldRow_len : ∀ (ls : List Nat) (xs : List Int), (ls.foldl (fun row l => stepRow l row) xs).length = xs.length
  | [], _ => rfl
  | l :: ls, xs => by rw [List.foldl_cons, foldRow_len ls]; exact stepRow_len _ _
theorem rowAt_len (xs : List Int) (i : Nat) : (rowAt xs i).length = xs.length := foldRow_len _ _
theorem stepRow_mem {l : Nat} {row : List Int} {x : Int} (h : x ∈ stepRow l row) : x ∈ row := by
  unfold stepRow at h
  rcases List.mem_append.mp h with h | h <;> exact (List.mem_filter.mp h).1
theorem foldRow_mem : ∀ (ls : List Nat) (xs : List Int) {x : Int}, x ∈ ls.foldl (fun row l => stepRow l row) xs → x ∈ xs
  | [], _, _, h => h
  | l :: ls, xs, x, h => stepRow_mem (foldRow_mem ls _ h)
theorem rowAt_mem {xs : List Int} {i : Nat} {x : Int} (h : x ∈ rowAt xs i) : x ∈ xs := foldRow_mem _ _ h
theorem lvls_lt (i : Nat) : lvls.getD i 0 < 4 := by
  match i with
  | 0 => decide
  | 1 => decide
  | 2 => decide
  | 3 => decide
  | n + 4 => exact (by decide : 0 < 4)

theorem ph17 {w : World} {g : Heap} {L fa bd lv wa : Addr} {cd : Value} {s : Shared} {m : Str → Option Value} {Q : Flow → Shared → Prop} {r : Rd} {q : Sd} {oR oW ob : Obj} {ln : Int} {u1 : Tok} {sl pl wl : List Value} {n pn nw : Nat} {xs : List Int} {kvs : List (Str × Value)} {av : List Addr} {spn : Nat}
    (bas : Bas w g) (F : Fr g L s.heap m) (hmb : m (Str.ofString "bits") = some (.ref bd)) (hms : m (Str.ofString "siding") = some (.ref q.x)) (hmv : m (Str.ofString "levels") = some (.ref lv))
    (ok : r.Ok) (qk : q.Ok) (N : News g L s.heap (lexNews r ln u1 sl n pl pn)) (NR : News g L s.heap [(L+1+1+1+1, oR)]) (NB : News g L s.heap [(bd, ob)]) (NS : News g L s.heap (sidNews q [] spn)) (NV : News g L s.heap [(lv, listOf #[] 0)]) (NW : News g L s.heap [(wa, listOf wl.toArray nw), (L+1+1, oW)])
    (dR : oR.data = .cell (some (.ref r.x))) (dW : oW.data = .cell (some (.ref wa))) (hwl : wl.length = xs.length) (h8 : xs.length ≤ 8) (hp : StrsAre pl (xs.map wordW)) (hd : ob.IsDictOf (strKind PP w) kvs) (lo : (bd == sysModules) = false) (hb : ∀ x ∈ xs, BitsAt g L av s.heap kvs (wordW x))
    (hav : ∀ a ∈ lv :: (q.adr ++ r.adr), a ∈ av)
    (x1 : (L+1+1+1+1) ∉ lv :: (q.adr ++ r.adr)) (x2 : bd ∉ lv :: (q.adr ++ r.adr)) (x3 : ∀ a ∈ q.adr, a ∉ r.adr) (x4 : lv ∉ q.adr ++ r.adr) (x5 : wa ∉ lv :: (q.adr ++ r.adr)) (x6 : (L+1+1) ∉ lv :: (q.adr ++ r.adr))
    (k : ∀ h' tk m' pl' pn' spn' ls nl, Fr g L h' m' → Agree (L :: lv :: (q.adr ++ r.adr)) s.heap h' → Keep [Str.ofString "level", Str.ofString "zeros", Str.ofString "place", Str.ofString "word"] m m' → News g L h' (lexNews r ln u1 sl n pl' pn') → StrsAre pl' ((rowAt xs 4).map wordW) →
      News g L h' (sidNews q [] spn') → News g L h' [(lv, listOf (List.toArray ls) nl)] → LevN g L (lv :: (q.adr ++ r.adr)) h' ls (zerosAt xs 4) → Q .next { s with heap := h', toks := tk }) :
    wpAny (model PP w) (LA.deeper (lawEnv L fa cd)) (exec levFor (lawEnv L fa cd)) Q (fun _ _ => False) s := by
  have bas2 := bas
  obtain ⟨h85, h36, h29, X, base, p, loose, mean, mg, mb, B, T⟩ := bas
  obtain ⟨own, O, N2, off⟩ := old_of F News.nil
  simp only [List.cons_append, List.nil_append] at N2
  have hide : (News g L s.heap (lexNews r ln u1 sl n pl pn) ∧ News g L s.heap [(L+1+1+1+1, oR)]) ∧ (News g L s.heap [(bd, ob)] ∧ News g L s.heap (sidNews q [] spn)) ∧ News g L s.heap [(lv, listOf #[] 0)] ∧ News g L s.heap [(wa, listOf wl.toArray nw), (L+1+1, oW)] := ⟨⟨N, NR⟩, ⟨NB, NS⟩, NV, NW⟩
  clear N NR NB NS NV NW
  conv in levFor => whnf
  repeat' (first | (k_unfold; (try dsimp only)) | ((with_reducible show wpAny _ _ (pyIter (Value.ref _)) _ _ _); (k_dflt (refine' pyIter_listK ?zqF ?zqN ?zql ?_; (case zqF => k_asm); (case zqN => k_asm); (case zql => is_list))); walk_at "In9") | ((with_reducible show wpAny _ _ (exec (Stmt.For _ (Expr.List _ _) _ _ _) _) _ _ _); (k_dflt (refine wpAny_For ?_))) | (k_end; wrow_close) | walk1 | (dsimp only; walk1) | (leave1; walk_say "STEP leave1"; try dsimp only) | fail "no step")
  rename_i l4 h7 l7 it9 h9' F9 N9 l9
  obtain ⟨⟨N, NR⟩, ⟨NB, NS⟩, NV, NW⟩ := hide
  have h9 := N9 (it9, _) (.head _)
  have h4 := N9 (l4, _) (.tail _ (.head _))
  have hf : Fresh g L s.heap it9 := O.fresh l9.2
  have hf4 : Fresh g L s.heap l4 := O.fresh (allLt_of l7)
  have hn := hf.none h9.2.1 h9.2.2
  have hn4 := hf4.none h4.2.1 h4.2.2
  have a9 := O.agree F9 N9 (by intro p hp; k_ownIn) [] (by walk_at "Same9")
  obtain ⟨vs4, N8, hi4⟩ : ∃ vs4 : List Value, News g L h9' ((it9, itObj l4 0) :: (l4, listOf vs4.toArray 0) :: own) ∧ IntsAre vs4 [3, 2, 1, 0] := ⟨_, N9, .cons _ _ (.cons _ _ (.cons _ _ (.cons _ _ .nil)))⟩
  clear N9
  have hv4 := hi4.length
  have nit : ∀ {p : Addr × Obj} {S : List (Addr × Obj)}, News g L s.heap S → p ∈ S → p.1 ≠ it9 := fun NS hq => Nat.ne_of_lt (hf.news NS _ hq)
  have nl4 : ∀ {p : Addr × Obj} {S : List (Addr × Obj)}, News g L s.heap S → p ∈ S → p.1 ≠ l4 := fun NS hq => Nat.ne_of_lt (hf4.news NS _ hq)
  have irs : it9 ∉ lv :: (q.adr ++ r.adr) := nin_cons (nit NV (.head _)).symm (fresh_off N NS hf)
  have lrs : l4 ∉ lv :: (q.adr ++ r.adr) := nin_cons (nl4 NV (.head _)).symm (fresh_off N NS hf4)
  have hi9 : l4 ≠ it9 := Nat.ne_of_lt l9.1
  refine for_list0 (vs := vs4) (fun i h m1 => Agree (it9 :: L :: lv :: (q.adr ++ r.adr)) s.heap h ∧ Keep [Str.ofString "level", Str.ofString "zeros", Str.ofString "place", Str.ofString "word"] m m1 ∧
      (∃ pl' pn', News g L h (lexNews r ln u1 sl n pl' pn') ∧ StrsAre pl' ((rowAt xs i).map wordW)) ∧
      (∃ spn', News g L h (sidNews q [] spn')) ∧ (∃ ls nl, News g L h [(lv, listOf (List.toArray ls) nl)] ∧ LevN g L (it9 :: lv :: (q.adr ++ r.adr)) h ls (zerosAt xs i)) ∧
      News g L h [(l4, listOf vs4.toArray 0)])
    rfl (fun _ _ => rfl) (.head _) N8 ?stab ?hl ?turn ?done F9 ?J0
  case stab =>
    rintro i h h' m1 ⟨ja, jk, ⟨pl', pn', jN, jp⟩, ⟨spn', jS⟩, ⟨ls, nl, jV, jl⟩, j4⟩ ha
    refine ⟨agree_trans ja (agree_mono ha (by walk_at "Subs9")), jk, ⟨pl', pn', after_news jN ha fun p hp => not_mem1 fun e => irs (.tail _ (List.mem_append_right _ (e ▸ lex_off hp))), jp⟩, ⟨spn', after_news jS ha fun p hp => not_mem1 fun e => irs (.tail _ (List.mem_append_left _ (e ▸ sid_off hp)))⟩,
      ⟨ls, nl, after_news jV ha (off_cons (not_mem1 (nit NV (.head _))) (by simp)), jl.carry ha fun a h => .inr (.inl (by rw [List.mem_singleton.mp h]; exact .head _))⟩, after_news j4 ha (off_cons (not_mem1 hi9) (by simp))⟩
  case hl => exact fun i h m1 hJ => News.isList hJ.2.2.2.2.2 (.head _)
  case J0 =>
    exact ⟨agree_mono a9 (by walk_at "Subs9"), Keep.refl, ⟨pl, pn, after_L N a9, hp⟩, ⟨spn, after_L NS a9⟩, ⟨[], 0, after_L NV a9, .nil⟩, fun p hp => N8 p (by rw [List.mem_singleton.mp hp]; exact .tail _ (.head _))⟩
  case turn =>
    rintro i v m1 h tk oi hv ⟨ja, jk, ⟨pl', pn', jN, jp⟩, ⟨spn', jS⟩, ⟨ls, nl, jV, jl⟩, j4⟩ F1 g1 g2 g3
    obtain ⟨lz, t, rfl, hlz⟩ := ints_at hi4 hv
    have hi : i < 4 := by
      obtain ⟨h1, _⟩ := List.getElem?_eq_some_iff.mp hlz
      exact h1
    obtain rfl : lz = ((lvls.getD i 0 : Nat) : Int) := by
      have : i = 0 ∨ i = 1 ∨ i = 2 ∨ i = 3 := by omega
      rcases this with rfl | rfl | rfl | rfl <;> exact (Option.some.inj hlz).symm
    have nS : ∀ {a : Addr}, a ≠ it9 → a ≠ L → a ∉ lv :: (q.adr ++ r.adr) → a ∉ it9 :: L :: lv :: (q.adr ++ r.adr) := fun h1 h2 h3 => nin_cons h1 (nin_cons h2 h3)
    have jR : News g L h [(L+1+1+1+1, oR)] := after_news NR ja (off_cons (nS (nit NR (.head _)) (NR _ (.head _)).2.1 x1) (by simp))
    have jB : News g L h [(bd, ob)] := after_news NB ja (off_cons (nS (nit NB (.head _)) (NB _ (.head _)).2.1 x2) (by simp))
    have jW : News g L h [(wa, listOf wl.toArray nw), (L+1+1, oW)] := after_news NW ja (off_cons (nS (nit NW (.head _)) (NW (wa, _) (.head _)).2.1 x5) (off_cons (nS (nit (p := (L+1+1, oW)) NW (by k_mem)) (NW (L+1+1, oW) (by k_mem)).2.1 x6) (by simp)))
    have jb : ∀ x ∈ rowAt xs i, BitsAt g L av h kvs (wordW x) := fun x hx => (hb x (rowAt_mem hx)).carry ja fun a ha => by
      rcases List.mem_cons.mp ha with e | ha
      · exact .inr (.inr (e ▸ hn))
      rcases List.mem_cons.mp ha with e | ha
      · exact .inl e
      · exact .inr (.inl (hav _ ha))
    have hlz2 := jl.length
    have hz0 : (zerosAt xs i).length = i := by simp [zerosAt]
    have it2 : it9 ∉ L :: lv :: (q.adr ++ r.adr) := nin_cons h9.2.1 irs
    refine lev_turn (av := av) bas2 F1 ((jk _ (by decide)).trans hmb) ((jk _ (by decide)).trans hms) ((jk _ (by decide)).trans hmv) (lvls_lt i) ok qk jN jR jB jS jV jW dR dW (by rw [rowAt_len]; exact hwl) (by rw [rowAt_len]; exact h8) jp hd lo jb (by omega) hav
      (fun h => x1 (.tail _ h)) (fun h => x2 (.tail _ h)) x3 x4 (fun h => x5 (.tail _ h)) (fun h => x6 (.tail _ h)) fun h' tk' m' pl2 pn2 spn2 zl zs nz nl2 F' ha hk NL pL NS' NV' NZ' zI zf => ?_
    have zz := NZ' _ (.head _)
    refine TurnEnd.next F' (ha _ _ g1 it2) rfl ⟨agree_trans ja (agree_mono ha fun a h => .tail _ h), jk.trans hk, ⟨_, _, NL, by rw [rowAt_succ _ hi]; exact pL⟩, ⟨_, NS'⟩, ⟨_, _, NV', ?_⟩, after_news j4 ha (off_cons (nin_cons h4.2.1 lrs) (by simp))⟩
    rw [zerosAt_succ]
    refine .snoc (jl.carry ha fun a h => ?_) NZ' (by rw [rowAt_len] at zI; exact zI) ?_
    · rcases List.mem_cons.mp h with e | h
      · exact .inl e
      · exact .inr (.inl (.tail _ h))
    · have z0 : ∀ {a : Addr} {o : Obj}, h.get? a = some o → a ≠ L → g.get? a = none → zl ≠ a := fun {a o} h1 h2 h3 => Nat.ne_of_gt (zf a o h1 h2 h3)
      exact nin_cons (z0 g1 h9.2.1 h9.2.2) (nin_cons (z0 (jV _ (.head _)).1 (jV _ (.head _)).2.1 (jV _ (.head _)).2.2) (fresh_off jN jS zf))
  case done =>
    rintro m1 h tk ⟨ja, jk, ⟨pl', pn', jN, jp⟩, ⟨spn', jS⟩, ⟨ls, nl, jV, jl⟩, j4⟩ F1
    rw [hv4] at jp jl
    exact k _ _ _ pl' pn' spn' ls nl F1 (agree_fresh ja hn) jk jN jp jS jV (jl.mono fun a h => .tail _ h)
end Mine
end

section
open PySem PySem.W PyProof.Rows
namespace Mine
theorem anew57 : True ∧ True := by
  walk1
  w_top off
  all_goals exact True.intro
end Mine
end

section
open PySem PySem.W PySem.Calls PyProof.Rows PyProof.Rows.LCg
set_option maxRecDepth 100000
set_option maxHeartbeats 1000000
namespace Mine
/-- a tuple of two ints -/
noncomputable def TupAt (g : Heap) (L : Addr) (h : Heap) (v : Value) (xy : Int × Int) : Prop :=
  ∃ a o t u n, v = .ref a ∧ News g L h [(a, o)] ∧ o.cls = .type "tuple" ∧ o.data = .seq #[.int xy.1 t, .int xy.2 u] n
inductive Tups (g : Heap) (L : Addr) (h : Heap) : List Value → List (Int × Int) → Prop
  | nil : Tups g L h [] []
  | cons {v : Value} {xy : Int × Int} {vs : List Value} {ps : List (Int × Int)} : TupAt g L h v xy → Tups g L h vs ps → Tups g L h (v :: vs) (xy :: ps)
theorem TupAt.carry {g : Heap} {L : Addr} {h h' : Heap} {v : Value} {xy : Int × Int} {S : List Addr} (b : TupAt g L h v xy) (ha : Agree S h h') (hS : ∀ q ∈ S, q = L ∨ h.get? q = none) : TupAt g L h' v xy := by
  obtain ⟨a, o, t, u, n, rfl, N, h1, h2⟩ := b
  refine ⟨a, o, t, u, n, rfl, after_news N ha fun p hp => ?_, h1, h2⟩
  rw [List.mem_singleton.mp hp]
  have z := N _ (.head _)
  intro hs
  rcases hS a hs with e | e
  · exact z.2.1 e
  · rw [show h.get? a = _ from z.1] at e; cases e
theorem Tups.carry {g : Heap} {L : Addr} {h h' : Heap} {vs : List Value} {ps : List (Int × Int)} {S : List Addr} (b : Tups g L h vs ps) (ha : Agree S h h') (hS : ∀ q ∈ S, q = L ∨ h.get? q = none) : Tups g L h' vs ps := by
  induction b with
  | nil => exact .nil
  | cons t _ ih => exact .cons (t.carry ha hS) ih
theorem Tups.length {g : Heap} {L : Addr} {h : Heap} {vs : List Value} {ps : List (Int × Int)} (b : Tups g L h vs ps) : vs.length = ps.length := by
  induction b with
  | nil => rfl
  | cons _ _ ih => simp [ih]
theorem Tups.get {g : Heap} {L : Addr} {h : Heap} {vs : List Value} {ps : List (Int × Int)} (b : Tups g L h vs ps) : ∀ i, i < ps.length → TupAt g L h (vs.getD i .none) (ps.getD i (0, 0)) := by
  induction b with
  | nil => intro i hi; exact absurd hi (Nat.not_lt_zero _)
  | cons t _ ih =>
    intro i hi
    cases i with
    | zero => exact t
    | succ i => exact ih i (by simpa using hi)
theorem Tups.snoc {g : Heap} {L : Addr} {h : Heap} {vs : List Value} {ps : List (Int × Int)} {v : Value} {xy : Int × Int} (b : Tups g L h vs ps) (t : TupAt g L h v xy) : Tups g L h (vs ++ [v]) (ps ++ [xy]) := by
  induction b with
  | nil => exact .cons t .nil
  | cons t' _ ih => exact .cons t' ih
theorem Tups.kat {g : Heap} {L : Addr} {h : Heap} {vs : List Value} {ps : List (Int × Int)} (b : Tups g L h vs ps) : ∃ fs : List Value, KatTups h vs fs ∧ fs.length = ps.length ∧ ∀ v ∈ fs, ∃ x t, v = .int x t := by
  induction b with
  | nil => exact ⟨[], KatTups.nil, rfl, fun v hv => by cases hv⟩
  | cons t _ ih =>
    obtain ⟨fs, f1, f2, f3⟩ := ih
    obtain ⟨a, o, t1, u, n, rfl, N, h1, h2⟩ := t
    refine ⟨_ :: fs, KatTups.cons (N _ (.head _)).1 h1 h2 rfl f1, by simp [f2], fun v hv => ?_⟩
    rcases List.mem_cons.mp hv with rfl | hv
    · exact ⟨_, _, rfl⟩
    · exact f3 v hv

noncomputable def codeP (xy : Int × Int) : Int := xy.1 * 1000 + xy.2
theorem ask_pairs {prog : Program} {w : World} {A : Around} {E : Value → Shared → Prop} {s : Shared} {g : Heap} {L : Addr} {x y : Value} {p q : Int × Int} {Q : Bool → Shared → Prop} (hx : TupAt g L s.heap x p) (hy : TupAt g L s.heap y q)
    (hp : 0 ≤ p.2 ∧ p.2 < 1000) (hq : 0 ≤ q.2 ∧ q.2 < 1000) (h : Q (decide (codeP p < codeP q)) s) : wpAny (model prog w) A (keyLt' (tuples' true) x y) Q E s := by
  obtain ⟨a, o, t, u, n, rfl, N, h1, h2⟩ := hx
  obtain ⟨a', o', t', u', n', rfl, N', h1', h2'⟩ := hy
  refine kat_lt (N _ (.head _)).1 h2 (N' _ (.head _)).1 h2' ?_
  refine kat_cons (wpAny_eqBool_int ?_)
  unfold codeP at h
  by_cases e : p.1 = q.1
  · rw [show (p.1 == q.1) = true from beq_iff_eq.mpr e]
    refine kat_yes (kat_cons (wpAny_eqBool_int ?_))
    by_cases e2 : p.2 = q.2
    · rw [show (p.2 == q.2) = true from beq_iff_eq.mpr e2]
      refine kat_yes (kat_nil ?_)
      rw [show (decide ((#[Value.int p.1 t, Value.int p.2 u] : Array Value).size < (#[Value.int q.1 t', Value.int q.2 u'] : Array Value).size)) = false from by simp]
      rw [decide_eq_false (by omega)] at h
      exact h
    · rw [show (p.2 == q.2) = false from beq_eq_false_iff_ne.mpr e2]
      refine kat_no ?_
      show wpAny _ _ (oneLt' false _ _) _ _ _
      refine kat_one _ _ (lt_int ?_)
      show Q _ s
      rw [show decide (p.2 < q.2) = decide (p.1 * 1000 + p.2 < q.1 * 1000 + q.2) from by rw [decide_eq_decide]; omega]
      exact h
  · rw [show (p.1 == q.1) = false from beq_eq_false_iff_ne.mpr e]
    refine kat_no ?_
    show wpAny _ _ (oneLt' true _ _) _ _ _
    refine oneLt_int ?_
    rw [show decide (p.1 < q.1) = decide (p.1 * 1000 + p.2 < q.1 * 1000 + q.2) from by rw [decide_eq_decide]; omega]
    exact h

theorem wp_of_run {α : Type} {n : Nat} {lt : Nat → Nat → Bool} {cmp : Nat → Nat → (Bool → Shared → Prop) → Shared → Prop} {s : Shared} {P : α → Prop} {Q : α → Shared → Prop} (hc : ∀ i j C, i < n → j < n → C (lt i j) s → cmp i j C s) (hq : ∀ a, P a → Q a s) : ∀ (t : KasT α), RunsTo n lt t P → t.kasWp cmp Q s
  | .ret a, h => hq a h
  | .ask i j k, h => hc i j _ h.1 h.2.1 (wp_of_run hc hq (k (lt i j)) h.2.2)

noncomputable def keyP (ps : List (Int × Int)) (i : Nat) : Int := codeP (ps.getD i (0, 0))
theorem sorted_pairs2 {prog : Program} {w : World} {A : Around} {E : Value → Shared → Prop} {s : Shared} {g : Heap} {L l : Addr} {m : Str → Option Value} {vs : List Value} {ps : List (Int × Int)} {Q : Value → Shared → Prop}
    (F : Fr g L s.heap m) (hl : s.heap.IsList l vs.toArray) (ht : Tups g L s.heap vs ps) (h2 : 2 ≤ ps.length) (h64 : ps.length < 60) (hsec : ∀ xy ∈ ps, 0 ≤ xy.2 ∧ xy.2 < 1000) (hinj : Inj (keyP ps) ps.length)
    (k : ∀ h' tk D p c, Fr g L h' m → Agree [L] s.heap h' → News g L h' [(D, listOf (List.toArray ((Array.toList p).map fun i => vs.getD i .none)) c)] → s.heap.get? D = none → Arr ps.length p → Asc (keyP ps) p ps.length → Q (.ref D) { s with heap := h', toks := tk }) :
    wpAny (model prog w) A (call (.builtin "sorted") [.ref l]) Q E s := by
  obtain ⟨own, O, N0, off⟩ := old_of F News.nil
  rw [List.nil_append] at N0
  have hlen := ht.length
  refine kat_sorted F N0 hl (by omega) (by omega) fun D e1 h' F' N' lt => ?_
  have a1 := O.agree F' N' (fun q hq => .tail _ hq) [] trivial
  have ht' := ht.carry a1 fun q hq => .inl (List.mem_singleton.mp hq)
  obtain ⟨fs, f1, f2, f3⟩ := ht'.kat
  refine kat_kind (T := .type "int") f1 (by omega) (fun v hv => ?_) rfl ?_
  · obtain ⟨x, t, rfl⟩ := f3 v hv
    exact Looks.of_pure rfl
  rw [show (Value.type "int" != Value.type "tuple") = true from by decide, hlen]
  refine wp_of_run (lt := ltK (keyP ps)) (fun i j C hi hj hC => ?_) (fun p hp => ?_) _ (sort_run hinj h2)
  · unfold kas_ask
    have gi : ps.getD i (0, 0) ∈ ps := by rw [List.getD_eq_getElem?_getD, List.getElem?_eq_getElem hi]; exact List.getElem_mem _
    have gj : ps.getD j (0, 0) ∈ ps := by rw [List.getD_eq_getElem?_getD, List.getElem?_eq_getElem hj]; exact List.getElem_mem _
    exact ask_pairs (ht'.get i hi) (ht'.get j hj) (hsec _ gi) (hsec _ gj) hC
  · refine KasFin.intro F' N' (UpdF.head fun q hq => Nat.ne_of_lt (lt q hq)) fun h'' c F'' N'' => ?_
    have hD := N' (D, seqObj "list" #[] e1) (.head _)
    refine k h'' _ D p c F'' ?_ (fun q hq => N'' q (by rw [List.mem_singleton.mp hq]; exact .head _)) (O.new (fun q hq => Nat.ne_of_lt (lt q hq)) hD.2.1 hD.2.2) hp.1 hp.2
    exact O.agree F'' N'' (fun q hq => .tail _ hq) [] trivial
end Mine
end

section
open PySem PySem.W PyProof.Rows
namespace Mine
theorem anew58 : True ∧ True := by
  walk1
  w_top off
  all_goals exact True.intro
end Mine
end

section
open PySem PySem.W PySem.Calls PyProof.Rows PyProof.Rows.LCg
set_option maxRecDepth 100000
set_option maxHeartbeats 1000000
namespace Mine
section
variable {prog : Program} {w : World} {A : Around} {E : Value → Shared → Prop} {s : Shared} {g : Heap} {L a : Addr} {m : Str → Option Value} {news : List (Addr × Obj)} {v : Value}
theorem list_sort_one {n : Nat} {P : PySem.Fin → Shared → Prop} (F : Fr g L s.heap m) (N : News g L s.heap news) (ho : s.heap.get? a = some (seqObj "list" #[v] n)) (haL : a ≠ L) (ha0 : g.get? a = none) (hna : ∀ p ∈ news, p.1 ≠ a)
    (h : ∀ h' c, Fr g L h' m → News g L h' ((a, listOf #[v] c) :: news) → P (.done (.ret .none)) { s with heap := h' }) : wpAny (model prog w) A (Builtin.«list.sort» ⟨[.ref a], []⟩) P E s := by
  have s1 := Heap.SameBut.update s.heap a (Obj.mapSeq fun _ => (#[] : Array Value))
  obtain ⟨e1, ho1⟩ : ∃ e1, (s.heap.update a (Obj.mapSeq fun _ => (#[] : Array Value))).get? a = some (seqObj "list" #[] e1) := ⟨_, get?_update_seq ho fun _ => #[]⟩
  have F3 : Fr g L (((s.heap.update a (Obj.mapSeq fun _ => (#[] : Array Value))).push (seqObj "tuple" #[v] 0)).push (seqObj "list" #[] 0)) m := ((kas_fr F s1 haL ha0).push _).push _
  have N2 : News g L (((s.heap.update a (Obj.mapSeq fun _ => (#[] : Array Value))).push (seqObj "tuple" #[v] 0)).push (seqObj "list" #[] 0)) news :=
    (kas_news N s1 hna).grown fun b x e => Heap.get?_push_of_some _ (Heap.get?_push_of_some _ e)
  have ho6 : (((s.heap.update a (Obj.mapSeq fun _ => (#[] : Array Value))).push (seqObj "tuple" #[v] 0)).push (seqObj "list" #[] 0)).get? a = some (seqObj "list" #[] e1) := Heap.get?_push_of_some _ (Heap.get?_push_of_some _ ho1)
  rw [list_sort_plain]
  refine wpAny_bind (listItems_at ho rfl ?_)
  refine wpAny_bind (listUpdate_at ho rfl ?_ (by rw [sizeLine_eq]; exact Nat.le_of_ble_eq_true rfl) (Nat.zero_le _))
  refine wpAny_bind (seqEpoch_at ho1 rfl ?_)
  refine wpAny_bind (wpAny_newTuple ?_ (by rw [sizeLine_eq]; exact Nat.le_of_ble_eq_true rfl))
  refine wpAny_bind (wpAny_newList ?_ (Nat.zero_le _))
  refine wpAny_holding ?_
  show wpAny (model prog w) A _ P E { s with heap := ((s.heap.update a (Obj.mapSeq fun _ => (#[] : Array Value))).push (seqObj "tuple" #[v] 0)).push (seqObj "list" #[] 0) }
  dsimp only
  rw [if_pos (show (#[v] : Array Value).size < 2 from Nat.le_of_ble_eq_true rfl), if_pos (show (#[v] : Array Value).size < 2 from Nat.le_of_ble_eq_true rfl)]
  refine wpAny_bind (wpAny_pure ?_)
  rw [StateT.run_pure]
  refine wpAny_bind (wpAny_pure ?_)
  dsimp only
  refine wpAny_bind (seqEpoch_at ho6 rfl ?_)
  have s2 := Heap.SameBut.update (((s.heap.update a (Obj.mapSeq fun _ => (#[] : Array Value))).push (seqObj "tuple" #[v] 0)).push (seqObj "list" #[] 0)) a (Obj.mapSeq fun _ => (#[v] : Array Value))
  obtain ⟨c2, hc2⟩ : ∃ c2, ((((s.heap.update a (Obj.mapSeq fun _ => (#[] : Array Value))).push (seqObj "tuple" #[v] 0)).push (seqObj "list" #[] 0)).update a (Obj.mapSeq fun _ => (#[v] : Array Value))).get? a = some (seqObj "list" #[v] c2) := ⟨_, get?_update_seq ho6 fun _ => #[v]⟩
  have ee : Array.map (fun x : Keyed => x.2) (arrOf (SortSt.mk' general' ((#[v] : Array Value).zip #[v]) #[] 7 none)) = #[v] := by
    show Array.map (fun x : Keyed => x.2) ((#[v] : Array Value).zip #[v]) = #[v]
    simp
  rw [ee]
  refine wpAny_bind (listUpdate_at ho6 rfl ?_ (Nat.zero_le _) (by rw [sizeLine_eq]; exact Nat.le_of_ble_eq_true rfl))
  simp only [bne_self_eq_false, Bool.false_eq_true, if_false]
  refine wpAny_pure (h _ c2 (kas_fr F3 s2 haL ha0) fun p hp => ?_)
  rcases List.mem_cons.mp hp with rfl | hp
  · exact ⟨hc2, haL, ha0⟩
  · exact kas_news N2 s2 hna p hp

theorem sorted_one {l : Addr} {Q : Value → Shared → Prop} (F : Fr g L s.heap m) (N : News g L s.heap news) (hl : s.heap.IsList l #[v])
    (k : ∀ h' D c, Fr g L h' m → News g L h' ((D, listOf #[v] c) :: news) → (∀ q ∈ news, q.1 < D) → Q (.ref D) { s with heap := h' }) : wpAny (model prog w) A (call (.builtin "sorted") [.ref l]) Q E s := by
  refine Calls.call_function_entry kind_sorted plain_sorted entry_sorted (args_sorted1 _) ?_
  unfold Builtin.«sorted»
  refine wpAny_bind (m := checkCount "sorted" 1 1 _) (wpAny_pure ?_)
  refine wpAny_bind (collect_list (vs := [v]) hl ?_ (by rw [sizeLine_eq]; exact Nat.le_of_ble_eq_true rfl))
  refine wpAny_bind (wpAny_newList ?_ (by rw [sizeLine_eq]; exact Nat.le_of_ble_eq_true rfl))
  have hsz : ((s.heap.push (seqObj "list" #[] 0)).update s.heap.objs.size (Obj.mapSeq (· ++ [v].toArray))).objs.size = s.heap.objs.size + 1 := by
    rw [Heap.size_update, size_push']
  have hoL : (((s.heap.push (seqObj "list" #[] 0)).update s.heap.objs.size (Obj.mapSeq (· ++ [v].toArray))).push (seqObj "list" [v].toArray 0)).get? (s.heap.objs.size + 1) = some (seqObj "list" [v].toArray 0) := by
    rw [← hsz]; exact Heap.get?_push_size _ rfl
  have keep : ∀ b o, s.heap.get? b = some o → (((s.heap.push (seqObj "list" #[] 0)).update s.heap.objs.size (Obj.mapSeq (· ++ [v].toArray))).push (seqObj "list" [v].toArray 0)).get? b = some o := fun b o q => by
    have hlt : b < s.heap.objs.size := Heap.lt_size q
    rw [Heap.get?_push_ne _ _ _ (by rw [hsz]; exact Nat.ne_of_lt (Nat.lt_succ_of_lt hlt)), Heap.get?_update_ne _ _ _ _ (Nat.ne_of_lt hlt), Heap.get?_push_ne _ _ _ (Nat.ne_of_lt hlt)]
    exact q
  have hL : L < s.heap.objs.size := F.ns.lt
  show wpAny _ _ _ _ _ { s with heap := ((s.heap.push (seqObj "list" #[] 0)).update s.heap.objs.size (Obj.mapSeq (· ++ [v].toArray))).push (seqObj "list" [v].toArray 0) }
  rw [hsz]
  refine wpAny_bind (wpAny_holding (wpAny_call_entry slot_list_sort ⟨_, hoL, rfl⟩ entry_list_sort ?body (args_list_sort _)))
  case body =>
    refine list_sort_one (s := { s with heap := ((s.heap.push (seqObj "list" #[] 0)).update s.heap.objs.size (Obj.mapSeq (· ++ [v].toArray))).push (seqObj "list" [v].toArray 0) })
      (F.kept keep) (N.grown keep) hoL (Nat.ne_of_gt (Nat.lt_succ_of_lt hL)) (Heap.get?_none_of_le (Nat.le_trans F.above (Nat.le_succ_of_le (Nat.le_of_lt hL))))
      (fun p hp => Nat.ne_of_lt (Nat.lt_succ_of_lt (Heap.lt_size (N p hp).1))) fun h' c F' N' => ⟨_, rfl, wpAny_pure ⟨_, rfl, k h' _ c F' N' fun q hq => Nat.lt_succ_of_lt (Heap.lt_size (N q hq).1)⟩⟩
end

theorem sorted_pairs {prog : Program} {w : World} {A : Around} {E : Value → Shared → Prop} {s : Shared} {g : Heap} {L l : Addr} {m : Str → Option Value} {vs : List Value} {ps : List (Int × Int)} {Q : Value → Shared → Prop}
    (F : Fr g L s.heap m) (hl : s.heap.IsList l vs.toArray) (ht : Tups g L s.heap vs ps) (h1 : 1 ≤ ps.length) (h64 : ps.length < 60) (hsec : ∀ xy ∈ ps, 0 ≤ xy.2 ∧ xy.2 < 1000) (hinj : Inj (keyP ps) ps.length)
    (k : ∀ h' tk D p c, Fr g L h' m → Agree [L] s.heap h' → News g L h' [(D, listOf (List.toArray ((Array.toList p).map fun i => vs.getD i .none)) c)] → s.heap.get? D = none → Arr ps.length p → Asc (keyP ps) p ps.length → Q (.ref D) { s with heap := h', toks := tk }) :
    wpAny (model prog w) A (call (.builtin "sorted") [.ref l]) Q E s := by
  by_cases h2 : 2 ≤ ps.length
  · exact sorted_pairs2 F hl ht h2 h64 hsec hinj k
  · have e1 : ps.length = 1 := by omega
    have hv := ht.length
    obtain ⟨v, rfl⟩ : ∃ v, vs = [v] := List.length_eq_one_iff.mp (hv.trans e1)
    obtain ⟨own, O, N0, off⟩ := old_of F News.nil
    rw [List.nil_append] at N0
    refine sorted_one F N0 hl fun h' D c F' N' lt => ?_
    have hD := N' (D, listOf #[v] c) (.head _)
    refine k h' _ D #[0] c F' (O.agree F' N' (fun q hq => .tail _ hq) [] trivial) (fun q hq => N' q (by rw [List.mem_singleton.mp hq]; exact .head _)) (O.new (fun q hq => Nat.ne_of_lt (lt q hq)) hD.2.1 hD.2.2) ?_ ?_
    · rw [e1]; exact ⟨rfl, Array.Perm.refl _⟩
    · rw [e1]; intro a b hab hb; omega
end Mine
end

section
open PySem PySem.W PyProof.Rows
namespace Mine
theorem anew59 : True ∧ True := by
  walk1
  w_top off
  all_goals exact True.intro
end Mine
end

section
open PySem PySem.W PySem.Calls PyProof.Rows PyProof.Rows.LCg
set_option maxRecDepth 100000
set_option maxHeartbeats 1000000
namespace Mine

/-- a number's four bits turned about -/
noncomputable def turned (v : Int) : Int := v % 2 * 8 + v / 2 % 2 * 4 + v / 4 % 2 * 2 + v / 8
theorem turned_spec {w : World} {dp un : Nat} {gd : Option (List Code)} {fr : List Env} {h₀ : Heap} {L : Addr} {m : Str → Option Value} {s : Shared} {R : Result → Shared → Prop} {v : Int} {tv : Tok}
    (C : Cx w (AA dp un gd fr) h₀ L m s.heap) (hA : dp ≤ 400) (h0 : 0 ≤ v) (h1 : v < 16)
    (k : ∀ h' tk t, Agree [] s.heap h' → R (.ok (.ret (.int (turned v) t))) { s with heap := h', toks := tk }) :
    codeAny (model PP w) (AA dp un gd fr) (.call (.ref 98) ⟨[.int v tv], []⟩) R s := by
  have X₀ := C.kin
  have F₀ := C.fr
  k_dflt (refine' enter (binds := [("value", .int v tv)]) C News.nil ?ho ?hcd ?hroom ?hb ?hl ?_ ?hc ?h1 ?h2 ?h3; (case ho => k_is); (case hcd => k_is); (case hroom => k_room); (case hb => exact BindsTo.of_eq rfl); (case hl => exact locs rfl); (case hc => decide); (case h1 => exact rfl); (case h2 => exact rfl); (case h3 => exact rfl))
  k_whole
  clear X₀ F₀
  intro base outer env L' h₁ p loose mean mg mb F' N' B' X' T' hlt
  have eF : some fr = some (env :: outer) := B'.stack
  injection eF with eF
  subst eF
  (try dsimp only); (try k_fold)
  k_steps
  dsimp only
  have e : v.fmod 2 * 8 + (v.fdiv 2).fmod 2 * 4 + (v.fdiv 4).fmod 2 * 2 + v.fdiv 8 = turned v := by
    unfold turned
    rw [Int.fmod_eq_emod_of_nonneg _ (by decide), Int.fmod_eq_emod_of_nonneg _ (by decide), Int.fmod_eq_emod_of_nonneg _ (by decide), Int.fdiv_eq_ediv_of_nonneg _ (by decide), Int.fdiv_eq_ediv_of_nonneg _ (by decide), Int.fdiv_eq_ediv_of_nonneg _ (by decide)]
  rename Fr _ _ _ _ => F9
  refine ⟨_, _, _, F9, News.nil, fun hag _ => ?_⟩
  refine ret_eq e (k _ _ _ hag)
end Mine
end

section
open PySem PySem.W PyProof.Rows
namespace Mine
theorem anew60 : True ∧ True := by
  walk1
  w_top off
  all_goals exact True.intro
end Mine
end

section
open PySem PySem.W PySem.Calls PyProof.Rows PyProof.Rows.LCg
set_option maxRecDepth 100000
set_option maxHeartbeats 1000000
namespace Mine


theorem ph18 {w : World} {g : Heap} {L fa sg : Addr} {cd : Value} {s : Shared} {m : Str → Option Value} {Q : Flow → Shared → Prop} {sl : List Value} {n : Nat} {tu : Tok}
    (bas : Bas w g) (F : Fr g L s.heap m) (hms : m (Str.ofString "signs") = some (.ref sg)) (hmu : m (Str.ofString "unread") = some (.int (sl.length : Nat) tu)) (N : News g L s.heap [(sg, listOf sl.toArray n)]) (hsl : sl.length ≤ 1000)
    (k : ∀ tk, Q .next { s with toks := tk }) :
    wpAny (model PP w) (LA.deeper (lawEnv L fa cd)) (exec (lawStm 18) (lawEnv L fa cd)) Q (fun _ _ => False) s := by
  obtain ⟨h85, h36, h29, X, base, p, loose, mean, mg, mb, B, T⟩ := bas
  have F2 := fr_ov [(Str.ofString "signs", _), (Str.ofString "unread", _)] F (AtM.all ⟨hms, hmu, trivial⟩)
  dsimp only [ov] at F2
  clear F
  conv in lawStm 18 => whnf
  repeat' (first | (k_unfold; (try dsimp only)) | ((with_reducible show wpAny _ _ (call (Value.type "range") _) _ _ _); k_dflt (first | (refine' range1K ?zqF ?zqN ?_; (case zqF => k_asm); (case zqN => k_asm)) | (refine' range2K ?zqF ?zqN ?_; (case zqF => k_asm); (case zqN => k_asm))); walk_at "In9") | ((with_reducible show wpAny _ _ (call (Value.builtin "len") _) _ _ _); (k_dflt (refine len_any (News.isList (by k_asm) (by k_mem)) (by omega) ?_))) | (k_end; wrow_close) | walk1 | (dsimp only; walk1) | (leave1; walk_say "STEP leave1"; try dsimp only) | fail "no step")
  all_goals first | exact k _ | (exfalso; omega)

noncomputable def ordC : Expr := asgVal (lawStm 19)
noncomputable def compIter : Expr → Expr
  | .ListComp _ (⟨_, i, _, _⟩ :: _) _ _ => i
  | e => e
noncomputable def ordIn : Expr := callArg (compIter ordC)
theorem tup_here {prog : Program} {w : World} {A : Around} {E : Value → Shared → Prop} {s : Shared} {h₀ : Heap} {L : Addr} {m : Str → Option Value} {news : List (Addr × Obj)} {x y : Value} {Q : Value → Shared → Prop} (F : Fr h₀ L s.heap m) (N : News h₀ L s.heap news)
    (h : ∀ D h', Fr h₀ L h' m → News h₀ L h' ((D, { cls := .type "tuple", data := .seq #[x, y] 0 }) :: news) → (∀ p ∈ news, p.1 < D) → Q (.ref D) { s with heap := h' }) : wpAny (model prog w) A (newTuple [x, y]) Q E s :=
  wpAny_newTuple (h _ _ (F.push _) (N.push F _) fun p hp => Heap.lt_size (N p hp).1) (by rw [sizeLine_eq]; exact Nat.le_of_ble_eq_true rfl)

theorem ordIn_rest {w : World} {g : Heap} {L fa va : Addr} {cd : Value} {m : Str → Option Value} {base : Heap} {p loose mean mg mb} {s₂ : Shared} {own : List (Addr × Obj)} {Fin : List Value → List (Addr × Obj) → Prop} {oV : Obj} {vl : List Value} {nv : Nat} {vals : List Int}
    (B : Below LA base [] g) (X : (hd.heap_1 w.params).In g) (T : Top p loose mean mg mb g) (dV : oV.data = .cell (some (.ref va))) (hi : IntsAre vl vals) (hb : ∀ v ∈ vals, 0 ≤ v ∧ v < 16) (h8 : vals.length ≤ 8) :
    ∀ k i ys (tps : List (Addr × Obj)), i + k = vals.length →
    (∀ h, News g L h tps → Tups g L h ys ((List.range i).map fun j => (turned (vals.getD j 0), (j : Int)))) →
    (∀ ys tps, (∀ h, News g L h tps → Tups g L h ys ((List.range vals.length).map fun j => (turned (vals.getD j 0), (j : Int)))) → Fin ys (tps ++ ((va, listOf vl.toArray nv) :: (L+1+1+1, oV) :: own))) →
    CompRest PP w (LA.deeper (lawEnv L fa cd)) g L m (lawEnv L fa cd) (compElt ordIn) (Str.ofString "k") (compSco ordIn) [(Str.ofString "values", L+1+1+1)] s₂ (fun _ => True) (fun i v => ∃ t, v = .int (0 + (i : Int)) t) Fin k i ys (tps ++ ((va, listOf vl.toArray nv) :: (L+1+1+1, oV) :: own)) := by
  intro k
  induction k with
  | zero =>
    intro i ys tps hik hy hfin
    obtain rfl : i = vals.length := by omega
    exact CompRest.zero (hfin ys tps hy)
  | succ k ih =>
    intro i ys tps hik hy hfin
    refine CompRest.succ ?_
    intro v I oI C oC D m₂ h tk E' hP hNs hmx F N off ne
    obtain ⟨t, rfl⟩ := hP
    rw [show (0 : Int) + (i : Int) = (i : Int) by omega] at hmx
    obtain ⟨ti, hti⟩ := hi.get i vals[i] (List.getElem?_eq_getElem (by omega))
    have hvb := hb vals[i] (List.getElem_mem _)
    have hvl := hi.length
    have NC : News g L h ((I, oI) :: (C, oC) :: (D, lst ys) :: (va, listOf vl.toArray nv) :: (L+1+1+1, oV) :: (tps ++ own)) := fun q hq => N q (by
      simp only [List.mem_cons, List.mem_append] at hq ⊢
      rcases hq with h | h | h | h | h | h | h <;> simp [h])
    have NN := N
    have hide : News g L h ((I, oI) :: (C, oC) :: (D, lst ys) :: (tps ++ ((va, listOf vl.toArray nv) :: (L+1+1+1, oV) :: own))) ∧ True := ⟨N, trivial⟩
    clear N NN
    conv in compElt ordIn => whnf
    repeat' ((fail_if_success (with_reducible show wpAny _ _ (subscriptTail _ _ _ _) _ _ _)); first | (k_unfold; (try dsimp only)) | ((with_reducible show wpAny _ _ (call (Value.type "range") _) _ _ _); k_dflt (first | (refine' range1K ?zqF ?zqN ?_; (case zqF => k_asm); (case zqN => k_asm)) | (refine' range2K ?zqF ?zqN ?_; (case zqF => k_asm); (case zqN => k_asm))); walk_at "In9") | ((with_reducible show wpAny _ _ (call (Value.builtin "len") _) _ _ _); (k_dflt (refine len_any (News.isList (by k_asm) (by k_mem)) (by omega) ?_))) | walk1 | (dsimp only; walk1))
    refine PyProof.Rows.item_listL (News.isList NC (by k_mem)) (by omega) (by omega) (by simpa using hti) ?_
    repeat' ((fail_if_success (with_reducible show wpAny _ _ (call (Value.ref 98) _) _ _ _)); first | (k_unfold; (try dsimp only)) | ((with_reducible show wpAny _ _ (call (Value.type "range") _) _ _ _); k_dflt (first | (refine' range1K ?zqF ?zqN ?_; (case zqF => k_asm); (case zqN => k_asm)) | (refine' range2K ?zqF ?zqN ?_; (case zqF => k_asm); (case zqN => k_asm))); walk_at "In9") | ((with_reducible show wpAny _ _ (call (Value.builtin "len") _) _ _ _); (k_dflt (refine len_any (News.isList (by k_asm) (by k_mem)) (by omega) ?_))) | walk1 | (dsimp only; walk1))
    refine wpAny_call (turned_spec (cx_of (env := lawEnv L fa cd) B F X T rfl rfl) (by decide) hvb.1 hvb.2 fun h2 tk2 t2 ha2 => ?_)
    have F2 := after_fr (news := []) F News.nil ha2
    have NC2 := after_news NC ha2 (by simp)
    have hide2 := after_news hide.1 ha2 (by simp)
    have hide3 : News g L h2 ((I, oI) :: (C, oC) :: (D, lst ys) :: (tps ++ ((va, listOf vl.toArray nv) :: (L+1+1+1, oV) :: own))) ∧ True := ⟨hide2, trivial⟩
    clear F NC hide2
    dsimp only
    repeat' ((fail_if_success (with_reducible show wpAny _ _ (newTuple _) _ _ _)); first | (k_unfold; (try dsimp only)) | ((with_reducible show wpAny _ _ (call (Value.type "range") _) _ _ _); k_dflt (first | (refine' range1K ?zqF ?zqN ?_; (case zqF => k_asm); (case zqN => k_asm)) | (refine' range2K ?zqF ?zqN ?_; (case zqF => k_asm); (case zqN => k_asm))); walk_at "In9") | ((with_reducible show wpAny _ _ (call (Value.builtin "len") _) _ _ _); (k_dflt (refine len_any (News.isList (by k_asm) (by k_mem)) (by omega) ?_))) | walk1 | (dsimp only; walk1))
    refine tup_here F2 hide3.1 fun tp h3 F3 N3 lt3 => ?_
    k_unfold
    try dsimp only
    have nt : ∀ {q : Addr × Obj}, q ∈ (I, oI) :: (C, oC) :: (D, lst ys) :: (tps ++ ((va, listOf vl.toArray nv) :: (L+1+1+1, oV) :: own)) → @Ne Nat tp q.1 := fun hq => Nat.ne_of_gt (lt3 _ hq)
    refine CompEnd.intro F3 N3 (((tp, { cls := .type "tuple", data := .seq #[Value.int (turned vals[i]) t2, Value.int (i : Int) t] 0 }) :: tps) ++ ((va, listOf vl.toArray nv) :: (L+1+1+1, oV) :: own)) (fun q hq => ?_)
      ⟨⟨nt (.head _), nt (.tail _ (.head _)), nt (.tail _ (.tail _ (.head _)))⟩, off⟩ trivial (ih _ _ _ (by omega) (fun h hN => ?_) hfin)
    · rcases List.mem_cons.mp hq with rfl | hq
      · exact .tail _ (.head _)
      rcases List.mem_cons.mp hq with rfl | hq
      · exact .tail _ (.tail _ (.head _))
      rcases List.mem_cons.mp hq with rfl | hq
      · exact .tail _ (.tail _ (.tail _ (.head _)))
      rcases List.mem_cons.mp hq with rfl | hq
      · exact .head _
      · exact .tail _ (.tail _ (.tail _ (.tail _ hq)))
    · rw [List.range_succ, List.map_append]
      refine Tups.snoc (hy h fun q hq => hN q (.tail _ hq)) ⟨tp, _, t2, t, 0, rfl, fun q hq => hN q (by rw [List.mem_singleton.mp hq]; exact .head _), rfl, ?_⟩
      have eg : vals.getD i 0 = vals[i] := by rw [List.getD_eq_getElem?_getD, List.getElem?_eq_getElem (by omega)]; rfl
      show Data.seq #[Value.int (turned vals[i]) t2, Value.int (i : Int) t] 0 = Data.seq #[Value.int (turned (vals.getD i 0)) t2, Value.int (i : Int) t] 0
      rw [eg]

theorem ordOut_rest {w : World} {g : Heap} {L fa l : Addr} {cd : Value} {m : Str → Option Value} {base : Heap} {p loose mean mg mb} {s₂ : Shared} {own : List (Addr × Obj)} {Fin : List Value → List (Addr × Obj) → Prop} {vs : List Value} {n : Nat} {ps : List (Int × Int)}
    (B : Below LA base [] g) (X : (hd.heap_1 w.params).In g) (T : Top p loose mean mg mb g) (ht : ∀ h, News g L h ((l, listOf vs.toArray n) :: own) → Tups g L h vs ps)
    (hlen : vs.length = ps.length) (fin : ∀ ys, IntsAre ys (ps.map (·.2)) → Fin ys ((l, listOf vs.toArray n) :: own)) :
    ∀ k i ys, i + k = vs.length → IntsAre ys ((ps.take i).map (·.2)) →
    CompRest PP w (LA.deeper (lawEnv L fa cd)) g L m (lawEnv L fa cd) (compElt ordC) (Str.ofString "pair") (compSco ordC) [] s₂ (SrcAt g l vs.toArray) (fun i v => vs.toArray[i]? = some v) Fin k i ys ((l, listOf vs.toArray n) :: own) := by
  intro k
  induction k with
  | zero =>
    intro i ys hik hy
    obtain rfl : i = vs.length := by omega
    refine CompRest.zero (fin ys ?_)
    rw [List.take_of_length_le (by omega)] at hy
    exact hy
  | succ k ih =>
    intro i ys hik hy
    refine CompRest.succ ?_
    intro v I oI C oC D m₂ h tk E' hP hNs hmx F N off ne
    have htl := ht h fun q hq => N q (.tail _ (.tail _ (.tail _ hq)))
    obtain ⟨a, o, t, u, nn, hva, Na, hc, hd⟩ := htl.get i (by omega)
    have hv : v = .ref a := by
      rw [← hva, List.getD_eq_getElem?_getD]
      have : vs[i]? = some v := by simpa using hP
      rw [this]; rfl
    subst hv
    have hNa : News g L h [(a, o)] ∧ True := ⟨Na, trivial⟩
    clear Na
    conv in compElt ordC => whnf
    repeat' (first | (k_unfold; (try dsimp only)) | ((with_reducible show wpAny _ _ (call (Value.type "range") _) _ _ _); k_dflt (first | (refine' range1K ?zqF ?zqN ?_; (case zqF => k_asm); (case zqN => k_asm)) | (refine' range2K ?zqF ?zqN ?_; (case zqF => k_asm); (case zqN => k_asm))); walk_at "In9") | ((with_reducible show wpAny _ _ (call (Value.builtin "len") _) _ _ _); (k_dflt (refine len_any (News.isList (by k_asm) (by k_mem)) (by omega) ?_))) | (k_end; wrow_close) | walk1 | (dsimp only; walk1) | (leave1; walk_say "STEP leave1"; try dsimp only) | fail "no step")
    refine PyProof.Rows.item_tuple (j := 1) ⟨o, (hNa.1 _ (.head _)).1, hc, nn, hd⟩ (by decide) (by decide) rfl rfl ?_
    refine CompEnd.intro F N ((l, listOf vs.toArray n) :: own) (fun _ hq => hq) off (.inr ⟨listOf vs.toArray n, .head _, rfl, n, rfl⟩) (ih _ _ (by omega) ?_)
    have e : ps[i]? = some (ps.getD i (0, 0)) := by rw [List.getD_eq_getElem?_getD, List.getElem?_eq_getElem (by omega)]; rfl
    rw [map_take_snoc (·.2) e]
    exact ints_snoc hy _ _
end Mine
end

section
open PySem PySem.W PyProof.Rows
namespace Mine
theorem anew61 : True ∧ True := by
  walk1
  w_top off
  all_goals exact True.intro
end Mine
end

section
open PySem PySem.W PySem.Calls PyProof.Rows PyProof.Rows.LCg
set_option maxRecDepth 100000
set_option maxHeartbeats 1000000
namespace Mine



theorem Tups.pick {g : Heap} {L : Addr} {h : Heap} {vs : List Value} {ps : List (Int × Int)} (b : Tups g L h vs ps) : ∀ (p : List Nat), (∀ i ∈ p, i < ps.length) → Tups g L h (p.map fun i => vs.getD i .none) (p.map fun i => ps.getD i (0, 0))
  | [], _ => .nil
  | i :: p, h => .cons (b.get i (h i (.head _))) (Tups.pick b p fun j hj => h j (.tail _ hj))
theorem Arr.mem {n : Nat} {p : Array Nat} (h : Arr n p) {i : Nat} (hi : i ∈ p.toList) : i < n := by
  have := (h.perm.toList.mem_iff).mp hi
  simpa using this
noncomputable def ordPs (vals : List Int) : List (Int × Int) := (List.range vals.length).map fun j => (turned (vals.getD j 0), (j : Int))
theorem ordPs_len (vals : List Int) : (ordPs vals).length = vals.length := by simp [ordPs]
theorem ordPs_get (vals : List Int) {i : Nat} (hi : i < vals.length) : (ordPs vals).getD i (0, 0) = (turned (vals.getD i 0), (i : Int)) := by
  unfold ordPs
  rw [List.getD_eq_getElem?_getD, List.getElem?_map, List.getElem?_range hi]; rfl
theorem ord_inj (vals : List Int) (h8 : vals.length ≤ 100) : Inj (keyP (ordPs vals)) vals.length := by
  intro a b ha hb e
  unfold keyP at e
  rw [ordPs_get vals ha, ordPs_get vals hb] at e
  unfold codeP at e
  dsimp only at e
  omega

theorem ph19 {w : World} {g : Heap} {L fa wa va : Addr} {cd : Value} {s : Shared} {m : Str → Option Value} {Q : Flow → Shared → Prop} {oV oW : Obj} {vl wl : List Value} {nv nw : Nat} {vals : List Int}
    (bas : Bas w g) (F : Fr g L s.heap m) (NM : News g L s.heap [(va, listOf vl.toArray nv), (L+1+1+1, oV), (wa, listOf wl.toArray nw), (L+1+1, oW)]) (dV : oV.data = .cell (some (.ref va))) (dW : oW.data = .cell (some (.ref wa)))
    (hi : IntsAre vl vals) (hb : ∀ v ∈ vals, 0 ≤ v ∧ v < 16) (h8 : vals.length ≤ 8) (h1 : 1 ≤ vals.length) (hwl : wl.length = vals.length)
    (k : ∀ h' tk m' D ys p, Fr g L h' m' → Agree [L] s.heap h' → s.heap.get? D = none → Keep [Str.ofString "order"] m m' → m' (Str.ofString "order") = some (.ref D) → News g L h' [(D, lst ys)] → IntsAre ys ((Array.toList p).map fun i : Nat => (i : Int)) → Arr vals.length p → Asc (keyP (ordPs vals)) p vals.length →
      Q .next { s with heap := h', toks := tk }) :
    wpAny (model PP w) (LA.deeper (lawEnv L fa cd)) (exec (lawStm 19) (lawEnv L fa cd)) Q (fun _ _ => False) s := by
  obtain ⟨h85, h36, h29, X, base, p, loose, mean, mg, mb, B, T⟩ := bas
  obtain ⟨own, O, N2, off⟩ := old_of F NM
  have hvl := hi.length
  dsimp only [List.cons_append, List.nil_append] at N2
  clear NM
  conv in lawStm 19 => whnf
  refine Assign_ListComp_U F rfl (by rfl) (by rfl) (by decide) (by rfl) (by decide) (by rfl) (by rfl) (by rfl) ?_
  repeat' ((fail_if_success (with_reducible show wpAny _ _ (eval (Expr.ListComp _ _ _ _) _) _ _ _)); first | (k_unfold; (try dsimp only)) | ((with_reducible show wpAny _ _ (call (Value.type "range") _) _ _ _); k_dflt (first | (refine' range1K ?zqF ?zqN ?_; (case zqF => k_asm); (case zqN => k_asm)) | (refine' range2K ?zqF ?zqN ?_; (case zqF => k_asm); (case zqN => k_asm))); walk_at "In9") | ((with_reducible show wpAny _ _ (call (Value.builtin "len") _) _ _ _); (k_dflt (refine len_any (News.isList (by k_asm) (by k_mem)) (by omega) ?_))) | walk1 | (dsimp only; walk1))
  rename Fr _ _ _ _ => F8
  refine ListComp_U F8 (by rfl) (by decide) (by rfl) (by decide) (by rfl) ?_
  repeat' ((fail_if_success (with_reducible show CompSrc _ _ _ _ _ _ _ _ _ _ _ _ _ _)); first | (k_unfold; (try dsimp only)) | ((with_reducible show wpAny _ _ (call (Value.type "range") _) _ _ _); k_dflt (first | (refine' range1K ?zqF ?zqN ?_; (case zqF => k_asm); (case zqN => k_asm)) | (refine' range2K ?zqF ?zqN ?_; (case zqF => k_asm); (case zqN => k_asm))); walk_at "In9") | ((with_reducible show wpAny _ _ (call (Value.builtin "len") _) _ _ _); (k_dflt (refine len_any (News.isList (by k_asm) (by k_mem)) (by omega) ?_))) | walk1 | (dsimp only; walk1))
  rename_i rg h7 tk7 t7 u7 v7 F9 N9 l9
  obtain ⟨y1, y2⟩ := small_of (a := 0) (b := ((wl.length : Nat) : Int)) (by omega) (by omega) (by omega)
  refine CompSrc.range (n := vals.length) (news := [] ++ ((va, listOf vl.toArray nv) :: (L+1+1+1, oV) :: ((rg, rngObj 0 ((wl.length : Nat) : Int) t7 u7 v7) :: (wa, listOf wl.toArray nw) :: (L+1+1, oW) :: own))) rfl F9 (fun q hq => N9 q ?_) (N9 (rg, _) (.head _)).1 y1 (by rw [y2]; omega) (by rw [sizeLine_eq]; omega) fun g' => ?_
  · exact (show ∀ q ∈ _, q ∈ _ from by walk_at "Subs9") q hq
  refine ordIn_rest B X T dV hi hb h8 vals.length 0 [] [] (Nat.zero_add _) (fun h _ => .nil) fun ys tps ht => ?_
  intro D h2 tk2 F2 N2' o2
  clear F9 N9
  dsimp only
  repeat' ((fail_if_success (with_reducible show wpAny _ _ (call (Value.builtin "sorted") _) _ _ _)); first | (k_unfold; (try dsimp only)) | ((with_reducible show wpAny _ _ (call (Value.type "range") _) _ _ _); k_dflt (first | (refine' range1K ?zqF ?zqN ?_; (case zqF => k_asm); (case zqN => k_asm)) | (refine' range2K ?zqF ?zqN ?_; (case zqF => k_asm); (case zqN => k_asm))); walk_at "In9") | ((with_reducible show wpAny _ _ (call (Value.builtin "len") _) _ _ _); (k_dflt (refine len_any (News.isList (by k_asm) (by k_mem)) (by omega) ?_))) | walk1 | (dsimp only; walk1))
  have htl : Tups g L h2 ys (ordPs vals) := ht h2 fun q hq => N2' q (.tail _ (List.mem_append_left _ hq))
  have hpl := ordPs_len vals
  refine sorted_pairs F2 (News.isList N2' (.head _)) htl (by omega) (by omega) (fun xy hxy => ?_) (by rw [hpl]; exact ord_inj vals (by omega)) fun h3 tk3 D3 p c F3 a3 N3 new3 ap as => ?_
  · obtain ⟨j, hj, rfl⟩ := List.mem_map.mp hxy
    have := List.mem_range.mp hj
    dsimp only
    omega
  rw [hpl] at ap as
  have NR3 : News g L h3 (tps ++ ((va, listOf vl.toArray nv) :: (L+1+1+1, oV) :: ((rg, rngObj 0 ((wl.length : Nat) : Int) t7 u7 v7) :: (wa, listOf wl.toArray nw) :: (L+1+1, oW) :: own))) := after_L (fun q hq => N2' q (.tail _ hq)) a3
  clear F2 N2'
  have hps := ap.size
  have hpsz : p.toList.length = vals.length := by rw [Array.length_toList]; exact ap.size
  refine CompSrc.ledger (its := List.toArray ((Array.toList p).map fun i => ys.getD i .none)) (k := c) (news := (D3, listOf (List.toArray ((Array.toList p).map fun i => ys.getD i .none)) c) :: (tps ++ ((va, listOf vl.toArray nv) :: (L+1+1+1, oV) :: ((rg, rngObj 0 ((wl.length : Nat) : Int) t7 u7 v7) :: (wa, listOf wl.toArray nw) :: (L+1+1, oW) :: own)))) rfl F3 (fun q hq => ?_) (.head _) (by rw [sizeLine_eq]; simp; omega) fun g' => ?_
  · rcases List.mem_cons.mp hq with rfl | hq
    · exact N3 _ (.head _)
    · exact NR3 q hq
  have hsz : (List.toArray ((Array.toList p).map fun i => ys.getD i Value.none)).size = ((Array.toList p).map fun i => ys.getD i Value.none).length := by simp
  rw [hsz]
  refine ordOut_rest (ps := (Array.toList p).map fun i => (ordPs vals).getD i (0, 0)) B X T (fun h hN => ?_) (by simp) (fun zs hzs => ?_) _ 0 [] (Nat.zero_add _) .nil
  · exact (ht h fun q hq => hN q (.tail _ (List.mem_append_left _ hq))).pick _ fun i hi => by
      show i < (ordPs vals).length
      rw [hpl]; exact ap.mem hi
  · intro D h4 tk4 FD ND oD
    have hD := ND (D, lst zs) (.head _)
    have hown : ∀ q ∈ own, q ∈ (D, lst zs) :: (D3, listOf (List.toArray ((Array.toList p).map fun i => ys.getD i .none)) c) :: (tps ++ ((va, listOf vl.toArray nv) :: (L+1+1+1, oV) :: ((rg, rngObj 0 ((wl.length : Nat) : Int) t7 u7 v7) :: (wa, listOf wl.toArray nw) :: (L+1+1, oW) :: own))) :=
      fun q hq => .tail _ (.tail _ (List.mem_append_right _ (.tail _ (.tail _ (.tail _ (.tail _ (.tail _ hq)))))))
    refine k _ _ _ D zs p FD (O.agree FD ND hown [] ?_) (O.new (fun q hq => off1_mem oD q ?_) hD.2.1 hD.2.2) (Keep.set Keep.refl (.head _)) (if_pos rfl) (fun q hq => ND q (by rw [List.mem_singleton.mp hq]; exact .head _)) ?_ ap as
    · refine ⟨.inr ?_, .inr ?_, .inr ?_, .inr ?_, trivial⟩
      · exact .tail _ (.tail _ (List.mem_append_right _ (.head _)))
      · exact .tail _ (.tail _ (List.mem_append_right _ (.tail _ (.head _))))
      · exact .tail _ (.tail _ (List.mem_append_right _ (.tail _ (.tail _ (.tail _ (.head _))))))
      · exact .tail _ (.tail _ (List.mem_append_right _ (.tail _ (.tail _ (.tail _ (.tail _ (.head _)))))))
    · refine .tail _ (List.mem_append_right _ ?_)
      exact (show ∀ q ∈ _, q ∈ _ from by walk_at "Subs9") q hq
    · rw [List.map_map] at hzs
      have e : ((Array.toList p).map ((fun x : Int × Int => x.2) ∘ fun i => (ordPs vals).getD i (0, 0))) = (Array.toList p).map fun i : Nat => (i : Int) := List.map_congr_left fun i hi => by
        show ((ordPs vals).getD i (0, 0)).2 = _
        rw [ordPs_get vals (ap.mem hi)]
      rw [e] at hzs
      exact hzs
end Mine
end

section
open PySem PySem.W PyProof.Rows
namespace Mine
theorem anew62 : True ∧ True := by
  walk1
  w_top off
  all_goals exact True.intro
end Mine
end

section
open PySem PySem.W PySem.Calls PyProof.Rows PyProof.Rows.LCg
set_option maxRecDepth 100000
set_option maxHeartbeats 1000000
namespace Mine



noncomputable def rowCmp : Expr := match lawStm 20 with
  | .If t _ _ _ => t
  | _ => .Constant .none 0 ⟨0, 0, 0, 0⟩
noncomputable def cmpL : Expr → Expr
  | .Compare l _ _ _ => l
  | e => e
noncomputable def cmpR : Expr → Expr
  | .Compare _ _ (r :: _) _ => r
  | e => e
noncomputable def rowC : Expr := cmpL rowCmp
noncomputable def wrdC : Expr := cmpR rowCmp
theorem row_rest {w : World} {g : Heap} {L fa wa : Addr} {cd : Value} {m : Str → Option Value} {base : Heap} {p loose mean mg mb} {s₂ : Shared} {own : List (Addr × Obj)} {Fin : List Value → List (Addr × Obj) → Prop} {r : Rd} {oR : Obj} {wl : List Value} {nw : Nat} {ln : Int} {u1 : Tok} {sl : List Value} {n : Nat}
    (B : Below LA base [] g) (X : (hd.heap_1 w.params).In g) (T : Top p loose mean mg mb g) (ok : r.Ok) (dR : oR.data = .cell (some (.ref r.x)))
    (off : OwnOff own ((lexRel r 1 0 [] 0 [] 0 [(wa, listOf wl.toArray nw), (L+1+1+1+1, oR)]).map (·.1))) (hoff : wa ∉ r.adr ∧ (L+1+1+1+1) ∉ r.adr) :
    ∀ (pl : List Value) i ys pn, i + pl.length = wl.length → pl.length ≤ 100 →
    (∀ ys' pn', ys' = ys ++ pl → Fin ys' (lexRel r ln u1 sl n [] pn' [(wa, listOf wl.toArray nw), (L+1+1+1+1, oR)] ++ own)) →
    CompRest PP w (LA.deeper (lawEnv L fa cd)) g L m (lawEnv L fa cd) (compElt rowC) (Str.ofString "word") (compSco rowC) [(Str.ofString "reader", L+1+1+1+1)] s₂ (SrcAt g wa wl.toArray) (fun i v => wl.toArray[i]? = some v) Fin pl.length i ys
      (lexRel r ln u1 sl n pl pn [(wa, listOf wl.toArray nw), (L+1+1+1+1, oR)] ++ own) := by
  intro pl
  induction pl with
  | nil =>
    intro i ys pn hi h100 hfin
    exact CompRest.zero (hfin ys pn (by simp))
  | cons y pl ih =>
    intro i ys pn hi h100 hfin
    refine CompRest.succ ?_
    intro v I oI C oC D m₂ h tk E' hP hNs hmx F N off3 ne
    have o := ok
    obtain ⟨o1, o2, o3, o4, o5, o6, o7, o8, d1, d2, d3⟩ := o
    simp only [List.length_cons] at hi h100
    conv in compElt rowC => whnf
    dsimp only [lexRel, lexNews, List.cons_append, List.nil_append] at N
    repeat' ((fail_if_success (with_reducible show wpAny _ _ (call (Value.ref 65) _) _ _ _)); first | (k_unfold; (try dsimp only)) | ((with_reducible show wpAny _ _ (call (Value.type "range") _) _ _ _); k_dflt (first | (refine' range1K ?zqF ?zqN ?_; (case zqF => k_asm); (case zqN => k_asm)) | (refine' range2K ?zqF ?zqN ?_; (case zqF => k_asm); (case zqN => k_asm))); walk_at "In9") | ((with_reducible show wpAny _ _ (call (Value.builtin "len") _) _ _ _); (k_dflt (refine len_any (News.isList (by k_asm) (by k_mem)) (by omega) ?_))) | walk1 | (dsimp only; walk1))
    dsimp only [List.append_nil]
    have NL : News g L h (lexNews r ln u1 sl n (y :: pl) pn) := news_sub N (by walk_at "Sub9")
    have NO : ∀ q ∈ (I, oI) :: (C, oC) :: (D, lst ys) :: (wa, listOf wl.toArray nw) :: (L+1+1+1+1, oR) :: own, (h.get? q.1 = some q.2 ∧ q.1 ≠ L ∧ g.get? q.1 = none) ∧ q.1 ∉ r.adr := by
      have f3 := off3.mem
      have fl : ∀ a ∈ r.adr, a ≠ I ∧ a ≠ C ∧ a ≠ D := by
        intro a ha
        have : ∃ o, (a, o) ∈ lexNews r ln u1 sl n (y :: pl) pn := by
          obtain ⟨p9, hp9, e9⟩ := List.mem_map.mp (show a ∈ (lexNews r ln u1 sl n (y :: pl) pn).map (·.1) from ha)
          exact ⟨p9.2, by rw [← e9]; exact hp9⟩
        obtain ⟨o, ho⟩ := this
        exact f3 _ (List.mem_append_left _ (List.mem_append_left _ ho))
      intro q hq
      rcases List.mem_cons.mp hq with rfl | hq
      · exact ⟨N _ (by k_mem), fun z => (fl _ z).1 rfl⟩
      rcases List.mem_cons.mp hq with rfl | hq
      · exact ⟨N _ (by k_mem), fun z => (fl _ z).2.1 rfl⟩
      rcases List.mem_cons.mp hq with rfl | hq
      · exact ⟨N _ (by k_mem), fun z => (fl _ z).2.2 rfl⟩
      rcases List.mem_cons.mp hq with rfl | hq
      · exact ⟨N _ (by k_mem), hoff.1⟩
      rcases List.mem_cons.mp hq with rfl | hq
      · exact ⟨N _ (by k_mem), hoff.2⟩
      refine ⟨N q (by repeat (first | assumption | refine List.Mem.tail _ ?_)), fun z => off q hq q.1 ?_ rfl⟩
      exact List.mem_append_left _ z
    refine wpAny_call (gt_push (cx_of (env := lawEnv L fa cd) B F X T rfl rfl) (by decide) (by omega) ok NL fun h' tk' hag hN => ?_)
    dsimp only
    k_unfold
    try dsimp only
    refine CompEnd.intro (all := (I, oI) :: (C, oC) :: (D, lst ys) :: (lexRel r ln u1 sl n pl (pn + 1) [(wa, listOf wl.toArray nw), (L+1+1+1+1, oR)] ++ own)) (after_fr F NL hag) ?_ (lexRel r ln u1 sl n pl (pn + 1) [(wa, listOf wl.toArray nw), (L+1+1+1+1, oR)] ++ own) (fun _ hp => hp) off3 (.inr ⟨listOf wl.toArray nw, ?_, rfl, nw, rfl⟩)
      (ih (i + 1) (ys ++ [y]) (pn + 1) (by omega) (by omega) fun ys' pn' e => hfin ys' pn' (by rw [e, List.append_assoc]; rfl))
    · have on : ∀ q, q ∈ (I, oI) :: (C, oC) :: (D, lst ys) :: (wa, listOf wl.toArray nw) :: (L+1+1+1+1, oR) :: own → h'.get? q.1 = some q.2 ∧ q.1 ≠ L ∧ g.get? q.1 = none := fun q hq => ⟨hag _ _ (NO q hq).1.1 (NO q hq).2, (NO q hq).1.2⟩
      intro q hq
      rcases List.mem_cons.mp hq with rfl | hq
      · exact on _ (by k_mem)
      rcases List.mem_cons.mp hq with rfl | hq
      · exact on _ (by k_mem)
      rcases List.mem_cons.mp hq with rfl | hq
      · exact on _ (by k_mem)
      rcases List.mem_append.mp hq with hq | hq
      · rcases List.mem_append.mp hq with hq | hq
        · exact hN q hq
        · rcases List.mem_cons.mp hq with rfl | hq
          · exact on _ (by k_mem)
          rw [List.mem_singleton.mp hq]
          exact on _ (by k_mem)
      · exact on q (.tail _ (.tail _ (.tail _ (.tail _ (.tail _ hq)))))
    · exact List.mem_append_left _ (List.mem_append_right _ (.head _))
end Mine
end

section
open PySem PySem.W PyProof.Rows
namespace Mine
theorem anew63 : True ∧ True := by
  walk1
  w_top off
  all_goals exact True.intro
end Mine
end

section
open PySem PySem.W PySem.Calls PyProof.Rows PyProof.Rows.LCg
set_option maxRecDepth 100000
set_option maxHeartbeats 1000000
namespace Mine



theorem wrd_rest {w : World} {g : Heap} {L fa wa od : Addr} {cd : Value} {m : Str → Option Value} {base : Heap} {p loose mean mg mb} {s₂ : Shared} {own : List (Addr × Obj)} {Fin : List Value → List (Addr × Obj) → Prop} {oW : Obj} {wl os : List Value} {nw : Nat} {ws : List Str} {ords : List Int}
    (B : Below LA base [] g) (X : (hd.heap_1 w.params).In g) (T : Top p loose mean mg mb g) (dW : oW.data = .cell (some (.ref wa))) (hi : IntsAre os ords) (hw : StrsAre wl ws) (hb : ∀ o ∈ ords, 0 ≤ o ∧ o < (ws.length : Int)) (h8 : ws.length ≤ 8)
    (fin : ∀ ys, StrsAre ys (ords.map fun o => ws.getD o.toNat (Str.ofString "")) → Fin ys ((od, lst os) :: (wa, listOf wl.toArray nw) :: (L+1+1, oW) :: own)) :
    ∀ k i ys, i + k = os.length → StrsAre ys ((ords.take i).map fun o => ws.getD o.toNat (Str.ofString "")) →
    CompRest PP w (LA.deeper (lawEnv L fa cd)) g L m (lawEnv L fa cd) (compElt wrdC) (Str.ofString "k") (compSco wrdC) [(Str.ofString "words", L+1+1)] s₂ (SrcAt g od os.toArray) (fun i v => os.toArray[i]? = some v) Fin k i ys ((od, lst os) :: (wa, listOf wl.toArray nw) :: (L+1+1, oW) :: own) := by
  have hol := hi.length
  intro k
  induction k with
  | zero =>
    intro i ys hik hy
    refine CompRest.zero (fin ys ?_)
    rw [List.take_of_length_le (by omega)] at hy
    exact hy
  | succ k ih =>
    intro i ys hik hy
    refine CompRest.succ ?_
    intro v I oI C oC D m₂ h tk E' hP hNs hmx F N off ne
    obtain ⟨o, t, rfl, ho⟩ := ints_at hi (i := i) (v := v) (by simpa using hP)
    have hob := hb o (List.mem_of_getElem? ho)
    obtain ⟨tw, htw⟩ := hw.get o.toNat (ws.getD o.toNat (Str.ofString "")) (by rw [List.getD_eq_getElem?_getD, List.getElem?_eq_getElem (by omega)]; rfl)
    conv in compElt wrdC => whnf
    repeat' ((fail_if_success (with_reducible show wpAny _ _ (subscriptTail _ _ _ _) _ _ _)); first | (k_unfold; (try dsimp only)) | ((with_reducible show wpAny _ _ (call (Value.type "range") _) _ _ _); k_dflt (first | (refine' range1K ?zqF ?zqN ?_; (case zqF => k_asm); (case zqN => k_asm)) | (refine' range2K ?zqF ?zqN ?_; (case zqF => k_asm); (case zqN => k_asm))); walk_at "In9") | ((with_reducible show wpAny _ _ (call (Value.builtin "len") _) _ _ _); (k_dflt (refine len_any (News.isList (by k_asm) (by k_mem)) (by omega) ?_))) | walk1 | (dsimp only; walk1))
    refine PyProof.Rows.item_listL (News.isList N (by k_mem)) hob.1 (by omega) htw ?_
    try k_unfold
    try dsimp only
    refine CompEnd.intro F N ((od, lst os) :: (wa, listOf wl.toArray nw) :: (L+1+1, oW) :: own) (fun _ hq => hq) off (.inr ⟨lst os, .head _, rfl, os.length, rfl⟩) (ih _ _ (by omega) ?_)
    rw [map_take_snoc (fun o : Int => ws.getD o.toNat (Str.ofString "")) ho]
    exact strs_snoc hy _ _

theorem ph20 {w : World} {g : Heap} {L fa wa od : Addr} {cd : Value} {s : Shared} {m : Str → Option Value} {Q : Flow → Shared → Prop} {r : Rd} {oR oW : Obj} {wl sl pl os : List Value} {nw n pn : Nat} {ln : Int} {u1 : Tok} {ws row : List Str} {ords : List Int}
    (bas : Bas w g) (F : Fr g L s.heap m) (hmo : m (Str.ofString "order") = some (.ref od)) (ok : r.Ok) (N : News g L s.heap (lexNews r ln u1 sl n pl pn)) (NM : News g L s.heap [(wa, listOf wl.toArray nw), (L+1+1+1+1, oR), (L+1+1, oW), (od, lst os)])
    (dR : oR.data = .cell (some (.ref r.x))) (dW : oW.data = .cell (some (.ref wa))) (hoff : wa ∉ r.adr ∧ (L+1+1+1+1) ∉ r.adr) (hoff2 : (L+1+1) ∉ r.adr ∧ od ∉ r.adr)
    (hw : StrsAre wl ws) (hl8 : ws.length ≤ 8) (hp : StrsAre pl row) (hpl : pl.length = wl.length) (hi : IntsAre os ords) (hb : ∀ o ∈ ords, 0 ≤ o ∧ o < (ws.length : Int)) (ho8 : ords.length ≤ 8) (heq : row = ords.map fun o => ws.getD o.toNat (Str.ofString "")) (hok : ∀ x ∈ row, PyData.strOk x = true)
    (hne : @Ne Nat wa (L+1+1) ∧ @Ne Nat wa od ∧ @Ne Nat od (L+1+1+1+1))
    (k : ∀ h' tk pn', Fr g L h' m → Agree (L :: r.adr) s.heap h' → News g L h' (lexNews r ln u1 sl n [] pn') → Q .next { s with heap := h', toks := tk }) :
    wpAny (model PP w) (LA.deeper (lawEnv L fa cd)) (exec (lawStm 20) (lawEnv L fa cd)) Q (fun _ _ => False) s := by
  obtain ⟨h85, h36, h29, X, base, p, loose, mean, mg, mb, B, T⟩ := bas
  have NA : News g L s.heap (lexRel r ln u1 sl n pl pn [(wa, listOf wl.toArray nw), (L+1+1+1+1, oR), (L+1+1, oW), (od, lst os)]) := news_app N NM
  obtain ⟨own, O, N2, off⟩ := old_of F NA
  have off2 : OwnOff ((L+1+1, oW) :: (od, lst os) :: own) ((lexRel r 1 0 [] 0 [] 0 [(wa, listOf wl.toArray nw), (L+1+1+1+1, oR)]).map (·.1)) := by
    intro q hq b hb'
    have hb2 : b ∈ r.adr ∨ b = wa ∨ b = L+1+1+1+1 := by
      rcases List.mem_append.mp (show b ∈ r.adr ++ [wa, L+1+1+1+1] from hb') with h | h
      · exact .inl h
      rcases List.mem_cons.mp h with h | h
      · exact .inr (.inl h)
      · exact .inr (.inr (List.mem_singleton.mp h))
    rcases List.mem_cons.mp hq with rfl | hq
    · rcases hb2 with h | h | h
      · exact fun e => hoff2.1 (by have e' : L+1+1 = b := e; rw [e']; exact h)
      · rw [h]; exact hne.1.symm
      · rw [h]; exact neN (by dsimp only; omega)
    rcases List.mem_cons.mp hq with rfl | hq
    · rcases hb2 with h | h | h
      · exact fun e => hoff2.2 (by have e' : od = b := e; rw [e']; exact h)
      · rw [h]; exact hne.2.1.symm
      · rw [h]; exact hne.2.2
    · refine off q hq b (show b ∈ r.adr ++ [wa, L+1+1+1+1, L+1+1, od] from ?_)
      rcases hb2 with h | rfl | rfl
      · exact List.mem_append_left _ h
      · exact List.mem_append_right _ (.head _)
      · exact List.mem_append_right _ (.tail _ (.head _))
  have hwl := hw.length
  have hol := hi.length
  have F2 := fr_ov [(Str.ofString "order", _)] F (AtM.all ⟨hmo, trivial⟩)
  have hov := ov_eq (m := m) (l := [(Str.ofString "order", .ref od)]) (AtM.all ⟨hmo, trivial⟩)
  dsimp only [ov] at F2
  dsimp only [lexRel, lexNews, List.cons_append, List.nil_append] at N2
  have hideN : News g L s.heap (lexNews r ln u1 sl n pl pn) ∧ True := ⟨N, trivial⟩
  clear F N NM NA
  conv in lawStm 20 => whnf
  repeat' ((fail_if_success (with_reducible show wpAny _ _ (eval (Expr.ListComp _ _ _ _) _) _ _ _)); first | (k_unfold; (try dsimp only)) | ((with_reducible show wpAny _ _ (call (Value.type "range") _) _ _ _); k_dflt (first | (refine' range1K ?zqF ?zqN ?_; (case zqF => k_asm); (case zqN => k_asm)) | (refine' range2K ?zqF ?zqN ?_; (case zqF => k_asm); (case zqN => k_asm))); walk_at "In9") | ((with_reducible show wpAny _ _ (call (Value.builtin "len") _) _ _ _); (k_dflt (refine len_any (News.isList (by k_asm) (by k_mem)) (by omega) ?_))) | walk1 | (dsimp only; walk1))
  refine ListComp_U F2 (by rfl) (by decide) (by rfl) (by decide) (by rfl) ?_
  repeat' ((fail_if_success (with_reducible show CompSrc _ _ _ _ _ _ _ _ _ _ _ _ _ _)); first | (k_unfold; (try dsimp only)) | ((with_reducible show wpAny _ _ (call (Value.type "range") _) _ _ _); k_dflt (first | (refine' range1K ?zqF ?zqN ?_; (case zqF => k_asm); (case zqN => k_asm)) | (refine' range2K ?zqF ?zqN ?_; (case zqF => k_asm); (case zqN => k_asm))); walk_at "In9") | ((with_reducible show wpAny _ _ (call (Value.builtin "len") _) _ _ _); (k_dflt (refine len_any (News.isList (by k_asm) (by k_mem)) (by omega) ?_))) | walk1 | (dsimp only; walk1))
  have hw8 : wl.toArray.size = pl.length := by simp [hpl]
  have NN : News g L s.heap (lexRel r ln u1 sl n pl pn [(wa, listOf wl.toArray nw), (L+1+1+1+1, oR)] ++ ((L+1+1, oW) :: (od, lst os) :: own)) := N2
  refine CompSrc.ledger (its := wl.toArray) (k := nw) (news := lexRel r ln u1 sl n pl pn [(wa, listOf wl.toArray nw), (L+1+1+1+1, oR)] ++ ((L+1+1, oW) :: (od, lst os) :: own)) rfl F2 NN (List.mem_append_left _ (List.mem_append_right _ (.head _))) (by rw [sizeLine_eq]; omega) fun g' => ?_
  rw [hw8]
  refine row_rest B X T ok dR off2 hoff pl 0 [] pn (by omega) (by omega) fun ys pn' eys => ?_
  rw [List.nil_append] at eys
  rw [eys]
  intro D h2 tk2 F3 N3 oD
  clear NN N2 F2
  have hideD : News g L h2 ((D, lst pl) :: (lexRel r ln u1 sl n [] pn' [(wa, listOf wl.toArray nw), (L+1+1+1+1, oR)] ++ ((L+1+1, oW) :: (od, lst os) :: own))) ∧ True := ⟨N3, trivial⟩
  clear N3
  try dsimp only
  refine ListComp_U F3 (by rfl) (by decide) (by rfl) (by decide) (by rfl) ?_
  repeat' ((fail_if_success (with_reducible show CompSrc _ _ _ _ _ _ _ _ _ _ _ _ _ _)); first | (k_unfold; (try dsimp only)) | ((with_reducible show wpAny _ _ (call (Value.type "range") _) _ _ _); k_dflt (first | (refine' range1K ?zqF ?zqN ?_; (case zqF => k_asm); (case zqN => k_asm)) | (refine' range2K ?zqF ?zqN ?_; (case zqF => k_asm); (case zqN => k_asm))); walk_at "In9") | ((with_reducible show wpAny _ _ (call (Value.builtin "len") _) _ _ _); (k_dflt (refine len_any (News.isList (by k_asm) (by k_mem)) (by omega) ?_))) | walk1 | (dsimp only; walk1))
  have hos8 : os.toArray.size = os.length := by simp
  refine CompSrc.ledger (its := os.toArray) (k := os.length) (news := (od, lst os) :: (wa, listOf wl.toArray nw) :: (L+1+1, oW) :: ((D, lst pl) :: (lexNews r ln u1 sl n [] pn' ++ ((L+1+1+1+1, oR) :: own)))) rfl F3 (fun q hq => hideD.1 q ?_) (.head _) (by rw [sizeLine_eq]; omega) fun g2 => ?_
  · rcases List.mem_cons.mp hq with rfl | hq
    · exact .tail _ (List.mem_append_right _ (.tail _ (.head _)))
    rcases List.mem_cons.mp hq with rfl | hq
    · exact .tail _ (List.mem_append_left _ (List.mem_append_right _ (.head _)))
    rcases List.mem_cons.mp hq with rfl | hq
    · exact .tail _ (List.mem_append_right _ (.head _))
    rcases List.mem_cons.mp hq with rfl | hq
    · exact .head _
    rcases List.mem_append.mp hq with h | h
    · exact .tail _ (List.mem_append_left _ (List.mem_append_left _ h))
    rcases List.mem_cons.mp h with rfl | h
    · exact .tail _ (List.mem_append_left _ (List.mem_append_right _ (.tail _ (.head _))))
    · exact .tail _ (List.mem_append_right _ (.tail _ (.tail _ h)))
  rw [hos8]
  refine wrd_rest B X T dW hi hw hb hl8 (fun zs hzs => ?_) os.length 0 [] (Nat.zero_add _) .nil
  intro D2 h3 tk3 F4 N4 oD2
  clear F3
  rw [← heq] at hzs
  dsimp only
  repeat' ((fail_if_success (with_reducible show wpAny _ _ (compareOp _ _ _) _ _ _)); first | (k_unfold; (try dsimp only)) | ((with_reducible show wpAny _ _ (call (Value.type "range") _) _ _ _); k_dflt (first | (refine' range1K ?zqF ?zqN ?_; (case zqF => k_asm); (case zqN => k_asm)) | (refine' range2K ?zqF ?zqN ?_; (case zqF => k_asm); (case zqN => k_asm))); walk_at "In9") | ((with_reducible show wpAny _ _ (call (Value.builtin "len") _) _ _ _); (k_dflt (refine len_any (News.isList (by k_asm) (by k_mem)) (by omega) ?_))) | walk1 | (dsimp only; walk1))
  refine ne_strs (ns := row) (ms := row) (News.isList N4 (.tail _ (.tail _ (.tail _ (.tail _ (.head _)))))) (News.isList N4 (.head _)) hp hzs hok hok (Nat.le_of_ble_eq_true rfl) ?_
  rw [decide_eq_true rfl]
  have hide4 : News g L h3 ((D2, lst zs) :: (od, lst os) :: (wa, listOf wl.toArray nw) :: (L+1+1, oW) :: ((D, lst pl) :: (lexNews r ln u1 sl n [] pn' ++ ((L+1+1+1+1, oR) :: own)))) ∧ True := ⟨N4, trivial⟩
  clear N4
  repeat' (first | (k_unfold; (try dsimp only)) | ((with_reducible show wpAny _ _ (call (Value.type "range") _) _ _ _); k_dflt (first | (refine' range1K ?zqF ?zqN ?_; (case zqF => k_asm); (case zqN => k_asm)) | (refine' range2K ?zqF ?zqN ?_; (case zqF => k_asm); (case zqN => k_asm))); walk_at "In9") | ((with_reducible show wpAny _ _ (call (Value.builtin "len") _) _ _ _); (k_dflt (refine len_any (News.isList (by k_asm) (by k_mem)) (by omega) ?_))) | (k_end; wrow_close) | walk1 | (dsimp only; walk1) | (leave1; walk_say "STEP leave1"; try dsimp only) | fail "no step")
  have F5 := fr_back hov F4
  have hown : ∀ q ∈ own, q ∈ (D2, lst zs) :: (od, lst os) :: (wa, listOf wl.toArray nw) :: (L+1+1, oW) :: ((D, lst pl) :: (lexNews r ln u1 sl n [] pn' ++ ((L+1+1+1+1, oR) :: own))) := fun q hq => .tail _ (.tail _ (.tail _ (.tail _ (.tail _ (List.mem_append_right _ (.tail _ hq))))))
  refine k _ _ pn' F5 (O.agree F5 hide4.1 hown r.adr ?_) (fun q hq => hide4.1 q (.tail _ (.tail _ (.tail _ (.tail _ (.tail _ (List.mem_append_left _ hq)))))))
  refine ⟨.inl (by k_mem), .inl (by k_mem), .inl (by k_mem), .inl (by k_mem), .inl (by k_mem), .inl (by k_mem), .inl (by k_mem), .inl (by k_mem), .inl (by k_mem), .inr ?_, .inr ?_, .inr ?_, .inr ?_, trivial⟩
  · exact .tail _ (.tail _ (.head _))
  · exact .tail _ (.tail _ (.tail _ (.tail _ (.tail _ (List.mem_append_right _ (.head _))))))
  · exact .tail _ (.tail _ (.tail _ (.head _)))
  · exact .tail _ (.head _)
end Mine
end

section
open PySem PySem.W PyProof.Rows
namespace Mine
theorem anew64 : True ∧ True := by
  walk1
  w_top off
  all_goals exact True.intro
end Mine
end

section
open PySem PySem.W PySem.Calls PyProof.Rows PyProof.Rows.LCg PyProof.Rows.LCt
set_option maxRecDepth 100000
set_option maxHeartbeats 1000000
namespace Mine



noncomputable def fFor : Stmt := lawStm 21
noncomputable def bhFor : Stmt := (stBody fFor).getD 0 (.Pass ⟨0, 0, 0, 0⟩)
noncomputable def qS (i : Nat) : Stmt := (stBody bhFor).getD i (.Pass ⟨0, 0, 0, 0⟩)
noncomputable def subVal : Expr → Expr
  | .Subscript v _ _ => v
  | e => e
noncomputable def dueIn : Expr := callArg (subVal (asgVal (qS 1)))
noncomputable def alkC : Expr := callArg (asgVal (qS 2))
noncomputable def compTest : Expr → Expr
  | .ListComp _ (⟨_, _, t :: _, _⟩ :: _) _ _ => t
  | e => e
theorem dueIn_rest {w : World} {g : Heap} {L fa va : Addr} {cd : Value} {m : Str → Option Value} {base : Heap} {p loose mean mg mb} {s₂ : Shared} {own : List (Addr × Obj)} {Fin : List Value → List (Addr × Obj) → Prop} {oV : Obj} {vl : List Value} {nv : Nat} {vals : List Int}
    (B : Below LA base [] g) (X : (hd.heap_1 w.params).In g) (T : Top p loose mean mg mb g) (dV : oV.data = .cell (some (.ref va))) (hi : IntsAre vl vals) (hb : ∀ v ∈ vals, 0 ≤ v ∧ v < 16) (h8 : vals.length ≤ 8) {a n : Nat} (han : a + n ≤ vals.length) :
    ∀ k i ys (tps : List (Addr × Obj)), i + k = n →
    (∀ h, News g L h tps → Tups g L h ys ((List.range i).map fun j => (vals.getD (a + j) 0, ((a + j : Nat) : Int)))) →
    (∀ ys tps, (∀ h, News g L h tps → Tups g L h ys ((List.range n).map fun j => (vals.getD (a + j) 0, ((a + j : Nat) : Int)))) → Fin ys (tps ++ ((va, listOf vl.toArray nv) :: (L+1+1+1, oV) :: own))) →
    CompRest PP w (LA.deeper (lawEnv L fa cd)) g L m (lawEnv L fa cd) (compElt dueIn) (Str.ofString "m") (compSco dueIn) [(Str.ofString "values", L+1+1+1)] s₂ (fun _ => True) (fun i v => ∃ t, v = .int ((a : Int) + (i : Int)) t) Fin k i ys (tps ++ ((va, listOf vl.toArray nv) :: (L+1+1+1, oV) :: own)) := by
  intro k
  induction k with
  | zero =>
    intro i ys tps hik hy hfin
    obtain rfl : i = n := by omega
    exact CompRest.zero (hfin ys tps hy)
  | succ k ih =>
    intro i ys tps hik hy hfin
    refine CompRest.succ ?_
    intro v I oI C oC D m₂ h tk E' hP hNs hmx F N off ne
    obtain ⟨t, rfl⟩ := hP
    obtain ⟨ti, hti⟩ := hi.get (a + i) (vals.getD (a + i) 0) (by rw [List.getD_eq_getElem?_getD, List.getElem?_eq_getElem (by omega)]; rfl)
    have htn : ((a : Int) + (i : Int)).toNat = a + i := by omega
    have hvl := hi.length
    have NC : News g L h ((I, oI) :: (C, oC) :: (D, lst ys) :: (va, listOf vl.toArray nv) :: (L+1+1+1, oV) :: (tps ++ own)) := fun q hq => N q (by
      simp only [List.mem_cons, List.mem_append] at hq ⊢
      rcases hq with h | h | h | h | h | h | h <;> simp [h])
    have NN := N
    have hide : News g L h ((I, oI) :: (C, oC) :: (D, lst ys) :: (tps ++ ((va, listOf vl.toArray nv) :: (L+1+1+1, oV) :: own))) ∧ True := ⟨N, trivial⟩
    clear N NN
    conv in compElt dueIn => whnf
    repeat' ((fail_if_success (with_reducible show wpAny _ _ (subscriptTail _ _ _ _) _ _ _)); first | (k_unfold; (try dsimp only)) | ((with_reducible show wpAny _ _ (call (Value.type "range") _) _ _ _); k_dflt (first | (refine' range1K ?zqF ?zqN ?_; (case zqF => k_asm); (case zqN => k_asm)) | (refine' range2K ?zqF ?zqN ?_; (case zqF => k_asm); (case zqN => k_asm))); walk_at "In9") | ((with_reducible show wpAny _ _ (call (Value.builtin "len") _) _ _ _); (k_dflt (refine len_any (News.isList (by k_asm) (by k_mem)) (by omega) ?_))) | walk1 | (dsimp only; walk1))
    refine PyProof.Rows.item_listL (News.isList NC (by k_mem)) (by omega) (by omega) (by rw [htn]; exact hti) ?_
    repeat' ((fail_if_success (with_reducible show wpAny _ _ (newTuple _) _ _ _)); first | (k_unfold; (try dsimp only)) | ((with_reducible show wpAny _ _ (call (Value.type "range") _) _ _ _); k_dflt (first | (refine' range1K ?zqF ?zqN ?_; (case zqF => k_asm); (case zqN => k_asm)) | (refine' range2K ?zqF ?zqN ?_; (case zqF => k_asm); (case zqN => k_asm))); walk_at "In9") | ((with_reducible show wpAny _ _ (call (Value.builtin "len") _) _ _ _); (k_dflt (refine len_any (News.isList (by k_asm) (by k_mem)) (by omega) ?_))) | walk1 | (dsimp only; walk1))
    refine tup_here F hide.1 fun tp h3 F3 N3 lt3 => ?_
    try k_unfold
    try dsimp only
    have nt : ∀ {q : Addr × Obj}, q ∈ (I, oI) :: (C, oC) :: (D, lst ys) :: (tps ++ ((va, listOf vl.toArray nv) :: (L+1+1+1, oV) :: own)) → @Ne Nat tp q.1 := fun hq => Nat.ne_of_gt (lt3 _ hq)
    refine CompEnd.intro F3 N3 (((tp, { cls := .type "tuple", data := .seq #[Value.int (vals.getD (a + i) 0) ti, Value.int ((a : Int) + (i : Int)) t] 0 }) :: tps) ++ ((va, listOf vl.toArray nv) :: (L+1+1+1, oV) :: own)) (fun q hq => ?_)
      ⟨⟨nt (.head _), nt (.tail _ (.head _)), nt (.tail _ (.tail _ (.head _)))⟩, off⟩ trivial (ih _ _ _ (by omega) (fun h hN => ?_) hfin)
    · rcases List.mem_cons.mp hq with rfl | hq
      · exact .tail _ (.head _)
      rcases List.mem_cons.mp hq with rfl | hq
      · exact .tail _ (.tail _ (.head _))
      rcases List.mem_cons.mp hq with rfl | hq
      · exact .tail _ (.tail _ (.tail _ (.head _)))
      rcases List.mem_cons.mp hq with rfl | hq
      · exact .head _
      · exact .tail _ (.tail _ (.tail _ (.tail _ hq)))
    · rw [List.range_succ, List.map_append]
      exact Tups.snoc (hy h fun q hq => hN q (.tail _ hq)) ⟨tp, _, ti, t, 0, rfl, fun q hq => hN q (by rw [List.mem_singleton.mp hq]; exact .head _), rfl, rfl⟩

theorem alk_rest {w : World} {g : Heap} {L fa va du : Addr} {cd : Value} {m : Str → Option Value} {base : Heap} {p loose mean mg mb} {s₂ : Shared} {own : List (Addr × Obj)} {Fin : List Value → List (Addr × Obj) → Prop} {oV oD od : Obj} {vl : List Value} {nv nd : Nat} {vals : List Int} {d0 d1 : Int} {td0 td1 : Tok}
    (B : Below LA base [] g) (X : (hd.heap_1 w.params).In g) (T : Top p loose mean mg mb g) (dV : oV.data = .cell (some (.ref va))) (dD : oD.data = .cell (some (.ref du))) (hdc : od.cls = .type "tuple") (hdd : od.data = .seq #[.int d0 td0, .int d1 td1] nd) (hi : IntsAre vl vals) (h8 : vals.length ≤ 8) {a n : Nat} (han : a + n ≤ vals.length)
    (fin : ∀ ys : List Value, ys.length = ((List.range n).filter fun j => vals.getD (a + j) 0 == d0).length → Fin ys ((va, listOf vl.toArray nv) :: (L+1+1+1, oV) :: (L+1+1+1+1+1, oD) :: (du, od) :: own)) :
    ∀ k i (ys : List Value), i + k = n → ys.length = ((List.range i).filter fun j => vals.getD (a + j) 0 == d0).length →
    CompRestT PP w (LA.deeper (lawEnv L fa cd)) g L m (lawEnv L fa cd) (compTest alkC) (compElt alkC) (Str.ofString "m") (compSco alkC) [(Str.ofString "values", L+1+1+1), (Str.ofString "due", L+1+1+1+1+1)] s₂ (fun _ => True) (fun i v => ∃ t, v = .int ((a : Int) + (i : Int)) t) Fin k i ys ((va, listOf vl.toArray nv) :: (L+1+1+1, oV) :: (L+1+1+1+1+1, oD) :: (du, od) :: own) := by
  intro k
  induction k with
  | zero =>
    intro i ys hik hy
    obtain rfl : i = n := by omega
    exact CompRestT.zero (fin ys hy)
  | succ k ih =>
    intro i ys hik hy
    refine CompRestT.succ ?_
    intro v I oI C oC D m₂ h tk E' hP hNs hmx F N off ne
    obtain ⟨t, rfl⟩ := hP
    obtain ⟨ti, hti⟩ := hi.get (a + i) (vals.getD (a + i) 0) (by rw [List.getD_eq_getElem?_getD, List.getElem?_eq_getElem (by omega)]; rfl)
    have htn : ((a : Int) + (i : Int)).toNat = a + i := by omega
    have hvl := hi.length
    conv in (occs := *) compTest alkC => all_goals whnf
    repeat' ((fail_if_success (with_reducible show wpAny _ _ (subscriptTail _ _ (Value.ref va) _) _ _ _)); first | (k_unfold; (try dsimp only)) | ((with_reducible show wpAny _ _ (call (Value.type "range") _) _ _ _); k_dflt (first | (refine' range1K ?zqF ?zqN ?_; (case zqF => k_asm); (case zqN => k_asm)) | (refine' range2K ?zqF ?zqN ?_; (case zqF => k_asm); (case zqN => k_asm))); walk_at "In9") | ((with_reducible show wpAny _ _ (call (Value.builtin "len") _) _ _ _); (k_dflt (refine len_any (News.isList (by k_asm) (by k_mem)) (by omega) ?_))) | walk1 | (dsimp only; walk1))
    refine PyProof.Rows.item_listL (News.isList N (by k_mem)) (by omega) (by omega) (by rw [htn]; exact hti) ?_
    repeat' ((fail_if_success (with_reducible show wpAny _ _ (subscriptTail _ _ (Value.ref du) _) _ _ _)); first | (k_unfold; (try dsimp only)) | ((with_reducible show wpAny _ _ (call (Value.type "range") _) _ _ _); k_dflt (first | (refine' range1K ?zqF ?zqN ?_; (case zqF => k_asm); (case zqN => k_asm)) | (refine' range2K ?zqF ?zqN ?_; (case zqF => k_asm); (case zqN => k_asm))); walk_at "In9") | ((with_reducible show wpAny _ _ (call (Value.builtin "len") _) _ _ _); (k_dflt (refine len_any (News.isList (by k_asm) (by k_mem)) (by omega) ?_))) | walk1 | (dsimp only; walk1))
    refine PyProof.Rows.item_tuple (j := 0) ⟨od, (N (du, od) (by k_mem)).1, hdc, nd, hdd⟩ (by decide) (by decide) rfl rfl ?_
    show wpAny _ _ (compareOp .Eq (.int (vals.getD (a + i) 0) ti) (.int d0 td0)) _ _ _
    refine eq_int ?_
    refine wpAny_truthy_bool ?_
    have hcount : ((List.range (i + 1)).filter fun j => vals.getD (a + j) 0 == d0).length = ((List.range i).filter fun j => vals.getD (a + j) 0 == d0).length + (if vals.getD (a + i) 0 = d0 then 1 else 0) := by
      rw [List.range_succ, List.filter_append, List.length_append]
      congr 1
      by_cases hc : vals.getD (a + i) 0 = d0
      · rw [if_pos hc, List.filter_cons_of_pos (p := fun j => vals.getD (a + j) 0 == d0) (beq_iff_eq.mpr hc)]; rfl
      · rw [if_neg hc, List.filter_cons_of_neg (p := fun j => vals.getD (a + j) 0 == d0) (by simpa using hc)]; rfl
    by_cases hc : vals.getD (a + i) 0 = d0
    · rw [show (vals.getD (a + i) 0 == d0) = true from beq_iff_eq.mpr hc, if_pos rfl]
      conv in compElt alkC => whnf
      repeat' (first | (k_unfold; (try dsimp only)) | ((with_reducible show wpAny _ _ (call (Value.type "range") _) _ _ _); k_dflt (first | (refine' range1K ?zqF ?zqN ?_; (case zqF => k_asm); (case zqN => k_asm)) | (refine' range2K ?zqF ?zqN ?_; (case zqF => k_asm); (case zqN => k_asm))); walk_at "In9") | ((with_reducible show wpAny _ _ (call (Value.builtin "len") _) _ _ _); (k_dflt (refine len_any (News.isList (by k_asm) (by k_mem)) (by omega) ?_))) | (k_end; wrow_close) | walk1 | (dsimp only; walk1) | (leave1; walk_say "STEP leave1"; try dsimp only) | fail "no step")
      refine CompEnd.intro F N ((va, listOf vl.toArray nv) :: (L+1+1+1, oV) :: (L+1+1+1+1+1, oD) :: (du, od) :: own) (fun _ hq => hq) off trivial (ih _ _ (by omega) ?_)
      rw [hcount, if_pos hc, List.length_append, hy]; rfl
    · rw [show (vals.getD (a + i) 0 == d0) = false from beq_eq_false_iff_ne.mpr hc, if_neg (by simp)]
      refine CompEnd.intro F N ((va, listOf vl.toArray nv) :: (L+1+1+1, oV) :: (L+1+1+1+1+1, oD) :: (du, od) :: own) (fun _ hq => hq) off trivial (ih _ _ (by omega) ?_)
      rw [hcount, if_neg hc, hy]; rfl
end Mine
end

section
open PySem PySem.W PyProof.Rows
namespace Mine
theorem anew65 : True ∧ True := by
  walk1
  w_top off
  all_goals exact True.intro
end Mine
end

section
open PySem PySem.W PySem.Calls PyProof.Rows PyProof.Rows.LCg PyProof.Rows.LCt
set_option maxRecDepth 100000
set_option maxHeartbeats 1000000
namespace Mine


theorem fr_set_back {g h : Heap} {L : Addr} {l : List (Str × Value)} {m : Str → Option Value} {x : Str} {v : Option Value} (e : ov l m = m) (F : Fr g L h (fun y => if y = x then v else ov l m y)) : Fr g L h (fun y => if y = x then v else m y) := by rw [e] at F; exact F

theorem q_k {w : World} {g : Heap} {L fa : Addr} {cd : Value} {s : Shared} {m : Str → Option Value} {Q : Flow → Shared → Prop} {f b tot : Int} {t1 t2 t3 : Tok}
    (bas : Bas w g) (F : Fr g L s.heap m) (hmf : m (Str.ofString "first") = some (.int f t1)) (hmb : m (Str.ofString "behind") = some (.int b t2)) (hmt : m (Str.ofString "total") = some (.int tot t3)) (h0 : 0 ≤ f) (h1 : f < b) (h2 : b ≤ 8)
    (k : ∀ h' tk t, Fr g L h' (fun y => if y = Str.ofString "k" then some (.int ((3 * f + b + 1 + tot).fmod (b - f)) t) else m y) → Agree [L] s.heap h' → Q .next { s with heap := h', toks := tk }) :
    wpAny (model PP w) (LA.deeper (lawEnv L fa cd)) (exec (qS 0) (lawEnv L fa cd)) Q (fun _ _ => False) s := by
  obtain ⟨h85, h36, h29, X, base, p, loose, mean, mg, mb, B, T⟩ := bas
  obtain ⟨own, O, N2, off⟩ := old_of F News.nil
  rw [List.nil_append] at N2
  have F2 := fr_ov [(Str.ofString "first", _), (Str.ofString "behind", _), (Str.ofString "total", _)] F (AtM.all ⟨hmf, hmb, hmt, trivial⟩)
  have hov := ov_eq (m := m) (l := [(Str.ofString "first", .int f t1), (Str.ofString "behind", .int b t2), (Str.ofString "total", .int tot t3)]) (AtM.all ⟨hmf, hmb, hmt, trivial⟩)
  dsimp only [ov] at F2
  clear F
  have hbf : b - f ≠ 0 := by omega
  conv in qS 0 => whnf
  repeat' (first | (k_unfold; (try dsimp only)) | ((with_reducible show wpAny _ _ (call (Value.type "range") _) _ _ _); k_dflt (first | (refine' range1K ?zqF ?zqN ?_; (case zqF => k_asm); (case zqN => k_asm)) | (refine' range2K ?zqF ?zqN ?_; (case zqF => k_asm); (case zqN => k_asm))); walk_at "In9") | ((with_reducible show wpAny _ _ (call (Value.builtin "len") _) _ _ _); (k_dflt (refine len_any (News.isList (by k_asm) (by k_mem)) (by omega) ?_))) | (k_end; wrow_close) | walk1 | (dsimp only; walk1) | (leave1; walk_say "STEP leave1"; try dsimp only) | fail "no step")
  rename Fr _ _ _ _ => F9
  rename News _ _ _ _ => N9
  exact k _ _ _ (fr_set_back hov F9) (O.agree F9 N9 (by intro p hp; k_ownIn) [] trivial)

theorem q_alk {w : World} {g : Heap} {L fa va du : Addr} {cd : Value} {s : Shared} {m : Str → Option Value} {Q : Flow → Shared → Prop} {oV oD od : Obj} {vl : List Value} {nv nd : Nat} {vals : List Int} {d0 d1 : Int} {td0 td1 t1 t2 : Tok} {a b : Nat}
    (bas : Bas w g) (F : Fr g L s.heap m) (hmf : m (Str.ofString "first") = some (.int (a : Nat) t1)) (hmb : m (Str.ofString "behind") = some (.int (b : Nat) t2)) (hab : a < b) (hbl : b ≤ vals.length) (h8 : vals.length ≤ 8)
    (NM : News g L s.heap [(va, listOf vl.toArray nv), (L+1+1+1, oV), (L+1+1+1+1+1, oD), (du, od)]) (dV : oV.data = .cell (some (.ref va))) (dD : oD.data = .cell (some (.ref du))) (hdc : od.cls = .type "tuple") (hdd : od.data = .seq #[.int d0 td0, .int d1 td1] nd) (hi : IntsAre vl vals)
    (k : ∀ h' tk t, Fr g L h' (fun y => if y = Str.ofString "alike" then some (.int ((((List.range (b - a)).filter fun j => vals.getD (a + j) 0 == d0).length : Nat) : Int) t) else m y) → Agree [L] s.heap h' → Q .next { s with heap := h', toks := tk }) :
    wpAny (model PP w) (LA.deeper (lawEnv L fa cd)) (exec (qS 2) (lawEnv L fa cd)) Q (fun _ _ => False) s := by
  obtain ⟨h85, h36, h29, X, base, p, loose, mean, mg, mb, B, T⟩ := bas
  obtain ⟨own, O, N2, off⟩ := old_of F NM
  dsimp only [List.cons_append, List.nil_append] at N2
  have F2 := fr_ov [(Str.ofString "first", _), (Str.ofString "behind", _)] F (AtM.all ⟨hmf, hmb, trivial⟩)
  have hov := ov_eq (m := m) (l := [(Str.ofString "first", .int (a : Nat) t1), (Str.ofString "behind", .int (b : Nat) t2)]) (AtM.all ⟨hmf, hmb, trivial⟩)
  dsimp only [ov] at F2
  clear F NM
  have hvl := hi.length
  conv in qS 2 => whnf
  repeat' ((fail_if_success (with_reducible show wpAny _ _ (eval (Expr.ListComp _ _ _ _) _) _ _ _)); first | (k_unfold; (try dsimp only)) | ((with_reducible show wpAny _ _ (call (Value.type "range") _) _ _ _); k_dflt (first | (refine' range1K ?zqF ?zqN ?_; (case zqF => k_asm); (case zqN => k_asm)) | (refine' range2K ?zqF ?zqN ?_; (case zqF => k_asm); (case zqN => k_asm))); walk_at "In9") | ((with_reducible show wpAny _ _ (call (Value.builtin "len") _) _ _ _); (k_dflt (refine len_any (News.isList (by k_asm) (by k_mem)) (by omega) ?_))) | walk1 | (dsimp only; walk1))
  rename Fr _ _ _ _ => F8
  refine ListComp_T F8 (by rfl) (by decide) (by rfl) (by decide) (by rfl) ?_
  repeat' ((fail_if_success (with_reducible show CompSrcT _ _ _ _ _ _ _ _ _ _ _ _ _ _ _)); first | (k_unfold; (try dsimp only)) | ((with_reducible show wpAny _ _ (call (Value.type "range") _) _ _ _); k_dflt (first | (refine' range1K ?zqF ?zqN ?_; (case zqF => k_asm); (case zqN => k_asm)) | (refine' range2K ?zqF ?zqN ?_; (case zqF => k_asm); (case zqN => k_asm))); walk_at "In9") | ((with_reducible show wpAny _ _ (call (Value.builtin "len") _) _ _ _); (k_dflt (refine len_any (News.isList (by k_asm) (by k_mem)) (by omega) ?_))) | walk1 | (dsimp only; walk1))
  rename_i rg h7 tk7 t7 u7 v7 F9 N9 l9
  obtain ⟨y1, y2⟩ := small_of (a := ((a : Nat) : Int)) (b := ((b : Nat) : Int)) (by omega) (by omega) (by omega)
  refine CompSrcT.range (n := b - a) (news := (va, listOf vl.toArray nv) :: (L+1+1+1, oV) :: (L+1+1+1+1+1, oD) :: (du, od) :: ((rg, rngObj ((a : Nat) : Int) ((b : Nat) : Int) t7 u7 v7) :: own)) rfl F9 (fun q hq => N9 q ?_) (N9 (rg, _) (.head _)).1 y1 (by rw [y2]; omega) (by rw [sizeLine_eq]; omega) fun g' => ?_
  · exact (show ∀ q ∈ _, q ∈ _ from by walk_at "Subs9") q hq
  refine alk_rest (a := a) (n := b - a) B X T dV dD hdc hdd hi h8 (by omega) (fun ys hys => ?_) (b - a) 0 [] (Nat.zero_add _) rfl
  intro D h2 tk2 F2 N2' o2
  clear F9 N9
  dsimp only
  have hyb : ys.length ≤ 8 := by
    rw [hys]
    exact Nat.le_trans (List.length_filter_le _ _) (by rw [List.length_range]; omega)
  repeat' ((fail_if_success (with_reducible show wpAny _ _ (call (Value.builtin "len") _) _ _ _)); first | (k_unfold; (try dsimp only)) | ((with_reducible show wpAny _ _ (call (Value.type "range") _) _ _ _); k_dflt (first | (refine' range1K ?zqF ?zqN ?_; (case zqF => k_asm); (case zqN => k_asm)) | (refine' range2K ?zqF ?zqN ?_; (case zqF => k_asm); (case zqN => k_asm))); walk_at "In9") | ((with_reducible show wpAny _ _ (call (Value.builtin "len") _) _ _ _); (k_dflt (refine len_any (News.isList (by k_asm) (by k_mem)) (by omega) ?_))) | walk1 | (dsimp only; walk1))
  refine len_any (News.isList N2' (.head _)) (by omega) ?_
  rw [hys]
  repeat' (first | (k_unfold; (try dsimp only)) | ((with_reducible show wpAny _ _ (call (Value.type "range") _) _ _ _); k_dflt (first | (refine' range1K ?zqF ?zqN ?_; (case zqF => k_asm); (case zqN => k_asm)) | (refine' range2K ?zqF ?zqN ?_; (case zqF => k_asm); (case zqN => k_asm))); walk_at "In9") | ((with_reducible show wpAny _ _ (call (Value.builtin "len") _) _ _ _); (k_dflt (refine len_any (News.isList (by k_asm) (by k_mem)) (by omega) ?_))) | (k_end; wrow_close) | walk1 | (dsimp only; walk1) | (leave1; walk_say "STEP leave1"; try dsimp only) | fail "no step")
  rename Fr _ _ _ _ => F9
  rename News _ _ _ _ => N9
  exact k _ _ _ (fr_set_back hov F9) (O.agree F9 N9 (by intro p hp; k_ownIn) [] (by walk_at "Same9"))
end Mine
end

section
open PySem PySem.W PyProof.Rows
namespace Mine
theorem anew66 : True ∧ True := by
  walk1
  w_top off
  all_goals exact True.intro
end Mine
end

section
open PySem PySem.W PySem.Calls PyProof.Rows PyProof.Rows.LCg PyProof.Rows.LCt
set_option maxRecDepth 100000
set_option maxHeartbeats 1000000
namespace Mine


noncomputable def duePs (vals : List Int) (a n : Nat) : List (Int × Int) := (List.range n).map fun j => (vals.getD (a + j) 0, ((a + j : Nat) : Int))
theorem duePs_len (vals : List Int) (a n : Nat) : (duePs vals a n).length = n := by simp [duePs]
theorem duePs_get (vals : List Int) {a n i : Nat} (hi : i < n) : (duePs vals a n).getD i (0, 0) = (vals.getD (a + i) 0, ((a + i : Nat) : Int)) := by
  unfold duePs
  rw [List.getD_eq_getElem?_getD, List.getElem?_map, List.getElem?_range hi]; rfl
theorem due_inj (vals : List Int) (a n : Nat) (h8 : a + n ≤ 100) : Inj (keyP (duePs vals a n)) n := by
  intro i j hi hj e
  unfold keyP at e
  rw [duePs_get vals hi, duePs_get vals hj] at e
  unfold codeP at e
  dsimp only at e
  omega

theorem q_due {w : World} {g : Heap} {L fa va : Addr} {cd : Value} {s : Shared} {m : Str → Option Value} {Q : Flow → Shared → Prop} {oV oD : Obj} {vl : List Value} {nv : Nat} {vals : List Int} {t1 t2 t3 : Tok} {a b kk : Nat}
    (bas : Bas w g) (F : Fr g L s.heap m) (hmf : m (Str.ofString "first") = some (.int (a : Nat) t1)) (hmb : m (Str.ofString "behind") = some (.int (b : Nat) t2)) (hmk : m (Str.ofString "k") = some (.int (kk : Nat) t3)) (hab : a < b) (hbl : b ≤ vals.length) (hkk : kk < b - a) (h8 : vals.length ≤ 8) (hb : ∀ v ∈ vals, 0 ≤ v ∧ v < 16)
    (NM : News g L s.heap [(va, listOf vl.toArray nv), (L+1+1+1, oV), (L+1+1+1+1+1, oD)]) (dV : oV.data = .cell (some (.ref va))) (x : Option Value) (dD : oD.data = .cell x) (hi : IntsAre vl vals) (hva : @LT.lt Nat _ (L+1+1+1+1+1) va)
    (k : ∀ h' tk p du od oD' td0 td1 nd, Fr g L h' m → Agree [L, L+1+1+1+1+1] s.heap h' → Arr (b - a) p → Asc (keyP (duePs vals a (b - a))) p (b - a) → News g L h' [(L+1+1+1+1+1, oD'), (du, od)] → oD'.data = .cell (some (.ref du)) → od.cls = .type "tuple" →
      od.data = .seq #[.int ((duePs vals a (b - a)).getD (p.getD kk 0) (0, 0)).1 td0, .int ((duePs vals a (b - a)).getD (p.getD kk 0) (0, 0)).2 td1] nd → Q .next { s with heap := h', toks := tk }) :
    wpAny (model PP w) (LA.deeper (lawEnv L fa cd)) (exec (qS 1) (lawEnv L fa cd)) Q (fun _ _ => False) s := by
  obtain ⟨h85, h36, h29, X, base, p, loose, mean, mg, mb, B, T⟩ := bas
  obtain ⟨own, O, N2, off⟩ := old_of F NM
  dsimp only [List.cons_append, List.nil_append] at N2
  have F2 := fr_ov [(Str.ofString "first", _), (Str.ofString "behind", _), (Str.ofString "k", _)] F (AtM.all ⟨hmf, hmb, hmk, trivial⟩)
  have hov := ov_eq (m := m) (l := [(Str.ofString "first", .int (a : Nat) t1), (Str.ofString "behind", .int (b : Nat) t2), (Str.ofString "k", .int (kk : Nat) t3)]) (AtM.all ⟨hmf, hmb, hmk, trivial⟩)
  dsimp only [ov] at F2
  clear F NM
  have hvl := hi.length
  conv in qS 1 => whnf
  repeat' ((fail_if_success (with_reducible show wpAny _ _ (eval (Expr.ListComp _ _ _ _) _) _ _ _)); first | (k_unfold; (try dsimp only)) | ((with_reducible show wpAny _ _ (call (Value.type "range") _) _ _ _); k_dflt (first | (refine' range1K ?zqF ?zqN ?_; (case zqF => k_asm); (case zqN => k_asm)) | (refine' range2K ?zqF ?zqN ?_; (case zqF => k_asm); (case zqN => k_asm))); walk_at "In9") | ((with_reducible show wpAny _ _ (call (Value.builtin "len") _) _ _ _); (k_dflt (refine len_any (News.isList (by k_asm) (by k_mem)) (by omega) ?_))) | walk1 | (dsimp only; walk1))
  rename Fr _ _ _ _ => F8
  refine ListComp_U F8 (by rfl) (by decide) (by rfl) (by decide) (by rfl) ?_
  repeat' ((fail_if_success (with_reducible show CompSrc _ _ _ _ _ _ _ _ _ _ _ _ _ _)); first | (k_unfold; (try dsimp only)) | ((with_reducible show wpAny _ _ (call (Value.type "range") _) _ _ _); k_dflt (first | (refine' range1K ?zqF ?zqN ?_; (case zqF => k_asm); (case zqN => k_asm)) | (refine' range2K ?zqF ?zqN ?_; (case zqF => k_asm); (case zqN => k_asm))); walk_at "In9") | ((with_reducible show wpAny _ _ (call (Value.builtin "len") _) _ _ _); (k_dflt (refine len_any (News.isList (by k_asm) (by k_mem)) (by omega) ?_))) | walk1 | (dsimp only; walk1))
  rename_i rg h7 tk7 t7 u7 v7 F9 N9 l9
  obtain ⟨y1, y2⟩ := small_of (a := ((a : Nat) : Int)) (b := ((b : Nat) : Int)) (by omega) (by omega) (by omega)
  refine CompSrc.range (n := b - a) (news := [] ++ ((va, listOf vl.toArray nv) :: (L+1+1+1, oV) :: ((L+1+1+1+1+1, oD) :: (rg, rngObj ((a : Nat) : Int) ((b : Nat) : Int) t7 u7 v7) :: own))) rfl F9 (fun q hq => N9 q ?_) (N9 (rg, _) (.head _)).1 y1 (by rw [y2]; omega) (by rw [sizeLine_eq]; omega) fun g' => ?_
  · exact (show ∀ q ∈ _, q ∈ _ from by walk_at "Subs9") q hq
  refine dueIn_rest (a := a) (n := b - a) B X T dV hi hb h8 (by omega) (b - a) 0 [] [] (Nat.zero_add _) (fun h _ => .nil) fun ys tps ht => ?_
  intro D h2 tk2 F2 N2' o2
  clear F9 N9
  dsimp only
  repeat' ((fail_if_success (with_reducible show wpAny _ _ (call (Value.builtin "sorted") _) _ _ _)); first | (k_unfold; (try dsimp only)) | ((with_reducible show wpAny _ _ (call (Value.type "range") _) _ _ _); k_dflt (first | (refine' range1K ?zqF ?zqN ?_; (case zqF => k_asm); (case zqN => k_asm)) | (refine' range2K ?zqF ?zqN ?_; (case zqF => k_asm); (case zqN => k_asm))); walk_at "In9") | ((with_reducible show wpAny _ _ (call (Value.builtin "len") _) _ _ _); (k_dflt (refine len_any (News.isList (by k_asm) (by k_mem)) (by omega) ?_))) | walk1 | (dsimp only; walk1))
  have htl : Tups g L h2 ys (duePs vals a (b - a)) := ht h2 fun q hq => N2' q (.tail _ (List.mem_append_left _ hq))
  have hpl := duePs_len vals a (b - a)
  refine sorted_pairs F2 (News.isList N2' (.head _)) htl (by omega) (by omega) (fun xy hxy => ?_) (by rw [hpl]; exact due_inj vals a _ (by omega)) fun h3 tk3 D3 pp c F3 a3 N3 new3 ap as => ?_
  · obtain ⟨j, hj, rfl⟩ := List.mem_map.mp hxy
    have := List.mem_range.mp hj
    dsimp only
    omega
  rw [hpl] at ap as
  have NR3 := after_L (news := (tps ++ ((va, listOf vl.toArray nv) :: (L+1+1+1, oV) :: ((L+1+1+1+1+1, oD) :: (rg, rngObj ((a : Nat) : Int) ((b : Nat) : Int) t7 u7 v7) :: own)))) (fun q hq => N2' q (.tail _ hq)) a3
  have hps := ap.size
  have htl3 := ht h3 fun q hq => NR3 q (List.mem_append_left _ hq)
  have hpk := ap.lt (k := kk) hkk
  obtain ⟨du, od, td0, td1, nd, hdu, Ndu, hc, hdd⟩ := htl3.get (pp.getD kk 0) (by show _ < (duePs vals a (b - a)).length; rw [hpl]; exact hpk)
  have hget : (pp.toList.map fun i => ys.getD i Value.none)[kk]? = some (.ref du) := by
    rw [← hdu, List.getElem?_map]
    have : pp.toList[kk]? = some (pp.getD kk 0) := by
      rw [List.getElem?_eq_getElem (by rw [Array.length_toList]; omega)]
      simp [Array.getD, hps, hkk]
    rw [this]; rfl
  have hget2 : (List.toArray (pp.toList.map fun i => ys.getD i Value.none))[kk]? = some (.ref du) := by rw [List.getElem?_toArray]; exact hget
  clear F2 N2'
  have hideR : (News g L h3 (tps ++ ((va, listOf vl.toArray nv) :: (L+1+1+1, oV) :: ((L+1+1+1+1+1, oD) :: (rg, rngObj ((a : Nat) : Int) ((b : Nat) : Int) t7 u7 v7) :: own))) ∧ News g L h3 [(du, od)]) ∧ News g L h3 [(D3, listOf (pp.toList.map fun i => ys.getD i Value.none).toArray c)] := ⟨⟨NR3, Ndu⟩, N3⟩
  clear NR3 Ndu N3
  dsimp only
  repeat' ((fail_if_success (with_reducible show wpAny _ _ (subscriptTail _ _ (Value.ref _) _) _ _ _)); first | (k_unfold; (try dsimp only)) | ((with_reducible show wpAny _ _ (call (Value.type "range") _) _ _ _); k_dflt (first | (refine' range1K ?zqF ?zqN ?_; (case zqF => k_asm); (case zqN => k_asm)) | (refine' range2K ?zqF ?zqN ?_; (case zqF => k_asm); (case zqN => k_asm))); walk_at "In9") | ((with_reducible show wpAny _ _ (call (Value.builtin "len") _) _ _ _); (k_dflt (refine len_any (News.isList (by k_asm) (by k_mem)) (by omega) ?_))) | walk1 | (dsimp only; walk1))
  have hlD := News.isList hideR.2 (.head _)
  have k0 : (0 : Int) ≤ ((kk : Nat) : Int) := Int.natCast_nonneg kk
  have k1 : ((kk : Nat) : Int) < 2 ^ 63 := by omega
  have hT : ({ s with heap := h3, toks := tk3 } : Shared).TypeIs (.ref D3) "list" := by obtain ⟨o, ho, hc, _⟩ := hlD; exact ⟨o, ho, hc⟩
  refine' tail_any hT slot_list_getitem.lookup ?g9 ?hs9
  case hs9 => with_unfolding_all rfl
  refine wpAny_getItem_list hlD k0 k1 (x := .ref du) (by rw [Int.toNat_natCast]; exact hget2) ?_
  have nd5 : @Ne Nat du (L+1+1+1+1+1) := fun e => by
    have z1 := (hideR.1.2 _ (.head _)).1
    have z2 := (hideR.1.1 (L+1+1+1+1+1, oD) (List.mem_append_right _ (by k_mem))).1
    dsimp only at z1 z2
    rw [show du = L+1+1+1+1+1 from e, z2] at z1
    rw [← Option.some.inj z1, dD] at hdd
    cases hdd
  have NS : News g L h3 ((du, od) :: (L+1+1+1+1+1, oD) :: (va, listOf vl.toArray nv) :: (L+1+1+1, oV) :: own) := fun q hq => by
    rcases List.mem_cons.mp hq with rfl | hq
    · exact hideR.1.2 _ (.head _)
    · exact hideR.1.1 q (List.mem_append_right _ (by
        exact (show ∀ q ∈ _, q ∈ _ from by walk_at "Subs9") q hq))
  repeat' (first | (k_unfold; (try dsimp only)) | ((with_reducible show wpAny _ _ (call (Value.type "range") _) _ _ _); k_dflt (first | (refine' range1K ?zqF ?zqN ?_; (case zqF => k_asm); (case zqN => k_asm)) | (refine' range2K ?zqF ?zqN ?_; (case zqF => k_asm); (case zqN => k_asm))); walk_at "In9") | ((with_reducible show wpAny _ _ (call (Value.builtin "len") _) _ _ _); (k_dflt (refine len_any (News.isList (by k_asm) (by k_mem)) (by omega) ?_))) | (k_end; wrow_close) | walk1 | (dsimp only; walk1) | (leave1; walk_say "STEP leave1"; try dsimp only) | fail "no step")
  rename Fr _ _ _ _ => F9
  rename News _ _ _ _ => N9
  rename _ = Data.cell (some (Value.ref du)) => dD'
  exact k _ _ pp du od _ td0 td1 nd (fr_back hov F9) (O.agree F9 N9 (by intro p hp; k_ownIn) [L+1+1+1+1+1] (by walk_at "Same9")) ap as (news_sub N9 (by walk_at "Sub9")) dD' hc hdd
end Mine
end

section
open PySem PySem.W PyProof.Rows
namespace Mine
theorem anew67 : True ∧ True := by
  walk1
  w_top off
  all_goals exact True.intro
end Mine
end

section
open PySem PySem.W PySem.Calls PyProof.Rows PyProof.Rows.LCg PyProof.Rows.LCt
set_option maxRecDepth 100000
set_option maxHeartbeats 1000000
namespace Mine


theorem q_if {w : World} {g : Heap} {L fa du lv od cc : Addr} {cd : Value} {s : Shared} {m : Str → Option Value} {Q : Flow → Shared → Prop} {oD odu oc : Obj} {nd : Nat} {d0 d1 f b kk al : Int} {td0 td1 t1 t2 t3 t4 tq : Tok} {zl os : List Value} {nl : Nat} {zs : List (List Int)} {ords : List Int} {cv : Array Value}
    (bas : Bas w g) (F : Fr g L s.heap m) (hml : m (Str.ofString "levels") = some (.ref lv)) (hmf : m (Str.ofString "first") = some (.int f t1)) (hmb : m (Str.ofString "behind") = some (.int b t2)) (hmk : m (Str.ofString "k") = some (.int kk t3)) (hma : m (Str.ofString "alike") = some (.int al t4)) (hmo : m (Str.ofString "order") = some (.ref od))
    (o1 : @LT.lt Nat _ 32 cc) (NT : News g L s.heap [(32, tab32 cc), (cc, oc)]) (e1 : oc.data = .fields cv) (e2 : cv[1]? = some (.str d2iQual tq))
    (NM : News g L s.heap [(L+1+1+1+1+1, oD), (du, odu), (lv, listOf zl.toArray nl), (od, lst os)]) (dD : oD.data = .cell (some (.ref du))) (hdc : odu.cls = .type "tuple") (hdd : odu.data = .seq #[.int d0 td0, .int d1 td1] nd)
    (hz : LevelsAt s.heap zl zs) (h4 : zs.length = 4) (hz4 : zl.length = 4) (hlz : ∀ z, .ref z ∈ zl → z ≠ 32 ∧ z ≠ cc) (x1 : @Ne Nat lv 32 ∧ @Ne Nat lv cc ∧ @Ne Nat du 32 ∧ @Ne Nat du cc ∧ @Ne Nat od 32 ∧ @Ne Nat od cc ∧ @Ne Nat (L+1+1+1+1+1) 32 ∧ @Ne Nat (L+1+1+1+1+1) cc)
    (hi : IntsAre os ords) (hlay : PyData.layable0 (.list (ords.map .int)) = true) (hd1 : d1 ∈ ords)
    (hplain : ∀ e0 e1 e2 e3 f' b' k', Ask zs f b kk [e0, e1, e2, e3] f' b' k' → e3 + 2 * e2 + 4 * e1 + 8 * e0 = d0 ∧ f' + k' = (ords.idxOf d1 : Nat) ∧ b' - f' = al)
    (k : ∀ h' tk, Fr g L h' m → Agree [L, 32, cc] s.heap h' → News g L h' [(32, tab32 cc), (cc, oc)] → Q .next { s with heap := h', toks := tk }) :
    wpAny (model PP w) (LA.deeper (lawEnv L fa cd)) (exec (qS 3) (lawEnv L fa cd)) Q (fun _ _ => False) s := by
  obtain ⟨h85, h36, h29, X, base, p, loose, mean, mg, mb, B, T⟩ := bas
  have NA : News g L s.heap [(L+1+1+1+1+1, oD), (du, odu), (lv, listOf zl.toArray nl), (od, lst os), (32, tab32 cc), (cc, oc)] := news_app (a := [(L+1+1+1+1+1, oD), (du, odu), (lv, listOf zl.toArray nl), (od, lst os)]) NM NT
  obtain ⟨own, O, N2, off⟩ := old_of F NA
  dsimp only [List.cons_append, List.nil_append] at N2
  have F2 := fr_ov [(Str.ofString "levels", _), (Str.ofString "first", _), (Str.ofString "behind", _), (Str.ofString "k", _), (Str.ofString "alike", _), (Str.ofString "order", _)] F (AtM.all ⟨hml, hmf, hmb, hmk, hma, hmo, trivial⟩)
  have hov := ov_eq (m := m) (l := [(Str.ofString "levels", .ref lv), (Str.ofString "first", .int f t1), (Str.ofString "behind", .int b t2), (Str.ofString "k", .int kk t3), (Str.ofString "alike", .int al t4), (Str.ofString "order", .ref od)]) (AtM.all ⟨hml, hmf, hmb, hmk, hma, hmo, trivial⟩)
  dsimp only [ov] at F2
  clear F NM NT NA
  have hol := hi.length
  conv in qS 3 => whnf
  repeat' ((fail_if_success (with_reducible show wpAny _ _ (call (Value.ref 105) _) _ _ _)); first | (k_unfold; (try dsimp only)) | ((with_reducible show wpAny _ _ (call (Value.type "range") _) _ _ _); k_dflt (first | (refine' range1K ?zqF ?zqN ?_; (case zqF => k_asm); (case zqN => k_asm)) | (refine' range2K ?zqF ?zqN ?_; (case zqF => k_asm); (case zqN => k_asm))); walk_at "In9") | ((with_reducible show wpAny _ _ (call (Value.builtin "len") _) _ _ _); (k_dflt (refine len_any (News.isList (by k_asm) (by k_mem)) (by omega) ?_))) | walk1 | (dsimp only; walk1))
  refine wpAny_call (asked (cc := cc) (lv := lv) (cx_of (env := lawEnv L fa cd) B F2 X T rfl rfl) (by decide) o1 (news_sub N2 (by walk_at "Sub9")) e1 e2 (News.isList N2 (by k_mem)) hz h4 hz4 ⟨x1.1, x1.2.1⟩ hlz
    fun h2 tk2 D u0 u1 u2 f' b' k' q0 q1 q2 q3 ha hN hD hask => ?_)
  obtain ⟨r1, r2, r3⟩ := hplain _ _ _ _ _ _ _ hask
  rw [r1, r2, r3] at hN
  have F3 := after_fr F2 (news_sub N2 (rel := [(32, tab32 cc), (cc, oc)]) (by walk_at "Sub9")) ha
  have hDown : OwnOff own [D] := fun q hq a ha' e => by
    rw [List.mem_singleton.mp ha'] at e
    have := (N2 q (by k_ownIn)).1
    rw [e, hD] at this; cases this
  have N3 : News g L h2 ((D, listOf #[.int d0 u0, .int ((ords.idxOf d1 : Nat) : Int) u1, .int al u2] 0) :: (L+1+1+1+1+1, oD) :: (du, odu) :: (od, lst os) :: (lv, listOf zl.toArray nl) :: own) := by
    refine news_app (a := [(D, listOf #[.int d0 u0, .int ((ords.idxOf d1 : Nat) : Int) u1, .int al u2] 0)]) (fun q hq => hN q (by rw [List.mem_singleton.mp hq]; k_mem)) (after_news (S := [32, cc]) (news := (L+1+1+1+1+1, oD) :: (du, odu) :: (od, lst os) :: (lv, listOf zl.toArray nl) :: own) (fun q hq => N2 q ?_) ha ?_)
    · exact (show ∀ q ∈ _, q ∈ _ from by walk_at "Subs9") q hq
    · exact off_cons (not_mem2 x1.2.2.2.2.2.2.1 x1.2.2.2.2.2.2.2) (off_cons (not_mem2 x1.2.2.1 x1.2.2.2.1) (off_cons (not_mem2 x1.2.2.2.2.1 x1.2.2.2.2.2.1) (off_cons (not_mem2 x1.1 x1.2.1) (off_own off (by simp)))))
  have hT2 : News g L h2 [(32, tab32 cc), (cc, oc)] := fun q hq => hN q (by
    simp only [List.mem_cons, List.not_mem_nil, or_false] at hq
    rcases hq with rfl | rfl <;> k_mem)
  have N4 : News g L h2 ((D, listOf #[.int d0 u0, .int ((ords.idxOf d1 : Nat) : Int) u1, .int al u2] 0) :: (L+1+1+1+1+1, oD) :: (du, odu) :: (od, lst os) :: (lv, listOf zl.toArray nl) :: (32, tab32 cc) :: (cc, oc) :: own) := fun q hq => by
    simp only [List.mem_cons] at hq
    rcases hq with h | h | h | h | h | h | h | h
    · exact N3 q (by rw [h]; k_mem)
    · exact N3 q (by rw [h]; k_mem)
    · exact N3 q (by rw [h]; k_mem)
    · exact N3 q (by rw [h]; k_mem)
    · exact N3 q (by rw [h]; k_mem)
    · exact hT2 q (by rw [h]; k_mem)
    · exact hT2 q (by rw [h]; k_mem)
    · exact N3 q (.tail _ (.tail _ (.tail _ (.tail _ (.tail _ h)))))
  clear F2 N2 hN N3 hT2
  rename News _ _ _ _ => N3
  dsimp only
  repeat' ((fail_if_success (with_reducible show wpAny _ _ (subscriptTail _ _ (Value.ref du) _) _ _ _)); first | (k_unfold; (try dsimp only)) | ((with_reducible show wpAny _ _ (call (Value.type "range") _) _ _ _); k_dflt (first | (refine' range1K ?zqF ?zqN ?_; (case zqF => k_asm); (case zqN => k_asm)) | (refine' range2K ?zqF ?zqN ?_; (case zqF => k_asm); (case zqN => k_asm))); walk_at "In9") | ((with_reducible show wpAny _ _ (call (Value.builtin "len") _) _ _ _); (k_dflt (refine len_any (News.isList (by k_asm) (by k_mem)) (by omega) ?_))) | walk1 | (dsimp only; walk1))
  refine PyProof.Rows.item_tuple (j := 0) ⟨odu, (N3 (du, odu) (by k_mem)).1, hdc, nd, hdd⟩ (by decide) (by decide) rfl rfl ?_
  repeat' ((fail_if_success (with_reducible show wpAny _ _ (subscriptTail _ _ (Value.ref du) _) _ _ _)); first | (k_unfold; (try dsimp only)) | ((with_reducible show wpAny _ _ (call (Value.type "range") _) _ _ _); k_dflt (first | (refine' range1K ?zqF ?zqN ?_; (case zqF => k_asm); (case zqN => k_asm)) | (refine' range2K ?zqF ?zqN ?_; (case zqF => k_asm); (case zqN => k_asm))); walk_at "In9") | ((with_reducible show wpAny _ _ (call (Value.builtin "len") _) _ _ _); (k_dflt (refine len_any (News.isList (by k_asm) (by k_mem)) (by omega) ?_))) | walk1 | (dsimp only; walk1))
  refine PyProof.Rows.item_tuple (j := 1) ⟨odu, (N3 (du, odu) (by k_mem)).1, hdc, nd, hdd⟩ (by decide) (by decide) rfl rfl ?_
  repeat' ((fail_if_success (with_reducible show wpAny _ _ (call _ _) _ _ _)); first | (k_unfold; (try dsimp only)) | ((with_reducible show wpAny _ _ (call (Value.type "range") _) _ _ _); k_dflt (first | (refine' range1K ?zqF ?zqN ?_; (case zqF => k_asm); (case zqN => k_asm)) | (refine' range2K ?zqF ?zqN ?_; (case zqF => k_asm); (case zqN => k_asm))); walk_at "In9") | ((with_reducible show wpAny _ _ (call (Value.builtin "len") _) _ _ _); (k_dflt (refine len_any (News.isList (by k_asm) (by k_mem)) (by omega) ?_))) | walk1 | (dsimp only; walk1))
  refine index_list_ints (News.isList N3 (by k_mem)) hi hlay hd1 ?_
  try k_unfold
  try dsimp only
  repeat' ((fail_if_success (with_reducible show wpAny _ _ (compareOp _ _ _) _ _ _)); first | (k_unfold; (try dsimp only)) | ((with_reducible show wpAny _ _ (call (Value.type "range") _) _ _ _); k_dflt (first | (refine' range1K ?zqF ?zqN ?_; (case zqF => k_asm); (case zqN => k_asm)) | (refine' range2K ?zqF ?zqN ?_; (case zqF => k_asm); (case zqN => k_asm))); walk_at "In9") | ((with_reducible show wpAny _ _ (call (Value.builtin "len") _) _ _ _); (k_dflt (refine len_any (News.isList (by k_asm) (by k_mem)) (by omega) ?_))) | walk1 | (dsimp only; walk1))
  rename News _ _ _ _ => N9
  rename Fr _ _ _ _ => F9
  refine ke_ne_ints (ns := [d0, ((ords.idxOf d1 : Nat) : Int), al]) (ms := [d0, ((ords.idxOf d1 : Nat) : Int), al]) (News.isList N9 (by k_mem)) (News.isList N9 (by k_mem)) (IntsAre.cons _ _ (IntsAre.cons _ _ (IntsAre.cons _ _ .nil))) (IntsAre.cons _ _ (IntsAre.cons _ _ (IntsAre.cons _ _ .nil))) (Nat.le_of_ble_eq_true rfl) ?_
  rw [decide_eq_true rfl]
  repeat' (first | (k_unfold; (try dsimp only)) | ((with_reducible show wpAny _ _ (call (Value.type "range") _) _ _ _); k_dflt (first | (refine' range1K ?zqF ?zqN ?_; (case zqF => k_asm); (case zqN => k_asm)) | (refine' range2K ?zqF ?zqN ?_; (case zqF => k_asm); (case zqN => k_asm))); walk_at "In9") | ((with_reducible show wpAny _ _ (call (Value.builtin "len") _) _ _ _); (k_dflt (refine len_any (News.isList (by k_asm) (by k_mem)) (by omega) ?_))) | (k_end; wrow_close) | walk1 | (dsimp only; walk1) | (leave1; walk_say "STEP leave1"; try dsimp only) | fail "no step")
  rename Fr _ _ _ _ => F10
  rename News _ _ _ _ => N10
  exact k _ _ (fr_back hov F10) (O.agree F10 N10 (by intro p hp; k_ownIn) [32, cc] (by walk_at "Same9")) (news_sub N10 (by walk_at "Sub9"))
end Mine
end

section
open PySem PySem.W PyProof.Rows
namespace Mine
theorem anew68 : True ∧ True := by
  walk1
  w_top off
  all_goals exact True.intro
end Mine
end

section
open PySem PySem.W PySem.Calls PyProof.Rows PyProof.Rows.LCg PyProof.Rows.LCt
set_option maxRecDepth 100000
set_option maxHeartbeats 1000000
namespace Mine



noncomputable def Plain (vals ords : List Int) (zs : List (List Int)) : Prop := ∀ a b kk : Nat, a < b → b ≤ vals.length → kk < b - a → ∀ p, Arr (b - a) p → Asc (keyP (duePs vals a (b - a))) p (b - a) →
  ((duePs vals a (b - a)).getD (p.getD kk 0) (0, 0)).2 ∈ ords ∧ ∀ e0 e1 e2 e3 f' b' k', Ask zs (a : Nat) (b : Nat) (kk : Nat) [e0, e1, e2, e3] f' b' k' →
    e3 + 2 * e2 + 4 * e1 + 8 * e0 = ((duePs vals a (b - a)).getD (p.getD kk 0) (0, 0)).1 ∧ f' + k' = (ords.idxOf ((duePs vals a (b - a)).getD (p.getD kk 0) (0, 0)).2 : Nat) ∧
    b' - f' = (((List.range (b - a)).filter fun j => vals.getD (a + j) 0 == ((duePs vals a (b - a)).getD (p.getD kk 0) (0, 0)).1).length : Nat)

theorem levelsAt_app {h : Heap} {zl zl2 : List Value} {zs zs2 : List (List Int)} (a : LevelsAt h zl zs) (b : LevelsAt h zl2 zs2) : LevelsAt h (zl ++ zl2) (zs ++ zs2) := by
  induction a with
  | nil => exact b
  | cons h1 h2 h3 h4 _ ih => exact .cons h1 h2 h3 h4 ih
theorem LevN.levelsAt {g : Heap} {L : Addr} {av : List Addr} {h : Heap} {zl : List Value} {zs : List (List Int)} (b : LevN g L av h zl zs) (hl : ∀ ns ∈ zs, ns.length ≤ 1000 ∧ Rises ns) : LevelsAt h zl zs := by
  induction b with
  | nil => exact .nil
  | snoc b N hi hz ih =>
    have h1 := hl _ (List.mem_append_right _ (.head _))
    exact levelsAt_app (ih fun ns hn => hl ns (List.mem_append_left _ hn)) (.cons (News.isList N (.head _)) hi h1.1 h1.2 .nil)
theorem LevN.off {g : Heap} {L : Addr} {av : List Addr} {h : Heap} {zl : List Value} {zs : List (List Int)} (b : LevN g L av h zl zs) : ∀ z, .ref z ∈ zl → z ∉ av := by
  induction b with
  | nil => intro z hz; cases hz
  | snoc b N hi hz ih =>
    intro z' hz'
    rcases List.mem_append.mp hz' with h | h
    · exact ih z' h
    · cases List.mem_singleton.mp h; exact hz
/-- an object that is no list is none of the lists -/
theorem LevN.add {g : Heap} {L a : Addr} {o : Obj} {av : List Addr} {h : Heap} {zl : List Value} {zs : List (List Int)} (b : LevN g L av h zl zs) (ha : h.get? a = some o) (hc : ∀ (v : Array Value) n, o ≠ listOf v n) : LevN g L (a :: av) h zl zs := by
  induction b with
  | nil => exact .nil
  | snoc b N hi hz ih =>
    refine .snoc ih N hi (nin_cons (fun e => ?_) hz)
    have := (N _ (.head _)).1
    dsimp only at this
    rw [e, ha] at this
    exact hc _ _ (Option.some.inj this)

theorem q_turn {w : World} {g : Heap} {L fa va lv od cc : Addr} {cd : Value} {s : Shared} {m : Str → Option Value} {Q : Flow → Shared → Prop} {oV oD oc : Obj} {vl zl os : List Value} {nv nl : Nat} {vals ords : List Int} {zs : List (List Int)} {cv : Array Value} {t1 t2 t3 tq : Tok} {a b : Nat} {tot : Int} {x : Option Value}
    (bas : Bas w g) (F : Fr g L s.heap m) (hmf : m (Str.ofString "first") = some (.int (a : Nat) t1)) (hmb : m (Str.ofString "behind") = some (.int (b : Nat) t2)) (hmt : m (Str.ofString "total") = some (.int tot t3)) (hml : m (Str.ofString "levels") = some (.ref lv)) (hmo : m (Str.ofString "order") = some (.ref od))
    (hab : a < b) (hbl : b ≤ vals.length) (h8 : vals.length ≤ 8) (hb : ∀ v ∈ vals, 0 ≤ v ∧ v < 16)
    (NM : News g L s.heap [(va, listOf vl.toArray nv), (L+1+1+1, oV), (lv, listOf zl.toArray nl), (od, lst os)]) (ND : News g L s.heap [(L+1+1+1+1+1, oD)]) (NT : News g L s.heap [(32, tab32 cc), (cc, oc)])
    (dV : oV.data = .cell (some (.ref va))) (dD : oD.data = .cell x) (hi : IntsAre vl vals) (hva : @LT.lt Nat _ (L+1+1+1+1+1) va)
    (o1 : @LT.lt Nat _ 32 cc) (e1 : oc.data = .fields cv) (e2 : cv[1]? = some (.str d2iQual tq))
    (hz : LevN g L [L+1+1+1+1+1, 32, cc] s.heap zl zs) (hzl : ∀ ns ∈ zs, ns.length ≤ 1000 ∧ Rises ns) (h4 : zs.length = 4) (x1 : @LT.lt Nat _ (L+1+1+1+1+1) lv ∧ @Ne Nat od (L+1+1+1+1+1))
    (hio : IntsAre os ords) (hlay : PyData.layable0 (.list (ords.map .int)) = true) (hplain : Plain vals ords zs)
    (k : ∀ h' tk m' oD' x', Fr g L h' m' → Agree [L, L+1+1+1+1+1, 32, cc] s.heap h' → Keep [Str.ofString "k", Str.ofString "alike"] m m' → News g L h' [(L+1+1+1+1+1, oD')] → oD'.data = .cell x' → News g L h' [(32, tab32 cc), (cc, oc)] → Q .next { s with heap := h', toks := tk }) :
    wpAny (model PP w) (LA.deeper (lawEnv L fa cd)) (execs (stBody bhFor) (lawEnv L fa cd)) (fun f s' => f = .next ∧ Q .next s') (fun _ _ => False) s := by
  rw [show stBody bhFor = [qS 0, qS 1, qS 2, qS 3] by kernel_rfl]
  refine step_gen (q_k bas F hmf hmb hmt (by omega) (by omega) (by omega) fun h1 tk1 u1 F1 a1 => ?_)
  have hk0 : 0 ≤ (3 * (a : Int) + (b : Int) + 1 + tot).fmod ((b : Int) - a) := Int.fmod_nonneg_of_pos _ (by omega)
  have hk1 : (3 * (a : Int) + (b : Int) + 1 + tot).fmod ((b : Int) - a) < (b : Int) - a := Int.fmod_lt_of_pos _ (by omega)
  obtain ⟨kk, ek⟩ := Int.eq_ofNat_of_zero_le hk0
  rw [ek] at F1 hk1
  have hkk : kk < b - a := by omega
  have ne_at : ∀ {q q' : Addr} {o o' : Obj}, s.heap.get? q = some o → s.heap.get? q' = some o' → o.data ≠ o'.data → q ≠ q' := fun h1 h2 h3 e => by
    rw [e, h2] at h1; exact h3 (congrArg Obj.data (Option.some.inj h1)).symm
  have gD := (ND _ (.head _)).1
  have g32 := (NT _ (.head _)).1
  have gcc := (NT (cc, oc) (.tail _ (.head _))).1
  have glv := (NM (lv, _) (.tail _ (.tail _ (.head _)))).1
  have god := (NM (od, _) (.tail _ (.tail _ (.tail _ (.head _))))).1
  dsimp only at gD g32 gcc glv god
  have n32 : (32 : Addr) ≠ L+1+1+1+1+1 := ne_at g32 gD (by rw [dD]; intro e; cases e)
  have ncc : cc ≠ L+1+1+1+1+1 := ne_at gcc gD (by rw [dD, e1]; intro e; cases e)
  have nlv : lv ≠ 32 ∧ lv ≠ cc := ⟨ne_at glv g32 (by intro e; cases e), ne_at glv gcc (by rw [e1]; intro e; cases e)⟩
  have nod : od ≠ 32 ∧ od ≠ cc := ⟨ne_at god g32 (by intro e; cases e), ne_at god gcc (by rw [e1]; intro e; cases e)⟩
  have nva : va ≠ L+1+1+1+1+1 := Nat.ne_of_gt hva
  have nlv5 : lv ≠ L+1+1+1+1+1 := Nat.ne_of_gt x1.1
  have nod5 : od ≠ L+1+1+1+1+1 := x1.2
  have nov5 : (L+1+1+1 : Addr) ≠ L+1+1+1+1+1 := neN (by omega)
  have NM1 := after_L NM a1
  have ND1 := after_L ND a1
  have NT1 := after_L NT a1
  refine step_gen (q_due (kk := kk) bas F1 ((if_neg (by decide)).trans hmf) ((if_neg (by decide)).trans hmb) (if_pos rfl) hab hbl hkk h8 hb
    (news_app (a := [(va, listOf vl.toArray nv), (L+1+1+1, oV)]) (b := [(L+1+1+1+1+1, oD)]) (fun q hq => NM1 q ?_) ND1) dV x dD hi hva fun h2 tk2 p du odu oD' td0 td1 nd F2 a2 ap as N2 dD2 hc hdd => ?_)
  · exact (show ∀ q ∈ _, q ∈ _ from by walk_at "Subs9") q hq
  obtain ⟨hd1, hpl⟩ := hplain a b kk hab hbl hkk p ap as
  generalize hdd1 : (duePs vals a (b - a)).getD (p.getD kk 0) (0, 0) = dd at hd1 hpl hdd
  have NM2 : News g L h2 [(va, listOf vl.toArray nv), (L+1+1+1, oV), (lv, listOf zl.toArray nl), (od, lst os)] := after_news NM1 a2 (off_cons (nin_cons (NM1 (va, _) (.head _)).2.1 (not_mem1 nva)) (off_cons (nin_cons (NM1 (L+1+1+1, oV) (.tail _ (.head _))).2.1 (not_mem1 nov5)) (off_cons (nin_cons (NM1 (lv, _) (.tail _ (.tail _ (.head _)))).2.1 (not_mem1 nlv5)) (off_cons (nin_cons (NM1 (od, _) (.tail _ (.tail _ (.tail _ (.head _))))).2.1 (not_mem1 nod5)) (by simp)))))
  have NT2 : News g L h2 [(32, tab32 cc), (cc, oc)] := after_news NT1 a2 (off_cons (nin_cons (NT1 (32, tab32 cc) (.head _)).2.1 (not_mem1 n32)) (off_cons (nin_cons (NT1 (cc, oc) (.tail _ (.head _))).2.1 (not_mem1 ncc)) (by simp)))
  have ND2 : News g L h2 [(L+1+1+1+1+1, oD'), (du, odu)] := N2
  have gdu := (ND2 (du, odu) (.tail _ (.head _))).1
  have gcc2 := (NT2 (cc, oc) (.tail _ (.head _))).1
  have g322 := (NT2 (32, tab32 cc) (.head _)).1
  dsimp only at gdu gcc2 g322
  have ndu : du ≠ 32 ∧ du ≠ cc := ⟨fun e => by (rw [e, g322] at gdu; rw [← Option.some.inj gdu] at hdd; cases hdd), fun e => by (rw [e, gcc2] at gdu; rw [← Option.some.inj gdu, e1] at hdd; cases hdd)⟩
  refine step_gen (q_alk bas F2 ((if_neg (by decide)).trans hmf) ((if_neg (by decide)).trans hmb) hab hbl h8 (news_app (a := [(va, listOf vl.toArray nv), (L+1+1+1, oV)]) (b := [(L+1+1+1+1+1, oD'), (du, odu)]) (fun q hq => NM2 q ?_) ND2) dV dD2 hc hdd hi fun h3 tk3 u3 F3 a3 => ?_)
  · exact (show ∀ q ∈ _, q ∈ _ from by walk_at "Subs9") q hq
  have NM3 := after_L NM2 a3
  have NT3 := after_L NT2 a3
  have ND3 := after_L ND2 a3
  have a13 : Agree [L, L+1+1+1+1+1] s.heap h3 := agree_trans (agree_trans (agree_mono a1 (by walk_at "Subs9")) a2) (agree_mono a3 (by walk_at "Subs9"))
  have hz3 : LevN g L [L+1+1+1+1+1, 32, cc] h3 zl zs := hz.carry a13 fun q hq => by
    simp only [List.mem_cons, List.not_mem_nil, or_false] at hq
    rcases hq with rfl | rfl
    · exact .inl rfl
    · exact .inr (.inl (.head _))
  have hzlen := hz.length
  refine step_gen (q_if bas F3 ((if_neg (by decide)).trans ((if_neg (by decide)).trans hml)) ((if_neg (by decide)).trans ((if_neg (by decide)).trans hmf)) ((if_neg (by decide)).trans ((if_neg (by decide)).trans hmb)) ((if_neg (by decide)).trans (if_pos rfl)) (if_pos rfl) ((if_neg (by decide)).trans ((if_neg (by decide)).trans hmo))
    o1 NT3 e1 e2 (news_app (a := [(L+1+1+1+1+1, oD'), (du, odu)]) (b := [(lv, listOf zl.toArray nl), (od, lst os)]) ND3 (fun q hq => NM3 q ?_)) dD2 hc hdd (hz3.levelsAt hzl) h4 (by omega) (fun z hz' => ?_) ⟨nlv.1, nlv.2, ndu.1, ndu.2, nod.1, nod.2, n32.symm, ncc.symm⟩ hio hlay hd1 hpl fun h4 tk4 F4 a4 N4 => ?_)
  · exact (show ∀ q ∈ _, q ∈ _ from by walk_at "Subs9") q hq
  · have := hz3.off z hz'
    exact ⟨fun e => this (by rw [e]; exact .tail _ (.head _)), fun e => this (by rw [e]; exact .tail _ (.tail _ (.head _)))⟩
  refine wpAny_execs_nil ⟨rfl, k h4 tk4 _ oD' _ F4 (agree_trans (agree_mono a13 (by walk_at "Subs9")) (agree_mono a4 (by walk_at "Subs9"))) (Keep.set (Keep.set Keep.refl (.head _)) (.tail _ (.head _))) (after_news (fun q hq => ND3 q (by rw [List.mem_singleton.mp hq]; exact .head _)) a4 (off_cons (nin_cons (ND3 (L+1+1+1+1+1, oD') (.head _)).2.1 (not_mem2 n32.symm ncc.symm)) (by simp))) dD2 N4⟩
end Mine
end

section
open PySem PySem.W PyProof.Rows
namespace Mine
theorem anew69 : True ∧ True := by
  walk1
  w_top off
  all_goals exact True.intro
end Mine
end

section
open PySem PySem.W PySem.Calls PyProof.Rows PyProof.Rows.LCg PyProof.Rows.LCt
set_option maxRecDepth 100000
set_option maxHeartbeats 1000000
namespace Mine




theorem bh_target : forTarget bhFor = .Name (Str.ofString "behind") (match forTarget bhFor with | .Name _ p => p | _ => ⟨0, 0, 0, 0⟩) := by kernel_rfl

theorem bh_turn {w : World} {L fa : Addr} {cd : Value} {g : Heap} {s : Shared} {m : Str → Option Value} {Q : Flow → Shared → Prop} {v : Value} (F : Fr g L s.heap m)
    (k : ∀ h' tk, Fr g L h' (fun y => if y = Str.ofString "behind" then some v else m y) → Agree [L] s.heap h' → wpAny (model PP w) (LA.deeper (lawEnv L fa cd)) (execs (stBody bhFor) (lawEnv L fa cd)) (fun f s' => f = .next ∧ Q .next s') (fun _ _ => False) { s with heap := h', toks := tk }) :
    wpAny (model PP w) (LA.deeper (lawEnv L fa cd)) (assign (forTarget bhFor) (lawEnv L fa cd) v) (fun _ s₂ => wpAny (model PP w) (LA.deeper (lawEnv L fa cd)) (execs (stBody bhFor) (lawEnv L fa cd)) Q (fun _ _ => False) s₂) (fun _ _ => False) s := by
  rw [bh_target]
  exact assign_word F (by rfl) fun h1 tk1 F1 a1 => wpAny_mono (k h1 tk1 F1 a1) (fun f s' hf => by obtain ⟨rfl, hq⟩ := hf; exact hq) fun _ _ e => e

theorem bh_loop {w : World} {g : Heap} {L fa va lv od cc wa : Addr} {cd : Value} {s : Shared} {m : Str → Option Value} {Q : Flow → Shared → Prop} {oV oD oc oW : Obj} {vl zl os wl : List Value} {nv nl nw : Nat} {vals ords : List Int} {zs : List (List Int)} {cv : Array Value} {t1 t3 tq : Tok} {a : Nat} {tot : Int} {x : Option Value}
    (bas : Bas w g) (F : Fr g L s.heap m) (hmf : m (Str.ofString "first") = some (.int (a : Nat) t1)) (hmt : m (Str.ofString "total") = some (.int tot t3)) (hml : m (Str.ofString "levels") = some (.ref lv)) (hmo : m (Str.ofString "order") = some (.ref od))
    (hal : a < vals.length) (h8 : vals.length ≤ 8) (hb : ∀ v ∈ vals, 0 ≤ v ∧ v < 16)
    (NM : News g L s.heap [(va, listOf vl.toArray nv), (L+1+1+1, oV), (lv, listOf zl.toArray nl), (od, lst os)]) (ND : News g L s.heap [(L+1+1+1+1+1, oD)]) (NT : News g L s.heap [(32, tab32 cc), (cc, oc)])
    (NW : News g L s.heap [(wa, listOf wl.toArray nw), (L+1+1, oW)]) (dW : oW.data = .cell (some (.ref wa))) (hwl : wl.length = vals.length) (hwa : @LT.lt Nat _ (L+1+1+1+1+1) wa)
    (dV : oV.data = .cell (some (.ref va))) (dD : oD.data = .cell x) (hi : IntsAre vl vals) (hva : @LT.lt Nat _ (L+1+1+1+1+1) va)
    (o1 : @LT.lt Nat _ 32 cc) (e1 : oc.data = .fields cv) (e2 : cv[1]? = some (.str d2iQual tq))
    (hz : LevN g L [L+1+1+1+1+1, 32, cc] s.heap zl zs) (hzl : ∀ ns ∈ zs, ns.length ≤ 1000 ∧ Rises ns) (h4 : zs.length = 4) (x1 : @LT.lt Nat _ (L+1+1+1+1+1) lv ∧ @Ne Nat od (L+1+1+1+1+1))
    (hio : IntsAre os ords) (hlay : PyData.layable0 (.list (ords.map .int)) = true) (hplain : Plain vals ords zs)
    (k : ∀ h' tk m' oD' x', Fr g L h' m' → Agree [L, L+1+1+1+1+1, 32, cc] s.heap h' → Keep [Str.ofString "behind", Str.ofString "k", Str.ofString "alike"] m m' → News g L h' [(L+1+1+1+1+1, oD')] → oD'.data = .cell x' → News g L h' [(32, tab32 cc), (cc, oc)] → Q .next { s with heap := h', toks := tk }) :
    wpAny (model PP w) (LA.deeper (lawEnv L fa cd)) (exec bhFor (lawEnv L fa cd)) Q (fun _ _ => False) s := by
  have bas2 := bas
  have ne_at : ∀ {q q' : Addr} {o o' : Obj}, s.heap.get? q = some o → s.heap.get? q' = some o' → o.data ≠ o'.data → q ≠ q' := fun h1 h2 h3 e => by
    rw [e, h2] at h1; exact h3 (congrArg Obj.data (Option.some.inj h1)).symm
  have gD := (ND _ (.head _)).1
  have g32 := (NT _ (.head _)).1
  have gcc := (NT (cc, oc) (.tail _ (.head _))).1
  have glv := (NM (lv, _) (.tail _ (.tail _ (.head _)))).1
  have god := (NM (od, _) (.tail _ (.tail _ (.tail _ (.head _))))).1
  have gva := (NM (va, _) (.head _)).1
  have gov := (NM (L+1+1+1, oV) (.tail _ (.head _))).1
  have gwa := (NW (wa, _) (.head _)).1
  have gow := (NW (L+1+1, oW) (.tail _ (.head _))).1
  dsimp only at gD g32 gcc glv god gva gov gwa gow
  have cl : ∀ {b : Addr} {o : Obj} {v : Option Value}, s.heap.get? b = some o → o.data = .cell v → b ≠ 32 ∧ b ≠ cc := fun hb hd => ⟨ne_at hb g32 (by rw [hd]; intro e; cases e), ne_at hb gcc (by rw [hd, e1]; intro e; cases e)⟩
  have ls : ∀ {b : Addr} {v : Array Value} {n : Nat}, s.heap.get? b = some (listOf v n) → b ≠ 32 ∧ b ≠ cc := fun hb => ⟨ne_at hb g32 (by intro e; cases e), ne_at hb gcc (by rw [e1]; intro e; cases e)⟩
  have offM : ∀ p ∈ [(va, listOf vl.toArray nv), (L+1+1+1, oV), (lv, listOf zl.toArray nl), (od, lst os)] ++ [(wa, listOf wl.toArray nw), (L+1+1, oW)], p.1 ∉ [L, L+1+1+1+1+1, 32, cc] :=
    off_cons (nin_cons (NM (va, _) (.head _)).2.1 (nin_cons (Nat.ne_of_gt hva) (not_mem2 (ls gva).1 (ls gva).2))) <|
    off_cons (nin_cons (NM (L+1+1+1, oV) (.tail _ (.head _))).2.1 (nin_cons (Nat.ne_of_lt (Nat.lt_add_of_pos_right (n := L+1+1+1) (k := 2) (by decide))) (not_mem2 (cl gov dV).1 (cl gov dV).2))) <|
    off_cons (nin_cons (NM (lv, _) (.tail _ (.tail _ (.head _)))).2.1 (nin_cons (Nat.ne_of_gt x1.1) (not_mem2 (ls glv).1 (ls glv).2))) <|
    off_cons (nin_cons (NM (od, _) (.tail _ (.tail _ (.tail _ (.head _))))).2.1 (nin_cons x1.2 (not_mem2 (ls god).1 (ls god).2))) <|
    off_cons (nin_cons (NW (wa, _) (.head _)).2.1 (nin_cons (Nat.ne_of_gt hwa) (not_mem2 (ls gwa).1 (ls gwa).2))) <|
    off_cons (nin_cons (NW (L+1+1, oW) (.tail _ (.head _))).2.1 (nin_cons (Nat.ne_of_lt (Nat.lt_add_of_pos_right (n := L+1+1) (k := 3) (by decide))) (not_mem2 (cl gow dW).1 (cl gow dW).2))) fun _ h => nomatch h
  obtain ⟨h85, h36, h29, X, base, p, loose, mean, mg, mb, B, T⟩ := bas
  obtain ⟨own, O, N2, off⟩ := old_of F NW
  simp only [List.cons_append, List.nil_append] at N2
  have F2 := fr_ov [(Str.ofString "first", _)] F (AtM.all ⟨hmf, trivial⟩)
  have hov := ov_eq (m := m) (l := [(Str.ofString "first", .int (a : Nat) t1)]) (AtM.all ⟨hmf, trivial⟩)
  dsimp only [ov] at F2
  have hide : (News g L s.heap [(va, listOf vl.toArray nv), (L+1+1+1, oV), (lv, listOf zl.toArray nl), (od, lst os)] ∧ News g L s.heap [(L+1+1+1+1+1, oD)]) ∧ News g L s.heap [(32, tab32 cc), (cc, oc)] ∧ News g L s.heap [(wa, listOf wl.toArray nw), (L+1+1, oW)] := ⟨⟨NM, ND⟩, NT, NW⟩
  clear NM ND NT NW F
  conv in bhFor => whnf
  repeat' (first | (k_unfold; (try dsimp only)) | ((with_reducible show wpAny _ _ (pyIter (Value.ref _)) _ _ _); k_dflt (refine' pyIter_rangeK ?zqF ?zqN ?zqr ?zqa ?zqb ?zqc ?_; (case zqF => k_asm); (case zqN => k_asm); (case zqr => k_mem); (case zqa => omega); (case zqb => omega); (case zqc => omega)); walk_at "In9") | ((with_reducible show wpAny _ _ (exec (Stmt.For _ (Expr.Call _ _ _ _) _ _ _) _) _ _ _); (k_dflt (refine wpAny_For ?_))) | ((with_reducible show wpAny _ _ (call (Value.type "range") _) _ _ _); k_dflt (first | (refine' range1K ?zqF ?zqN ?_; (case zqF => k_asm); (case zqN => k_asm)) | (refine' range2K ?zqF ?zqN ?_; (case zqF => k_asm); (case zqN => k_asm))); walk_at "In9") | ((with_reducible show wpAny _ _ (call (Value.builtin "len") _) _ _ _); (k_dflt (refine len_any (News.isList (by k_asm) (by k_mem)) (by omega) ?_))) | (k_end; wrow_close) | walk1 | (dsimp only; walk1) | (leave1; walk_say "STEP leave1"; try dsimp only) | fail "no step")
  rename_i rg h7 tk7 t7 u7 v7 l7 it9 h9' F9 N9 l9
  obtain ⟨⟨NM, ND⟩, NT, NW⟩ := hide
  have h9 := N9 (it9, _) (.head _)
  have hf : Fresh g L s.heap it9 := O.fresh l9.2
  have hnn := hf.none h9.2.1 h9.2.2
  have a9 := O.agree F9 N9 (by intro p hp; k_ownIn) [] (by walk_at "Same9")
  replace F9 := fr_back hov F9
  have nit : ∀ {p : Addr × Obj} {S : List (Addr × Obj)}, News g L s.heap S → p ∈ S → p.1 ≠ it9 := fun NS hq => Nat.ne_of_lt (hf.news NS _ hq)
  have itS : it9 ∉ [L, L+1+1+1+1+1, 32, cc] := nin_cons h9.2.1 (nin_cons (nit ND (.head _)).symm (nin_cons (nit NT (.head _)).symm (not_mem1 (nit (p := (cc, oc)) NT (.tail _ (.head _))).symm)))
  refine for_range0 (vals.length - a) (fun i h m1 => Agree (it9 :: [L, L+1+1+1+1+1, 32, cc]) s.heap h ∧ Keep [Str.ofString "behind", Str.ofString "k", Str.ofString "alike"] m m1 ∧
      (∃ oD x, News g L h [(L+1+1+1+1+1, oD)] ∧ oD.data = .cell x) ∧ News g L h [(32, tab32 cc), (cc, oc)])
    rfl (fun _ _ => rfl) (.head _) N9 (by omega) ?stab ?turn ?done F9 ?J0
  case stab =>
    rintro i h h' m1 ⟨ja, jk, ⟨oD, x, jD, jx⟩, jT⟩ ha
    exact ⟨agree_trans ja (agree_mono ha (by walk_at "Subs9")), jk, ⟨oD, x, after_news jD ha (off_cons (not_mem1 (nit ND (.head _))) (by simp)), jx⟩, after_news jT ha (off_cons (not_mem1 (nit NT (.head _))) (off_cons (not_mem1 (nit (p := (cc, oc)) NT (.tail _ (.head _)))) (by simp)))⟩
  case J0 =>
    exact ⟨agree_mono a9 (by walk_at "Subs9"), Keep.refl, ⟨oD, _, after_L ND a9, dD⟩, after_L NT a9⟩
  case turn =>
    rintro i m1 h tk t hi' ⟨ja, jk, ⟨oD1, x2, jD, jx⟩, jT⟩ F1 hI
    refine bh_turn F1 fun h2 tk2 F2 a2 => ?_
    rw [show ((a : Nat) : Int) + 1 + ((i : Nat) : Int) = ((a + 1 + i : Nat) : Int) by omega] at F2
    have ja2 : Agree (it9 :: [L, L+1+1+1+1+1, 32, cc]) s.heap h2 := agree_trans ja (agree_mono a2 (by walk_at "Subs9"))
    have wc : ∀ {p : Addr × Obj}, p ∈ [(va, listOf vl.toArray nv), (L+1+1+1, oV), (lv, listOf zl.toArray nl), (od, lst os)] ++ [(wa, listOf wl.toArray nw), (L+1+1, oW)] → p.1 ∉ it9 :: [L, L+1+1+1+1+1, 32, cc] := fun {p} hp => by
      exact nin_cons (nit (news_app NM NW) hp) (offM p hp)
    have jM : News g L h2 [(va, listOf vl.toArray nv), (L+1+1+1, oV), (lv, listOf zl.toArray nl), (od, lst os)] := after_news NM ja2 fun p hp => wc (List.mem_append_left _ hp)
    have jz : LevN g L [L+1+1+1+1+1, 32, cc] h2 zl zs := hz.carry ja2 fun q hq => by
      rcases List.mem_cons.mp hq with rfl | hq
      · exact .inr (.inr hnn)
      rcases List.mem_cons.mp hq with rfl | hq
      · exact .inl rfl
      · exact .inr (.inl hq)
    refine (q_turn (a := a) (b := a + 1 + i) bas2 F2 ((if_neg (by decide)).trans ((jk _ (by decide)).trans hmf)) (if_pos rfl) ((if_neg (by decide)).trans ((jk _ (by decide)).trans hmt)) ((if_neg (by decide)).trans ((jk _ (by decide)).trans hml)) ((if_neg (by decide)).trans ((jk _ (by decide)).trans hmo))
      (by omega) (by omega) h8 hb jM (after_L jD a2) (after_L jT a2) dV jx hi hva o1 e1 e2 jz hzl h4 x1 hio hlay hplain fun h3 tk3 m3 oD3 x3 F3 a3 k3 N3 y3 T3 => ?_)
    · refine TurnEnd.next F3 (a3 _ _ (a2 _ _ hI (not_mem1 h9.2.1)) itS) rfl ⟨agree_trans ja2 (agree_mono a3 fun a ha => .tail _ ha), ?_, ⟨_, _, N3, y3⟩, T3⟩
      exact jk.trans ((Keep.set Keep.refl (.head _)).trans (k3.mono fun y hy => .tail _ hy))
  case done =>
    rintro m1 h tk ⟨ja, jk, ⟨oD1, x2, jD, jx⟩, jT⟩ F1
    exact k _ _ _ _ _ F1 (agree_fresh ja hnn) jk jD jx jT
end Mine
end

section
open PySem PySem.W PyProof.Rows
namespace Mine
theorem anew70 : True ∧ True := by
  walk1
  w_top off
  all_goals exact True.intro
end Mine
end

section
open PySem PySem.W PySem.Calls PyProof.Rows PyProof.Rows.LCg PyProof.Rows.LCt
set_option maxRecDepth 100000
set_option maxHeartbeats 1000000
namespace Mine




theorem f_target : forTarget fFor = .Name (Str.ofString "first") (match forTarget fFor with | .Name _ p => p | _ => ⟨0, 0, 0, 0⟩) := by kernel_rfl
theorem f_body : stBody fFor = [bhFor] := by kernel_rfl

theorem f_turn {w : World} {L fa : Addr} {cd : Value} {g : Heap} {s : Shared} {m : Str → Option Value} {Q : Flow → Shared → Prop} {v : Value} (F : Fr g L s.heap m)
    (k : ∀ h' tk, Fr g L h' (fun y => if y = Str.ofString "first" then some v else m y) → Agree [L] s.heap h' → wpAny (model PP w) (LA.deeper (lawEnv L fa cd)) (exec bhFor (lawEnv L fa cd)) (fun f s' => f = .next ∧ Q .next s') (fun _ _ => False) { s with heap := h', toks := tk }) :
    wpAny (model PP w) (LA.deeper (lawEnv L fa cd)) (assign (forTarget fFor) (lawEnv L fa cd) v) (fun _ s₂ => wpAny (model PP w) (LA.deeper (lawEnv L fa cd)) (execs (stBody fFor) (lawEnv L fa cd)) Q (fun _ _ => False) s₂) (fun _ _ => False) s := by
  rw [f_target, f_body]
  refine assign_word F (by rfl) fun h1 tk1 F1 a1 => step_gen (wpAny_mono (k h1 tk1 F1 a1) (fun f s' hf => ?_) fun _ _ e => e)
  obtain ⟨rfl, hq⟩ := hf
  exact wpAny_execs_nil hq

theorem ph21 {w : World} {g : Heap} {L fa va lv od cc wa : Addr} {cd : Value} {s : Shared} {m : Str → Option Value} {Q : Flow → Shared → Prop} {oV oD oc oW : Obj} {vl zl os wl : List Value} {nv nl nw : Nat} {vals ords : List Int} {zs : List (List Int)} {cv : Array Value} {t3 tq : Tok} {tot : Int} {x : Option Value}
    (bas : Bas w g) (F : Fr g L s.heap m) (hmt : m (Str.ofString "total") = some (.int tot t3)) (hml : m (Str.ofString "levels") = some (.ref lv)) (hmo : m (Str.ofString "order") = some (.ref od))
    (h8 : vals.length ≤ 8) (hb : ∀ v ∈ vals, 0 ≤ v ∧ v < 16)
    (NM : News g L s.heap [(va, listOf vl.toArray nv), (L+1+1+1, oV), (lv, listOf zl.toArray nl), (od, lst os)]) (ND : News g L s.heap [(L+1+1+1+1+1, oD)]) (NT : News g L s.heap [(32, tab32 cc), (cc, oc)])
    (NW : News g L s.heap [(wa, listOf wl.toArray nw), (L+1+1, oW)]) (dW : oW.data = .cell (some (.ref wa))) (hwl : wl.length = vals.length) (hwa : @LT.lt Nat _ (L+1+1+1+1+1) wa)
    (dV : oV.data = .cell (some (.ref va))) (dD : oD.data = .cell x) (hi : IntsAre vl vals) (hva : @LT.lt Nat _ (L+1+1+1+1+1) va)
    (o1 : @LT.lt Nat _ 32 cc) (e1 : oc.data = .fields cv) (e2 : cv[1]? = some (.str d2iQual tq))
    (hz : LevN g L [L+1+1+1+1+1, 32, cc] s.heap zl zs) (hzl : ∀ ns ∈ zs, ns.length ≤ 1000 ∧ Rises ns) (h4 : zs.length = 4) (x1 : @LT.lt Nat _ (L+1+1+1+1+1) lv ∧ @Ne Nat od (L+1+1+1+1+1))
    (hio : IntsAre os ords) (hlay : PyData.layable0 (.list (ords.map .int)) = true) (hplain : Plain vals ords zs)
    (k : ∀ h' tk m' oD' x', Fr g L h' m' → Agree [L, L+1+1+1+1+1, 32, cc] s.heap h' → Keep [Str.ofString "first", Str.ofString "behind", Str.ofString "k", Str.ofString "alike"] m m' → News g L h' [(L+1+1+1+1+1, oD')] → oD'.data = .cell x' → News g L h' [(32, tab32 cc), (cc, oc)] → Q .next { s with heap := h', toks := tk }) :
    wpAny (model PP w) (LA.deeper (lawEnv L fa cd)) (exec (lawStm 21) (lawEnv L fa cd)) Q (fun _ _ => False) s := by
  have bas2 := bas
  have ne_at : ∀ {q q' : Addr} {o o' : Obj}, s.heap.get? q = some o → s.heap.get? q' = some o' → o.data ≠ o'.data → q ≠ q' := fun h1 h2 h3 e => by
    rw [e, h2] at h1; exact h3 (congrArg Obj.data (Option.some.inj h1)).symm
  have gD := (ND _ (.head _)).1
  have g32 := (NT _ (.head _)).1
  have gcc := (NT (cc, oc) (.tail _ (.head _))).1
  have glv := (NM (lv, _) (.tail _ (.tail _ (.head _)))).1
  have god := (NM (od, _) (.tail _ (.tail _ (.tail _ (.head _))))).1
  have gva := (NM (va, _) (.head _)).1
  have gov := (NM (L+1+1+1, oV) (.tail _ (.head _))).1
  have gwa := (NW (wa, _) (.head _)).1
  have gow := (NW (L+1+1, oW) (.tail _ (.head _))).1
  dsimp only at gD g32 gcc glv god gva gov gwa gow
  have cl : ∀ {b : Addr} {o : Obj} {v : Option Value}, s.heap.get? b = some o → o.data = .cell v → b ≠ 32 ∧ b ≠ cc := fun hb hd => ⟨ne_at hb g32 (by rw [hd]; intro e; cases e), ne_at hb gcc (by rw [hd, e1]; intro e; cases e)⟩
  have ls : ∀ {b : Addr} {v : Array Value} {n : Nat}, s.heap.get? b = some (listOf v n) → b ≠ 32 ∧ b ≠ cc := fun hb => ⟨ne_at hb g32 (by intro e; cases e), ne_at hb gcc (by rw [e1]; intro e; cases e)⟩
  have offM : ∀ p ∈ [(va, listOf vl.toArray nv), (L+1+1+1, oV), (lv, listOf zl.toArray nl), (od, lst os)] ++ [(wa, listOf wl.toArray nw), (L+1+1, oW)], p.1 ∉ [L, L+1+1+1+1+1, 32, cc] :=
    off_cons (nin_cons (NM (va, _) (.head _)).2.1 (nin_cons (Nat.ne_of_gt hva) (not_mem2 (ls gva).1 (ls gva).2))) <|
    off_cons (nin_cons (NM (L+1+1+1, oV) (.tail _ (.head _))).2.1 (nin_cons (Nat.ne_of_lt (Nat.lt_add_of_pos_right (n := L+1+1+1) (k := 2) (by decide))) (not_mem2 (cl gov dV).1 (cl gov dV).2))) <|
    off_cons (nin_cons (NM (lv, _) (.tail _ (.tail _ (.head _)))).2.1 (nin_cons (Nat.ne_of_gt x1.1) (not_mem2 (ls glv).1 (ls glv).2))) <|
    off_cons (nin_cons (NM (od, _) (.tail _ (.tail _ (.tail _ (.head _))))).2.1 (nin_cons x1.2 (not_mem2 (ls god).1 (ls god).2))) <|
    off_cons (nin_cons (NW (wa, _) (.head _)).2.1 (nin_cons (Nat.ne_of_gt hwa) (not_mem2 (ls gwa).1 (ls gwa).2))) <|
    off_cons (nin_cons (NW (L+1+1, oW) (.tail _ (.head _))).2.1 (nin_cons (Nat.ne_of_lt (Nat.lt_add_of_pos_right (n := L+1+1) (k := 3) (by decide))) (not_mem2 (cl gow dW).1 (cl gow dW).2))) fun _ h => nomatch h
  obtain ⟨h85, h36, h29, X, base, p, loose, mean, mg, mb, B, T⟩ := bas
  obtain ⟨own, O, N2, off⟩ := old_of F NW
  simp only [List.cons_append, List.nil_append] at N2
  have hide : (News g L s.heap [(va, listOf vl.toArray nv), (L+1+1+1, oV), (lv, listOf zl.toArray nl), (od, lst os)] ∧ News g L s.heap [(L+1+1+1+1+1, oD)]) ∧ News g L s.heap [(32, tab32 cc), (cc, oc)] ∧ News g L s.heap [(wa, listOf wl.toArray nw), (L+1+1, oW)] := ⟨⟨NM, ND⟩, NT, NW⟩
  clear NM ND NT NW
  change wpAny _ _ (exec fFor _) _ _ _
  conv in fFor => whnf
  repeat' (first | (k_unfold; (try dsimp only)) | ((with_reducible show wpAny _ _ (pyIter (Value.ref _)) _ _ _); k_dflt (refine' pyIter_rangeK ?zqF ?zqN ?zqr ?zqa ?zqb ?zqc ?_; (case zqF => k_asm); (case zqN => k_asm); (case zqr => k_mem); (case zqa => omega); (case zqb => omega); (case zqc => omega)); walk_at "In9") | ((with_reducible show wpAny _ _ (exec (Stmt.For _ (Expr.Call _ _ _ _) _ _ _) _) _ _ _); (k_dflt (refine wpAny_For ?_))) | ((with_reducible show wpAny _ _ (call (Value.type "range") _) _ _ _); k_dflt (first | (refine' range1K ?zqF ?zqN ?_; (case zqF => k_asm); (case zqN => k_asm)) | (refine' range2K ?zqF ?zqN ?_; (case zqF => k_asm); (case zqN => k_asm))); walk_at "In9") | ((with_reducible show wpAny _ _ (call (Value.builtin "len") _) _ _ _); (k_dflt (refine len_any (News.isList (by k_asm) (by k_mem)) (by omega) ?_))) | (k_end; wrow_close) | walk1 | (dsimp only; walk1) | (leave1; walk_say "STEP leave1"; try dsimp only) | fail "no step")
  rename_i rg h7 tk7 t7 u7 v7 l7 it9 h9' F9 N9 l9
  obtain ⟨⟨NM, ND⟩, NT, NW⟩ := hide
  have h9 := N9 (it9, _) (.head _)
  have hf : Fresh g L s.heap it9 := O.fresh l9.2
  have hnn := hf.none h9.2.1 h9.2.2
  have a9 := O.agree F9 N9 (by intro p hp; k_ownIn) [] (by walk_at "Same9")
  have nit : ∀ {p : Addr × Obj} {S : List (Addr × Obj)}, News g L s.heap S → p ∈ S → p.1 ≠ it9 := fun NS hq => Nat.ne_of_lt (hf.news NS _ hq)
  have itS : it9 ∉ [L, L+1+1+1+1+1, 32, cc] := nin_cons h9.2.1 (nin_cons (nit ND (.head _)).symm (nin_cons (nit NT (.head _)).symm (not_mem1 (nit (p := (cc, oc)) NT (.tail _ (.head _))).symm)))
  refine for_range0 vals.length (fun i h m1 => Agree (it9 :: [L, L+1+1+1+1+1, 32, cc]) s.heap h ∧ Keep [Str.ofString "first", Str.ofString "behind", Str.ofString "k", Str.ofString "alike"] m m1 ∧
      (∃ oD x, News g L h [(L+1+1+1+1+1, oD)] ∧ oD.data = .cell x) ∧ News g L h [(32, tab32 cc), (cc, oc)])
    rfl (fun _ _ => rfl) (.head _) N9 (by omega) ?stab ?turn ?done F9 ?J0
  case stab =>
    rintro i h h' m1 ⟨ja, jk, ⟨oD, x, jD, jx⟩, jT⟩ ha
    exact ⟨agree_trans ja (agree_mono ha (by walk_at "Subs9")), jk, ⟨oD, x, after_news jD ha (off_cons (not_mem1 (nit ND (.head _))) (by simp)), jx⟩, after_news jT ha (off_cons (not_mem1 (nit NT (.head _))) (off_cons (not_mem1 (nit (p := (cc, oc)) NT (.tail _ (.head _)))) (by simp)))⟩
  case J0 =>
    exact ⟨agree_mono a9 (by walk_at "Subs9"), Keep.refl, ⟨oD, _, after_L ND a9, dD⟩, after_L NT a9⟩
  case turn =>
    rintro i m1 h tk t hi' ⟨ja, jk, ⟨oD1, x2, jD, jx⟩, jT⟩ F1 hI
    refine f_turn F1 fun h2 tk2 F2 a2 => ?_
    rw [Int.zero_add] at F2
    have ja2 : Agree (it9 :: [L, L+1+1+1+1+1, 32, cc]) s.heap h2 := agree_trans ja (agree_mono a2 (by walk_at "Subs9"))
    have wc : ∀ {p : Addr × Obj}, p ∈ [(va, listOf vl.toArray nv), (L+1+1+1, oV), (lv, listOf zl.toArray nl), (od, lst os)] ++ [(wa, listOf wl.toArray nw), (L+1+1, oW)] → p.1 ∉ it9 :: [L, L+1+1+1+1+1, 32, cc] := fun {p} hp => by
      exact nin_cons (nit (news_app NM NW) hp) (offM p hp)
    have jM : News g L h2 [(va, listOf vl.toArray nv), (L+1+1+1, oV), (lv, listOf zl.toArray nl), (od, lst os)] := after_news NM ja2 fun p hp => wc (List.mem_append_left _ hp)
    have jW : News g L h2 [(wa, listOf wl.toArray nw), (L+1+1, oW)] := after_news NW ja2 fun p hp => wc (List.mem_append_right _ hp)
    have jz : LevN g L [L+1+1+1+1+1, 32, cc] h2 zl zs := hz.carry ja2 fun q hq => by
      rcases List.mem_cons.mp hq with rfl | hq
      · exact .inr (.inr hnn)
      rcases List.mem_cons.mp hq with rfl | hq
      · exact .inl rfl
      · exact .inr (.inl hq)
    refine bh_loop (a := i) bas2 F2 (if_pos rfl) ((if_neg (by decide)).trans ((jk _ (by decide)).trans hmt)) ((if_neg (by decide)).trans ((jk _ (by decide)).trans hml)) ((if_neg (by decide)).trans ((jk _ (by decide)).trans hmo))
      hi' h8 hb jM (after_L jD a2) (after_L jT a2) jW dW hwl hwa dV jx hi hva o1 e1 e2 jz hzl h4 x1 hio hlay hplain fun h3 tk3 m3 oD3 x3 F3 a3 k3 N3 y3 T3 => ⟨rfl, ?_⟩
    refine TurnEnd.next F3 (a3 _ _ (a2 _ _ hI (not_mem1 h9.2.1)) itS) rfl ⟨agree_trans ja2 (agree_mono a3 fun a ha => .tail _ ha), ?_, ⟨_, _, N3, y3⟩, T3⟩
    exact jk.trans ((Keep.set Keep.refl (.head _)).trans (k3.mono fun y hy => .tail _ hy))
  case done =>
    rintro m1 h tk ⟨ja, jk, ⟨oD1, x2, jD, jx⟩, jT⟩ F1
    exact k _ _ _ _ _ F1 (agree_fresh ja hnn) jk jD jx jT
end Mine
end

section
open PySem PySem.W PyProof.Rows
namespace Mine
theorem anew71 : True ∧ True := by
  walk1
  w_top off
  all_goals exact True.intro
end Mine
end

section
open PySem PySem.W PySem.Calls PyProof.Rows PyProof.Rows.LCg PyProof.Rows.LCt
set_option maxRecDepth 100000
set_option maxHeartbeats 1000000
namespace Mine

theorem zs_loop {w : World} {dp un : Nat} {gd : Option (List Code)} {fr : List Env} {base g : Heap} {L : Addr} {m : Str → Option Value} {s : Shared} {p loose mean mg mb}
    {r : Rd} {ln : Int} {u1 : Tok} {n : Nat} {pl : List Value} {pn : Nat} {q it : Addr} {ts tt : Tok} {sl : List Value} {fin : List Nat} {R : Result → Shared → Prop}
    (hf : fin = [122] ∨ ∃ c, isWs c = true ∧ fin = [c, 122])
    (B : Below (AA dp un gd fr) base fr g) (X : (hd.heap_1 w.params).In g) (T : Top p loose mean mg mb g) (F : Fr g L s.heap m)
    (hm1 : m (Str.ofString "self") = some (.ref r.x)) (hm2 : m (Str.ofString "fiter") = some (.ref it)) (hm3 : m (Str.ofString "token") = some (.str (Str.ofString "") tt))
    (hA : dp ≤ 490) (ok : r.Ok) (oq : @LT.lt Nat _ r.pb q) (oi : @LT.lt Nat _ q it) (hs : SignsAre sl fin)
    (N : News g L s.heap (lexNews r ln u1 sl n pl pn ++ gtNews r q it ts))
    (k : ∀ h' tk (m' : Str → Option Value) n' u1' t', Fr g L h' (fun y => if y = Str.ofString "token" then some (.str (Str.ofString "z") t') else m' y) → News g L h' (lexNews r (ln + nl fin) u1' [] n' pl pn ++ gtNewsE r q it) → R (.ok .next) { s with heap := h', toks := tk }) :
    codeAny (model PySem.Challenge.rw_pg0121_01.row.prog w) ((AA dp un gd fr).deeper (gtEnv L)) (.forLoop (forTarget outerFor) (.ref it) outerBody [] (gtEnv L)) R s := by
  have z0 : nl [122] = 0 := rfl
  rcases hf with rfl | ⟨c, hws, rfl⟩
  · cases hs with
    | snoc c tc hs =>
    cases hs
    rw [z0] at k
    refine z_loop B X T F hm1 hm2 hm3 hA ok oq oi N fun h' tk m' n' u1' t' F' N' => k h' tk m' n' u1' t' F' (by rw [Int.add_zero]; exact N')
  · cases hs with
    | snoc c tc hs =>
    cases hs with
    | snoc c2 tc2 hs =>
    cases hs
    refine forLoop_turn (next_sign B X T F hA (by simp) ok oq oi N fun h' tk u1' F' N' => ?_)
    clear F N
    have F2 := fr3 F' hm1 hm2 hm3
    clear F'
    have hnl : lnBehind c ln = ln + nl [c, 122] := by
      have := nl_cons c [122] ln
      rw [z0, Int.add_zero] at this
      exact this
    dsimp only
    conv in forTarget outerFor => whnf
    conv in outerBody => whnf
    refine wpAny_assign_Name ?_
    repeat' (first | (k_unfold; (try dsimp only)) | ((with_reducible show wpAny _ _ (compareOp CmpOp.In (Value.str _ _) (Value.str _ _)) _ _ _); k_dflt (refine in_ws ?_)) | ((with_reducible show wpAny _ _ (pyIter (Value.ref _)) _ _ _); (k_dflt (refine' pyIter_cit ?zqa ?zqb ?_; (case zqa => first | exact News.get (by k_asm) (List.mem_append_right _ (.tail _ (.head _))) | exact News.get (by k_asm) (by k_mem)); (case zqb => exact rfl)))) | ((with_reducible show wpAny _ _ (exec (Stmt.For _ (Expr.Name _ _) _ _ _) _) _ _ _); (k_dflt (refine wpAny_For ?_))) | ((with_reducible show wpAny _ _ (call (Value.builtin "iter") _) _ _ _); (k_dflt (refine' iter2_K ?zqF ?zqN ?zqq ?_; (case zqF => k_asm); (case zqN => k_asm); (case zqq => k_mem); k_whole)); walk_at "In9") | ((with_reducible show wpAny _ _ (truthy (Value.ref _)) _ _ _); (k_dflt (refine' truthy_nil ?zqk1 ?_; (case zqk1 => exact News.isList (by k_asm) (by k_mem)); k_whole))) | (k_end; wrow_close) | walk1 | (dsimp only; walk1) | (leave1; walk_say "STEP leave1"; try dsimp only) | fail "no step")
    all_goals refine z_loop B X T (by k_asm) rfl rfl rfl hA ok oq oi (by k_asm) (fun h' tk m' n' u1' t' F' N' => k _ _ _ _ _ _ F' (by rw [← hnl]; exact N'))
theorem gt_fin {w : World} {dp un : Nat} {gd : Option (List Code)} {fr : List Env} {h₀ : Heap} {L : Addr} {m : Str → Option Value} {s : Shared} {R : Result → Shared → Prop}
    {r : Rd} {ln : Int} {u1 : Tok} {n : Nat} {pn : Nat} {sl : List Value} {fin : List Nat}
    (C : Cx w (AA dp un gd fr) h₀ L m s.heap) (hA : dp ≤ 490) (ok : r.Ok)
    (hf : fin = [122] ∨ ∃ c, isWs c = true ∧ fin = [c, 122]) (hs : SignsAre sl fin) (N : News h₀ L s.heap (lexNews r ln u1 sl n [] pn))
    (k : ∀ h' tk u1' n' t', Agree r.adr s.heap h' → News h₀ L h' (lexNews r (ln + nl fin) u1' [] n' [] pn) → R (.ok (.ret (.str (Str.ofString "z") t'))) { s with heap := h', toks := tk }) :
    codeAny (model PySem.Challenge.rw_pg0121_01.row.prog w) (AA dp un gd fr) (.call (.ref 65) ⟨[.ref r.x], []⟩) R s := by
  have X₀ := C.kin
  have F₀ := C.fr
  k_dflt (refine' enter (binds := [("self", .ref r.x)]) C N ?ho ?hcd ?hroom ?hb ?hl ?_ ?hc ?h1 ?h2 ?h3; (case ho => k_is); (case hcd => k_is); (case hroom => k_room); (case hb => exact BindsTo.of_eq rfl); (case hl => exact locs rfl); (case hc => decide); (case h1 => exact rfl); (case h2 => exact rfl); (case h3 => exact rfl))
  k_whole
  clear X₀ F₀
  intro base outer env L' h₁ p loose mean mg mb F' N' B' X' T' hlt
  have eF : some fr = some (env :: outer) := B'.stack
  injection eF with eF
  subst eF
  have l0 := hlt
  (try k_lt l0)
  (try dsimp only); (try k_fold)
  repeat' (first | (k_unfold; (try dsimp only)) | ((with_reducible show wpAny _ _ (compareOp CmpOp.In (Value.str _ _) (Value.str _ _)) _ _ _); k_dflt (refine in_ws ?_)) | ((with_reducible show wpAny _ _ (pyIter (Value.ref _)) _ _ _); (k_dflt (refine' pyIter_cit ?zqa ?zqb ?_; (case zqa => first | exact News.get (by k_asm) (List.mem_append_right _ (.tail _ (.head _))) | exact News.get (by k_asm) (by k_mem)); (case zqb => exact rfl)))) | ((with_reducible show wpAny _ _ (exec (Stmt.For _ (Expr.Name _ _) _ _ _) _) _ _ _); (k_dflt (refine wpAny_For ?_))) | ((with_reducible show wpAny _ _ (call (Value.builtin "iter") _) _ _ _); (k_dflt (refine' iter2_K ?zqF ?zqN ?zqq ?_; (case zqF => k_asm); (case zqN => k_asm); (case zqq => k_mem); k_whole)); walk_at "In9") | ((with_reducible show wpAny _ _ (truthy (Value.ref _)) _ _ _); (k_dflt (refine' truthy_nil ?zqk1 ?_; (case zqk1 => exact News.isList (by k_asm) (by k_mem)); k_whole))) | (k_end; wrow_close) | walk1 | (dsimp only; walk1) | (leave1; walk_say "STEP leave1"; try dsimp only) | fail "no step")
  rename Fr _ _ _ _ => F9
  rename News _ _ _ _ => N9
  refine' zs_loop hf B' X' T' F9 rfl rfl rfl hA ok ?oq ?oi hs (news_back N9) ?k
  case oq => refine ltN ?_; omega
  case oi => refine ltN ?_; omega
  intro h' tk m' n' u1' t' F2 N2
  clear F9 N9
  dsimp only
  repeat' (first | (k_unfold; (try dsimp only)) | ((with_reducible show wpAny _ _ (compareOp CmpOp.In (Value.str _ _) (Value.str _ _)) _ _ _); k_dflt (refine in_ws ?_)) | ((with_reducible show wpAny _ _ (pyIter (Value.ref _)) _ _ _); (k_dflt (refine' pyIter_cit ?zqa ?zqb ?_; (case zqa => first | exact News.get (by k_asm) (List.mem_append_right _ (.tail _ (.head _))) | exact News.get (by k_asm) (by k_mem)); (case zqb => exact rfl)))) | ((with_reducible show wpAny _ _ (exec (Stmt.For _ (Expr.Name _ _) _ _ _) _) _ _ _); (k_dflt (refine wpAny_For ?_))) | ((with_reducible show wpAny _ _ (call (Value.builtin "iter") _) _ _ _); (k_dflt (refine' iter2_K ?zqF ?zqN ?zqq ?_; (case zqF => k_asm); (case zqN => k_asm); (case zqq => k_mem); k_whole)); walk_at "In9") | ((with_reducible show wpAny _ _ (truthy (Value.ref _)) _ _ _); (k_dflt (refine' truthy_nil ?zqk1 ?_; (case zqk1 => exact News.isList (by k_asm) (by k_mem)); k_whole))) | (k_end; wrow_close) | walk1 | (dsimp only; walk1) | (leave1; walk_say "STEP leave1"; try dsimp only) | fail "no step")
  dsimp only
  exact ⟨_, _, _, F2, news_left N2, fun hag hN => k _ _ _ _ _ hag hN⟩
end Mine
end

section
open PySem PySem.W PyProof.Rows
namespace Mine
theorem anew72 : True ∧ True := by
  walk1
  w_top off
  all_goals exact True.intro
end Mine
end

section
open PySem PySem.W PySem.Calls PyProof.Rows PyProof.Rows.LCg PyProof.Rows.LCt
set_option maxRecDepth 100000
set_option maxHeartbeats 1000000
namespace Mine



noncomputable def endCmp : Expr := match lawStm 22 with
  | .If t _ _ _ => t
  | _ => .Constant .none 0 ⟨0, 0, 0, 0⟩
noncomputable def endC : Expr := cmpL endCmp
/-- the reader tells `t` -/
noncomputable def Tells (w : World) (r : Rd) (ln : Int) (sl : List Value) (pn : Nat) (t : Str) (ln' : Int) (sl' : List Value) : Prop :=
  ∀ {dp un : Nat} {gd : Option (List Code)} {fr : List Env} {h₀ : Heap} {L : Addr} {m : Str → Option Value} {s : Shared} {R : Result → Shared → Prop} {u1 : Tok} {n : Nat}, Cx w (AA dp un gd fr) h₀ L m s.heap → dp ≤ 490 → News h₀ L s.heap (lexNews r ln u1 sl n [] pn) →
    (∀ h' tk u1' n' t', Agree r.adr s.heap h' → News h₀ L h' (lexNews r ln' u1' sl' n' [] pn) → R (.ok (.ret (.str t t'))) { s with heap := h', toks := tk }) →
    codeAny (model PySem.Challenge.rw_pg0121_01.row.prog w) (AA dp un gd fr) (.call (.ref 65) ⟨[.ref r.x], []⟩) R s

theorem end_step {w : World} {g : Heap} {L fa : Addr} {cd : Value} {m : Str → Option Value} {base : Heap} {p loose mean mg mb} {s₂ : Shared} {own : List (Addr × Obj)} {Fin : List Value → List (Addr × Obj) → Prop} {P : Nat → Value → Prop} {r : Rd} {oR : Obj} {ln ln' : Int} {sl sl' : List Value} {t : Str} {pn k i n : Nat} {u1 : Tok} {ys : List Value}
    (B : Below LA base [] g) (X : (hd.heap_1 w.params).In g) (T : Top p loose mean mg mb g) (ok : r.Ok) (dR : oR.data = .cell (some (.ref r.x)))
    (off : OwnOff own ((lexRel r 1 0 [] 0 [] 0 [(L+1+1+1+1, oR)]).map (·.1))) (hoff : (L+1+1+1+1) ∉ r.adr)
    (tells : Tells w r ln sl pn t ln' sl')
    (ih : ∀ u1' n' t', CompRest PP w (LA.deeper (lawEnv L fa cd)) g L m (lawEnv L fa cd) (compElt endC) (Str.ofString "k") (compSco endC) [(Str.ofString "reader", L+1+1+1+1)] s₂ (fun _ => True) P Fin k (i + 1) (ys ++ [.str t t'])
      (lexRel r ln' u1' sl' n' [] pn [(L+1+1+1+1, oR)] ++ own)) :
    CompRest PP w (LA.deeper (lawEnv L fa cd)) g L m (lawEnv L fa cd) (compElt endC) (Str.ofString "k") (compSco endC) [(Str.ofString "reader", L+1+1+1+1)] s₂ (fun _ => True) P Fin (k + 1) i ys
      (lexRel r ln u1 sl n [] pn [(L+1+1+1+1, oR)] ++ own) := by
  refine CompRest.succ ?_
  intro v I oI C oC D m₂ h tk E' hP hNs hmx F N off3 ne
  have o := ok
  obtain ⟨o1, o2, o3, o4, o5, o6, o7, o8, d1, d2, d3⟩ := o
  conv in compElt endC => whnf
  dsimp only [lexRel, lexNews, List.cons_append, List.nil_append] at N
  repeat' ((fail_if_success (with_reducible show wpAny _ _ (call (Value.ref 65) _) _ _ _)); first | (k_unfold; (try dsimp only)) | ((with_reducible show wpAny _ _ (call (Value.type "range") _) _ _ _); k_dflt (first | (refine' range1K ?zqF ?zqN ?_; (case zqF => k_asm); (case zqN => k_asm)) | (refine' range2K ?zqF ?zqN ?_; (case zqF => k_asm); (case zqN => k_asm))); walk_at "In9") | ((with_reducible show wpAny _ _ (call (Value.builtin "len") _) _ _ _); (k_dflt (refine len_any (News.isList (by k_asm) (by k_mem)) (by omega) ?_))) | walk1 | (dsimp only; walk1))
  dsimp only [List.append_nil]
  have NL : News g L h (lexNews r ln u1 sl n [] pn) := news_sub N (by walk_at "Sub9")
  have NO : ∀ q ∈ (I, oI) :: (C, oC) :: (D, lst ys) :: (L+1+1+1+1, oR) :: own, (h.get? q.1 = some q.2 ∧ q.1 ≠ L ∧ g.get? q.1 = none) ∧ q.1 ∉ r.adr := by
    have f3 := off3.mem
    have fl : ∀ a ∈ r.adr, a ≠ I ∧ a ≠ C ∧ a ≠ D := by
      intro a ha
      have : ∃ o, (a, o) ∈ lexNews r ln u1 sl n [] pn := by
        obtain ⟨p9, hp9, e9⟩ := List.mem_map.mp (show a ∈ (lexNews r ln u1 sl n [] pn).map (·.1) from ha)
        exact ⟨p9.2, by rw [← e9]; exact hp9⟩
      obtain ⟨o, ho⟩ := this
      exact f3 _ (List.mem_append_left _ (List.mem_append_left _ ho))
    intro q hq
    rcases List.mem_cons.mp hq with rfl | hq
    · exact ⟨N _ (by k_mem), fun z => (fl _ z).1 rfl⟩
    rcases List.mem_cons.mp hq with rfl | hq
    · exact ⟨N _ (by k_mem), fun z => (fl _ z).2.1 rfl⟩
    rcases List.mem_cons.mp hq with rfl | hq
    · exact ⟨N _ (by k_mem), fun z => (fl _ z).2.2 rfl⟩
    rcases List.mem_cons.mp hq with rfl | hq
    · exact ⟨N _ (by k_mem), hoff⟩
    refine ⟨N q (by repeat (first | assumption | refine List.Mem.tail _ ?_)), fun z => off q hq q.1 ?_ rfl⟩
    exact List.mem_append_left _ z
  refine wpAny_call (tells (cx_of (env := lawEnv L fa cd) B F X T rfl rfl) (by decide) NL fun h' tk' u1' n' t' hag hN => ?_)
  dsimp only
  k_unfold
  try dsimp only
  refine CompEnd.intro (all := (I, oI) :: (C, oC) :: (D, lst ys) :: (lexRel r ln' u1' sl' n' [] pn [(L+1+1+1+1, oR)] ++ own)) (after_fr F NL hag) ?_ (lexRel r ln' u1' sl' n' [] pn [(L+1+1+1+1, oR)] ++ own) (fun _ hp => hp) off3 trivial (ih _ _ _)
  have on : ∀ q, q ∈ (I, oI) :: (C, oC) :: (D, lst ys) :: (L+1+1+1+1, oR) :: own → h'.get? q.1 = some q.2 ∧ q.1 ≠ L ∧ g.get? q.1 = none := fun q hq => ⟨hag _ _ (NO q hq).1.1 (NO q hq).2, (NO q hq).1.2⟩
  intro q hq
  rcases List.mem_cons.mp hq with rfl | hq
  · exact on _ (by k_mem)
  rcases List.mem_cons.mp hq with rfl | hq
  · exact on _ (by k_mem)
  rcases List.mem_cons.mp hq with rfl | hq
  · exact on _ (by k_mem)
  rcases List.mem_append.mp hq with hq | hq
  · rcases List.mem_append.mp hq with hq | hq
    · exact hN q hq
    · rw [List.mem_singleton.mp hq]
      exact on _ (by k_mem)
  · exact on q (.tail _ (.tail _ (.tail _ (.tail _ hq))))
end Mine
end

section
open PySem PySem.W PyProof.Rows
namespace Mine
theorem anew73 : True ∧ True := by
  walk1
  w_top off
  all_goals exact True.intro
end Mine
end

section
open PySem PySem.W PySem.Calls PyProof.Rows PyProof.Rows.LCg PyProof.Rows.LCt
set_option maxRecDepth 100000
set_option maxHeartbeats 1000000
namespace Mine



theorem tells_fin {w : World} {r : Rd} {ln : Int} {sl : List Value} {pn : Nat} {fin : List Nat} (ok : r.Ok) (hf : fin = [122] ∨ ∃ c, isWs c = true ∧ fin = [c, 122]) (hs : SignsAre sl fin) : Tells w r ln sl pn (Str.ofString "z") (ln + nl fin) [] :=
  fun C hA N k => gt_fin C hA ok hf hs N k
theorem tells_eof {w : World} {r : Rd} {ln : Int} {pn : Nat} (ok : r.Ok) : Tells w r ln [] pn (Str.ofString "") ln [] :=
  fun C hA N k => gt_eof C hA ok N fun h' tk t' => k h' tk _ _ t'

theorem ph22 {w : World} {g : Heap} {L fa : Addr} {cd : Value} {s : Shared} {m : Str → Option Value} {Q : Flow → Shared → Prop} {r : Rd} {oR : Obj} {sl : List Value} {n pn : Nat} {ln : Int} {u1 : Tok} {fin : List Nat}
    (bas : Bas w g) (F : Fr g L s.heap m) (ok : r.Ok) (N : News g L s.heap (lexNews r ln u1 sl n [] pn)) (NM : News g L s.heap [(L+1+1+1+1, oR)])
    (dR : oR.data = .cell (some (.ref r.x))) (hoff : (L+1+1+1+1) ∉ r.adr) (hf : fin = [122] ∨ ∃ c, isWs c = true ∧ fin = [c, 122]) (hs : SignsAre sl fin)
    (k : ∀ h' tk u1' n', Fr g L h' m → Agree (L :: r.adr) s.heap h' → News g L h' (lexNews r (ln + nl fin) u1' [] n' [] pn) → Q .next { s with heap := h', toks := tk }) :
    wpAny (model PP w) (LA.deeper (lawEnv L fa cd)) (exec (lawStm 22) (lawEnv L fa cd)) Q (fun _ _ => False) s := by
  obtain ⟨h85, h36, h29, X, base, p, loose, mean, mg, mb, B, T⟩ := bas
  have NA : News g L s.heap (lexRel r ln u1 sl n [] pn [(L+1+1+1+1, oR)]) := news_app N NM
  obtain ⟨own, O, N2, off⟩ := old_of F NA
  have off2 : OwnOff own ((lexRel r 1 0 [] 0 [] 0 [(L+1+1+1+1, oR)]).map (·.1)) := off
  have hideN : News g L s.heap (lexRel r ln u1 sl n [] pn [(L+1+1+1+1, oR)] ++ own) ∧ True := ⟨N2, trivial⟩
  dsimp only [lexRel, lexNews, List.cons_append, List.nil_append] at N2
  clear N NM NA
  conv in lawStm 22 => whnf
  repeat' ((fail_if_success (with_reducible show wpAny _ _ (eval (Expr.ListComp _ _ _ _) _) _ _ _)); first | (k_unfold; (try dsimp only)) | ((with_reducible show wpAny _ _ (call (Value.type "range") _) _ _ _); k_dflt (first | (refine' range1K ?zqF ?zqN ?_; (case zqF => k_asm); (case zqN => k_asm)) | (refine' range2K ?zqF ?zqN ?_; (case zqF => k_asm); (case zqN => k_asm))); walk_at "In9") | ((with_reducible show wpAny _ _ (call (Value.builtin "len") _) _ _ _); (k_dflt (refine len_any (News.isList (by k_asm) (by k_mem)) (by omega) ?_))) | walk1 | (dsimp only; walk1))
  refine ListComp_U F (by rfl) (by decide) (by rfl) (by decide) (by rfl) ?_
  repeat' ((fail_if_success (with_reducible show CompSrc _ _ _ _ _ _ _ _ _ _ _ _ _ _)); first | (k_unfold; (try dsimp only)) | ((with_reducible show wpAny _ _ (call (Value.type "range") _) _ _ _); k_dflt (first | (refine' range1K ?zqF ?zqN ?_; (case zqF => k_asm); (case zqN => k_asm)) | (refine' range2K ?zqF ?zqN ?_; (case zqF => k_asm); (case zqN => k_asm))); walk_at "In9") | ((with_reducible show wpAny _ _ (call (Value.builtin "len") _) _ _ _); (k_dflt (refine len_any (News.isList (by k_asm) (by k_mem)) (by omega) ?_))) | walk1 | (dsimp only; walk1))
  rename_i rg h7 tk7 t7 u7 v7 F9 N9 l9
  obtain ⟨y1, y2⟩ := small_of (a := 0) (b := 3) (by omega) (by omega) (by omega)
  have l9' : AllLt rg (lexRel r ln u1 sl n [] pn [(L+1+1+1+1, oR)] ++ own) := l9
  have offr : OwnOff ((rg, rngObj 0 3 t7 u7 v7) :: own) ((lexRel r 1 0 [] 0 [] 0 [(L+1+1+1+1, oR)]).map (·.1)) := by
    intro q hq b hb
    rcases List.mem_cons.mp hq with rfl | hq
    · obtain ⟨p, hp, rfl⟩ := List.mem_map.mp hb
      have hb2 : p.1 ∈ (lexRel r ln u1 sl n [] pn [(L+1+1+1+1, oR)]).map (·.1) := hb
      obtain ⟨p', hp', e⟩ := List.mem_map.mp hb2
      exact fun e2 => Nat.lt_irrefl rg (by
        have := allLt_all l9' p' (List.mem_append_left _ hp')
        rw [e, ← e2] at this
        exact this)
    · exact off2 q hq b hb
  have hide9 : News g L h7 (lexRel r ln u1 sl n [] pn [(L+1+1+1+1, oR)] ++ ((rg, rngObj 0 3 t7 u7 v7) :: own)) ∧ True := ⟨fun q hq => N9 q (by
    rcases List.mem_append.mp hq with h | h
    · exact .tail _ (List.mem_append_left own h)
    rcases List.mem_cons.mp h with rfl | h
    · exact .head _
    · exact .tail _ (List.mem_append_right (lexRel r ln u1 sl n [] pn [(L+1+1+1+1, oR)]) h)), trivial⟩
  have hrg := (N9 (rg, _) (.head _)).1
  clear N9
  refine CompSrc.range (n := 3) (news := lexRel r ln u1 sl n [] pn [(L+1+1+1+1, oR)] ++ ((rg, rngObj 0 3 t7 u7 v7) :: own)) rfl F9 hide9.1 hrg y1 (by rw [y2]; rfl) (by rw [sizeLine_eq]; omega) fun g' => ?_
  refine end_step B X T ok dR offr hoff (tells_fin ok hf hs) fun u2 n2 t2 => ?_
  refine end_step B X T ok dR offr hoff (tells_eof ok) fun u3 n3 t3 => ?_
  refine end_step B X T ok dR offr hoff (tells_eof ok) fun u4 n4 t4 => ?_
  refine CompRest.zero ?_
  intro D h2 tk2 F3 N3 oD
  clear F9
  have hideD : News g L h2 ((D, lst ([] ++ [Value.str (Str.ofString "z") t2] ++ [.str (Str.ofString "") t3] ++ [.str (Str.ofString "") t4])) :: (lexRel r (ln + nl fin) u4 [] n4 [] pn [(L+1+1+1+1, oR)] ++ ((rg, rngObj 0 3 t7 u7 v7) :: own))) ∧ True := ⟨N3, trivial⟩
  have hl2 : News g L h2 ((D, lst [Value.str (Str.ofString "z") t2, .str (Str.ofString "") t3, .str (Str.ofString "") t4]) :: (lexRel r (ln + nl fin) u4 [] n4 [] pn [(L+1+1+1+1, oR)] ++ own)) := fun q hq => N3 q (by
    rcases List.mem_cons.mp hq with rfl | hq
    · exact .head _
    rcases List.mem_append.mp hq with hq | hq
    · exact .tail _ (List.mem_append_left _ hq)
    · exact .tail _ (List.mem_append_right _ (.tail _ hq)))
  dsimp only [lexRel, lexNews, List.cons_append, List.nil_append] at hl2
  clear N3
  try dsimp only
  repeat' ((fail_if_success (with_reducible show wpAny _ _ (compareOp _ _ _) _ _ _)); first | (k_unfold; (try dsimp only)) | ((with_reducible show wpAny _ _ (call (Value.type "range") _) _ _ _); k_dflt (first | (refine' range1K ?zqF ?zqN ?_; (case zqF => k_asm); (case zqN => k_asm)) | (refine' range2K ?zqF ?zqN ?_; (case zqF => k_asm); (case zqN => k_asm))); walk_at "In9") | ((with_reducible show wpAny _ _ (call (Value.builtin "len") _) _ _ _); (k_dflt (refine len_any (News.isList (by k_asm) (by k_mem)) (by omega) ?_))) | walk1 | (dsimp only; walk1))
  rename News _ _ _ _ => N10
  have ok3 : ∀ x ∈ [Str.ofString "z", Str.ofString "", Str.ofString ""], PyData.strOk x = true := by
    intro x hx
    simp only [List.mem_cons, List.not_mem_nil, or_false] at hx
    rcases hx with rfl | rfl | rfl <;> decide +kernel
  refine ne_strs (ns := [Str.ofString "z", Str.ofString "", Str.ofString ""]) (ms := [Str.ofString "z", Str.ofString "", Str.ofString ""]) (News.isList N10 (.tail _ (.head _))) (News.isList N10 (.head _)) (.cons _ _ (.cons _ _ (.cons _ _ .nil))) (.cons _ _ (.cons _ _ (.cons _ _ .nil))) ok3 ok3 (Nat.le_of_ble_eq_true rfl) ?_
  rw [decide_eq_true rfl]
  clear hideD
  repeat' (first | (k_unfold; (try dsimp only)) | ((with_reducible show wpAny _ _ (call (Value.type "range") _) _ _ _); k_dflt (first | (refine' range1K ?zqF ?zqN ?_; (case zqF => k_asm); (case zqN => k_asm)) | (refine' range2K ?zqF ?zqN ?_; (case zqF => k_asm); (case zqN => k_asm))); walk_at "In9") | ((with_reducible show wpAny _ _ (call (Value.builtin "len") _) _ _ _); (k_dflt (refine len_any (News.isList (by k_asm) (by k_mem)) (by omega) ?_))) | (k_end; wrow_close) | walk1 | (dsimp only; walk1) | (leave1; walk_say "STEP leave1"; try dsimp only) | fail "no step")
  rename Fr _ _ _ _ => F11
  rename News _ _ _ _ => N11
  exact k _ _ _ _ F11 (O.agree F11 N11 (by intro p hp; k_ownIn) r.adr (by walk_at "Same9")) (news_sub N11 (by walk_at "Sub9"))
end Mine
end

section
open PySem PySem.W PyProof.Rows
namespace Mine
theorem anew74 : True ∧ True := by
  walk1
  w_top off
  all_goals exact True.intro
end Mine
end

section
open PySem PySem.W PySem.Calls PyProof.Rows PyProof.Rows.LCg PyProof.Rows.LCt
set_option maxRecDepth 100000
set_option maxHeartbeats 1000000
namespace Mine



theorem ph23 {w : World} {g : Heap} {L fa : Addr} {cd : Value} {s : Shared} {m : Str → Option Value} {Q : Flow → Shared → Prop} {r : Rd} {oR : Obj} {sl : List Value} {n pn : Nat} {ln : Int} {u1 t0 : Tok} {text : Str}
    (bas : Bas w g) (F : Fr g L s.heap m) (hmt : m (Str.ofString "text") = some (.str text t0)) (ok : r.Ok) (N : News g L s.heap (lexNews r ln u1 sl n [] pn)) (NM : News g L s.heap [(L+1+1+1+1, oR)])
    (dR : oR.data = .cell (some (.ref r.x))) (hln : ln = Txt.count text (Str.ofString "\n") + 1)
    (k : ∀ h' tk, h' = s.heap → Q (.ret (.bool true)) { s with heap := h', toks := tk }) :
    wpAny (model PP w) (LA.deeper (lawEnv L fa cd)) (exec (lawStm 23) (lawEnv L fa cd)) Q (fun _ _ => False) s := by
  obtain ⟨h85, h36, h29, X, base, p, loose, mean, mg, mb, B, T⟩ := bas
  have NA : News g L s.heap (lexRel r ln u1 sl n [] pn [(L+1+1+1+1, oR)]) := news_app N NM
  obtain ⟨own, O, N2, off⟩ := old_of F NA
  have F2 := fr_ov [(Str.ofString "text", _)] F (AtM.all ⟨hmt, trivial⟩)
  have hov := ov_eq (m := m) (l := [(Str.ofString "text", .str text t0)]) (AtM.all ⟨hmt, trivial⟩)
  dsimp only [ov] at F2
  dsimp only [lexRel, lexNews, List.cons_append, List.nil_append] at N2
  clear F N NM NA
  conv in lawStm 23 => whnf
  repeat' (first | (k_unfold; (try dsimp only)) | ((with_reducible show wpAny _ _ (call (Value.type "range") _) _ _ _); k_dflt (first | (refine' range1K ?zqF ?zqN ?_; (case zqF => k_asm); (case zqN => k_asm)) | (refine' range2K ?zqF ?zqN ?_; (case zqF => k_asm); (case zqN => k_asm))); walk_at "In9") | ((with_reducible show wpAny _ _ (call (Value.builtin "len") _) _ _ _); (k_dflt (refine len_any (News.isList (by k_asm) (by k_mem)) (by omega) ?_))) | (k_end; wrow_close) | walk1 | (dsimp only; walk1) | (leave1; walk_say "STEP leave1"; try dsimp only) | fail "no step")
  rw [← hln, beq_self_eq_true]
  exact k s.heap _ rfl
end Mine
end

section
open PySem PySem.W PyProof.Rows
namespace Mine
theorem anew75 : True ∧ True := by
  walk1
  w_top off
  all_goals exact True.intro
end Mine
end

section
open PySem PySem.W PySem.Calls PyProof.Rows PyProof.Rows.LCg PyProof.Rows.LCt
set_option maxHeartbeats 1000000
namespace Mine
/-! the plain law: the wavelet matrix -/
theorem below_eq {ns : List Int} {x : Int} {c : Nat} (h : Below' ns x c) : c = (ns.filter fun y => decide (y < x)).length := by
  obtain ⟨h1, h2, h3⟩ := h
  have e : ns.filter (fun y => decide (y < x)) = (ns.take c).filter (fun y => decide (y < x)) ++ (ns.drop c).filter (fun y => decide (y < x)) := by
    rw [← List.filter_append, List.take_append_drop]
  have e1 : (ns.take c).filter (fun y => decide (y < x)) = ns.take c := by
    refine List.filter_eq_self.mpr fun y hy => ?_
    obtain ⟨i, hi, rfl⟩ := List.getElem_of_mem hy
    have hi' : i < c := by rw [List.length_take] at hi; omega
    have := h2 i hi'
    rw [List.getD_eq_getElem?_getD, List.getElem?_eq_getElem (by omega)] at this
    rw [List.getElem_take]
    exact decide_eq_true this
  have e2 : (ns.drop c).filter (fun y => decide (y < x)) = [] := by
    refine List.filter_eq_nil_iff.mpr fun y hy => ?_
    obtain ⟨i, hi, rfl⟩ := List.getElem_of_mem hy
    rw [List.length_drop] at hi
    have := h3 (c + i) (by omega) (by omega)
    rw [List.getD_eq_getElem?_getD, List.getElem?_eq_getElem (by omega)] at this
    rw [List.getElem_drop]
    simpa using this
  rw [e, e1, e2, List.append_nil, List.length_take]
  omega
theorem zplaces_below (l : Nat) (row : List Int) {i n : Nat} (h : i ≤ n) : (zplaces l row n).filter (fun y => decide (y < (i : Int))) = zplaces l row i := by
  induction h with
  | refl =>
    refine List.filter_eq_self.mpr fun y hy => ?_
    obtain ⟨p, hp, rfl⟩ := List.mem_map.mp hy
    have := List.mem_range.mp (List.mem_filter.mp hp).1
    exact decide_eq_true (by omega)
  | step h ih =>
    rename_i n
    have h' : i ≤ n := h
    rw [zplaces_succ]
    split
    · rw [List.filter_append, ih, List.filter_cons_of_neg (by simpa using h'), List.filter_nil, List.append_nil]
    · exact ih
theorem rises_of {ns : List Int} (h : ns.Pairwise (· ≤ ·)) : Rises ns := by
  intro i j hij hj
  rcases Nat.lt_or_ge i j with h1 | h1
  · rw [List.getD_eq_getElem?_getD, List.getD_eq_getElem?_getD, List.getElem?_eq_getElem (by omega), List.getElem?_eq_getElem hj]
    exact List.pairwise_iff_getElem.mp h i j (by omega) hj h1
  · rw [show i = j by omega]; exact Int.le_refl _
theorem zplaces_rises (l : Nat) (row : List Int) (n : Nat) : Rises (zplaces l row n) := by
  refine rises_of (List.pairwise_map.mpr ?_)
  exact ((List.pairwise_lt_range (n := n)).filter _).imp fun h => by omega
end Mine
end

section
open PySem PySem.W PyProof.Rows
namespace Mine
theorem anew76 : True ∧ True := by
  walk1
  w_top off
  all_goals exact True.intro
end Mine
end

section
open PySem PySem.W PySem.Calls PyProof.Rows PyProof.Rows.LCg PyProof.Rows.LCt
set_option maxHeartbeats 1000000
namespace Mine
noncomputable def zI (f : Nat → Int) (l : Nat) (j : Nat) : Bool := zb l (f j)
noncomputable def stepIdx (f : Nat → Int) (l : Nat) (R : List Nat) : List Nat := R.filter (zI f l) ++ R.filter fun j => !zI f l j
theorem stepRow_map (f : Nat → Int) (l : Nat) (R : List Nat) : stepRow l (R.map f) = (stepIdx f l R).map f := by
  unfold stepRow stepIdx
  rw [List.filter_map, List.filter_map, List.map_append]; rfl
theorem stepIdx_len (f : Nat → Int) (l : Nat) (R : List Nat) : (stepIdx f l R).length = R.length := by
  have := stepRow_len l (R.map f)
  rw [stepRow_map] at this
  simpa using this
noncomputable def idxAt (f : Nat → Int) (ls : List Nat) (R : List Nat) : List Nat := ls.foldl (fun R l => stepIdx f l R) R
noncomputable def zlist (f : Nat → Int) : List Nat → List Nat → List (List Int)
  | [], _ => []
  | l :: ls, R => zplaces l (R.map f) R.length :: zlist f ls (stepIdx f l R)
noncomputable def msd (f : Nat → Int) : List Nat → List Nat → List Nat
  | [], S => S
  | l :: ls, S => msd f ls (S.filter (zI f l)) ++ msd f ls (S.filter fun j => !zI f l j)
theorem msd_len (f : Nat → Int) : ∀ (ls : List Nat) (S : List Nat), (msd f ls S).length = S.length
  | [], _ => rfl
  | l :: ls, S => by
    show (_ ++ _ : List Nat).length = _
    rw [List.length_append, msd_len f ls, msd_len f ls]
    have := stepIdx_len f l S
    unfold stepIdx at this
    rwa [List.length_append] at this
/-- the figures of `j` at the levels are these -/
noncomputable def figsAre (f : Nat → Int) : List Nat → List Int → Nat → Bool
  | l :: ls, d :: ds, j => (zI f l j == (d == 0)) && figsAre f ls ds j
  | _, _, _ => true

theorem below_row {f : Nat → Int} {l : Nat} {R A B : List Nat} {c : Nat} (e : R = A ++ B) (h : Below' (zplaces l (R.map f) R.length) (A.length : Nat) c) : c = (A.filter (zI f l)).length := by
  rw [below_eq h, zplaces_below _ _ (by rw [e, List.length_append]; omega), take_filter_len _ _ _ (by rw [List.length_map, e, List.length_append]; omega)]
  rw [← List.map_take, e, List.take_left, List.filter_map, List.length_map]; rfl

theorem ask_idx (f : Nat → Int) : ∀ (ls : List Nat) (R A S B : List Nat) (a b k : Int) (figs : List Int) (f' b' k' : Int), R = A ++ (S ++ B) → a = A.length → b = ((A.length + S.length : Nat) : Int) → 0 ≤ k → k < S.length →
    Ask (zlist f ls R) a b k figs f' b' k' → ∃ A' S' B', idxAt f ls R = A' ++ (S' ++ B') ∧ f' = A'.length ∧ b' = ((A'.length + S'.length : Nat) : Int) ∧ 0 ≤ k' ∧ k' < S'.length ∧ (msd f ls S)[k.toNat]? = S'[k'.toNat]? ∧ S' = S.filter (figsAre f ls figs) ∧ ∀ d ∈ figs, d = 0 ∨ d = 1 := by
  intro ls
  induction ls with
  | nil =>
    intro R A S B a b k figs f' b' k' e ea eb h0 h1 h
    cases h
    refine ⟨A, S, B, e, ea, eb, h0, h1, rfl, ?_, by simp⟩
    exact (List.filter_eq_self.mpr fun _ _ => rfl).symm
  | cons l ls ih =>
    intro R A S B a b k figs f' b' k' e ea eb h0 h1 h
    have eR : R = (A ++ S) ++ B := by rw [e, List.append_assoc]
    have hz : (zplaces l (R.map f) R.length).length = (R.filter (zI f l)).length := by
      have := zplaces_count l (R.map f)
      rw [List.length_map, List.filter_map, List.length_map] at this
      exact this
    have hst : stepIdx f l R = A.filter (zI f l) ++ (S.filter (zI f l) ++ B.filter (zI f l)) ++ (A.filter (fun j => !zI f l j) ++ (S.filter (fun j => !zI f l j) ++ B.filter (fun j => !zI f l j))) := by
      unfold stepIdx
      rw [e]; simp only [List.filter_append]
    have lenS : (S.filter (zI f l)).length + (S.filter fun j => !zI f l j).length = S.length := by
      have := stepIdx_len f l S
      unfold stepIdx at this
      rwa [List.length_append] at this
    have lenA : (A.filter (zI f l)).length + (A.filter fun j => !zI f l j).length = A.length := by
      have := stepIdx_len f l A
      unfold stepIdx at this
      rwa [List.length_append] at this
    have mlz := msd_len f ls (S.filter (zI f l))
    have key : ∀ c e : Nat, Below' (zplaces l (R.map f) R.length) a c → Below' (zplaces l (R.map f) R.length) b e → c = (A.filter (zI f l)).length ∧ e = (A.filter (zI f l)).length + (S.filter (zI f l)).length := by
      intro c e' hc he
      rw [ea] at hc
      have eb' : b = ((A ++ S).length : Nat) := by rw [eb, List.length_append]
      rw [eb'] at he
      refine ⟨below_row e hc, ?_⟩
      rw [below_row eR he, List.filter_append, List.length_append]
    cases h with
    | zero hc he hk ha =>
      obtain ⟨k1, k2⟩ := key _ _ hc he
      subst k1 k2
      obtain ⟨A', S', B', r1, r2, r3, r4, r5, r6, r7, r8⟩ := ih (stepIdx f l R) (A.filter (zI f l)) (S.filter (zI f l)) (B.filter (zI f l) ++ (A.filter (fun j => !zI f l j) ++ (S.filter (fun j => !zI f l j) ++ B.filter (fun j => !zI f l j)))) _ _ _ _ _ _ _
        (by rw [hst]; simp only [List.append_assoc]) rfl (by omega) h0 (by omega) ha
      refine ⟨A', S', B', r1, r2, r3, r4, r5, ?_, ?_, ?_⟩
      · rw [← r6]
        show (_ ++ _ : List Nat)[_]? = _
        rw [List.getElem?_append_left (by omega)]
      · rw [r7, List.filter_filter]
        refine List.filter_congr fun j _ => ?_
        show _ = ((zI f l j == ((0 : Int) == 0)) && figsAre f ls _ j)
        cases zI f l j <;> simp
      · intro d hd
        rcases List.mem_cons.mp hd with rfl | hd
        · exact .inl rfl
        · exact r8 d hd
    | one hc he hk ha =>
      obtain ⟨k1, k2⟩ := key _ _ hc he
      subst k1 k2
      have lR : (R.filter (zI f l)).length = (A.filter (zI f l)).length + ((S.filter (zI f l)).length + (B.filter (zI f l)).length) := by rw [e]; simp only [List.filter_append, List.length_append]
      obtain ⟨A', S', B', r1, r2, r3, r4, r5, r6, r7, r8⟩ := ih (stepIdx f l R) (A.filter (zI f l) ++ (S.filter (zI f l) ++ B.filter (zI f l)) ++ A.filter (fun j => !zI f l j)) (S.filter (fun j => !zI f l j)) (B.filter (fun j => !zI f l j)) _ _ _ _ _ _ _
        (by rw [hst]; simp only [List.append_assoc]) (by simp only [List.length_append]; omega) (by simp only [List.length_append]; omega) (by omega) (by omega) ha
      refine ⟨A', S', B', r1, r2, r3, r4, r5, ?_, ?_, ?_⟩
      · rw [← r6]
        show (_ ++ _ : List Nat)[_]? = _
        rw [List.getElem?_append_right (by omega), mlz]
        congr 1
        omega
      · rw [r7, List.filter_filter]
        refine List.filter_congr fun j _ => ?_
        show _ = ((zI f l j == ((1 : Int) == 0)) && figsAre f ls _ j)
        cases zI f l j <;> simp
      · intro d hd
        rcases List.mem_cons.mp hd with rfl | hd
        · exact .inr rfl
        · exact r8 d hd
end Mine
end

section
open PySem PySem.W PyProof.Rows
namespace Mine
theorem anew77 : True ∧ True := by
  walk1
  w_top off
  all_goals exact True.intro
end Mine
end

section
open PySem PySem.W PySem.Calls PyProof.Rows PyProof.Rows.LCg PyProof.Rows.LCt
set_option maxHeartbeats 1000000
namespace Mine
/-- the number of the figures at these levels, the first the highest -/
noncomputable def fk (f : Nat → Int) : List Nat → Nat → Nat
  | [], _ => 0
  | l :: ls, j => (if zI f l j = true then 0 else 2 ^ ls.length) + fk f ls j
theorem fk_z {f : Nat → Int} {l : Nat} {ls : List Nat} {j : Nat} (h : zI f l j = true) : fk f (l :: ls) j = fk f ls j := by
  show (if zI f l j = true then 0 else 2 ^ ls.length) + fk f ls j = _
  rw [if_pos h, Nat.zero_add]
theorem fk_o {f : Nat → Int} {l : Nat} {ls : List Nat} {j : Nat} (h : zI f l j = false) : fk f (l :: ls) j = 2 ^ ls.length + fk f ls j := by
  show (if zI f l j = true then 0 else 2 ^ ls.length) + fk f ls j = _
  rw [if_neg (by rw [h]; exact Bool.false_ne_true)]
theorem fk_lt (f : Nat → Int) : ∀ (ls : List Nat) (j : Nat), fk f ls j < 2 ^ ls.length
  | [], _ => by show 0 < 1; omega
  | l :: ls, j => by
    have ih := fk_lt f ls j
    rw [List.length_cons, Nat.pow_succ]
    cases h : zI f l j
    · rw [fk_o h]; omega
    · rw [fk_z h]; omega
theorem filter_perm (z : Nat → Bool) : ∀ S : List Nat, (S.filter z ++ S.filter fun j => !z j).Perm S
  | [] => .nil
  | x :: S => by
    have ih := filter_perm z S
    cases h : z x
    · rw [List.filter_cons_of_neg (by simp [h]), List.filter_cons_of_pos (by simp [h])]
      exact List.perm_middle.trans (ih.cons x)
    · rw [List.filter_cons_of_pos h, List.filter_cons_of_neg (by simp [h])]
      exact ih.cons x
theorem msd_perm (f : Nat → Int) : ∀ (ls : List Nat) (S : List Nat), (msd f ls S).Perm S
  | [], _ => .refl _
  | l :: ls, S => ((msd_perm f ls _).append (msd_perm f ls _)).trans (filter_perm (zI f l) S)
theorem stepIdx_perm (f : Nat → Int) (l : Nat) (R : List Nat) : (stepIdx f l R).Perm R := filter_perm (zI f l) R
theorem idxAt_perm (f : Nat → Int) : ∀ (ls : List Nat) (R : List Nat), (idxAt f ls R).Perm R
  | [], _ => .refl _
  | l :: ls, R => (idxAt_perm f ls (stepIdx f l R)).trans (stepIdx_perm f l R)
theorem msd_pw (f : Nat → Int) : ∀ (ls : List Nat) (S : List Nat), S.Pairwise (· < ·) → (msd f ls S).Pairwise fun i j => fk f ls i < fk f ls j ∨ (fk f ls i = fk f ls j ∧ i < j)
  | [], _, h => h.imp fun h => .inr ⟨rfl, h⟩
  | l :: ls, S, h => by
    have mz : ∀ {i}, i ∈ msd f ls (S.filter (zI f l)) → zI f l i = true := fun hi => (List.mem_filter.mp ((msd_perm f ls _).mem_iff.mp hi)).2
    have mo : ∀ {i}, i ∈ msd f ls (S.filter fun j => !zI f l j) → zI f l i = false := fun hi => by
      have := (List.mem_filter.mp ((msd_perm f ls _).mem_iff.mp hi)).2
      simpa using this
    refine List.pairwise_append.mpr ⟨?_, ?_, ?_⟩
    · refine (msd_pw f ls _ (h.filter _)).imp_of_mem fun hi hj hr => ?_
      rw [fk_z (mz hi), fk_z (mz hj)]; exact hr
    · refine (msd_pw f ls _ (h.filter _)).imp_of_mem fun hi hj hr => ?_
      rw [fk_o (mo hi), fk_o (mo hj)]; omega
    · intro i hi j hj
      rw [fk_z (mz hi), fk_o (mo hj)]
      have := fk_lt f ls i
      omega
theorem stepIdx_pw {f : Nat → Int} {l : Nat} {R : List Nat} {r : Nat → Nat → Prop} (h : R.Pairwise r) : (stepIdx f l R).Pairwise fun i j => (zI f l i = true ∧ zI f l j = false) ∨ (zI f l i = zI f l j ∧ r i j) := by
  have mz : ∀ {i}, i ∈ R.filter (zI f l) → zI f l i = true := fun hi => (List.mem_filter.mp hi).2
  have mo : ∀ {i}, i ∈ R.filter (fun j => !zI f l j) → zI f l i = false := fun hi => by simpa using (List.mem_filter.mp hi).2
  refine List.pairwise_append.mpr ⟨?_, ?_, ?_⟩
  · exact (h.filter _).imp_of_mem fun hi hj hr => .inr ⟨(mz hi).trans (mz hj).symm, hr⟩
  · exact (h.filter _).imp_of_mem fun hi hj hr => .inr ⟨(mo hi).trans (mo hj).symm, hr⟩
  · exact fun i hi j hj => .inl ⟨mz hi, mo hj⟩
theorem zI_val (f : Nat → Int) (j : Nat) : zI f 0 j = (valW (f j) % 2 == 0) ∧ zI f 1 j = (valW (f j) / 2 % 2 == 0) ∧ zI f 2 j = (valW (f j) / 4 % 2 == 0) ∧ zI f 3 j = (valW (f j) / 8 % 2 == 0) := by
  obtain ⟨h0, h1⟩ := valW_bound (f j)
  have h := (bits4_eq _ h0 h1).1
  unfold zI zb
  rw [h]
  exact ⟨rfl, rfl, rfl, rfl⟩
theorem val16 {v : Int} (h0 : 0 ≤ v) (h1 : v < 16) : ∃ u : Fin 16, v = ((u.val : Nat) : Int) := ⟨⟨v.toNat, by omega⟩, by show v = ((v.toNat : Nat) : Int); omega⟩
theorem fk_val (f : Nat → Int) (j : Nat) : (fk f lvls j : Int) = valW (f j) := by
  obtain ⟨h0, h1⟩ := valW_bound (f j)
  obtain ⟨z0, z1, z2, z3⟩ := zI_val f j
  show (((if zI f 3 j = true then 0 else 8) + ((if zI f 2 j = true then 0 else 4) + ((if zI f 1 j = true then 0 else 2) + ((if zI f 0 j = true then 0 else 1) + 0))) : Nat) : Int) = _
  rw [z0, z1, z2, z3]
  obtain ⟨u, e⟩ := val16 h0 h1
  rw [e]
  have h : ∀ u : Fin 16, (((if ((u.val : Int) / 8 % 2 == 0) = true then 0 else 8) + ((if ((u.val : Int) / 4 % 2 == 0) = true then 0 else 4) + ((if ((u.val : Int) / 2 % 2 == 0) = true then 0 else 2) + ((if ((u.val : Int) % 2 == 0) = true then 0 else 1) + 0))) : Nat) : Int) = (u.val : Int) := by decide +kernel
  exact h u
/-- the bits as they are turned about -/
noncomputable def tz (k : Nat) (a : Int) : Bool := a / 2 ^ k % 2 == 0
theorem tr_dec : ∀ u v : Fin 16, ((tz 0 (u.val : Int) = true ∧ tz 0 (v.val : Int) = false) → turned (u.val : Int) < turned (v.val : Int)) ∧
    ((tz 0 (u.val : Int) = tz 0 (v.val : Int) ∧ tz 1 (u.val : Int) = true ∧ tz 1 (v.val : Int) = false) → turned (u.val : Int) < turned (v.val : Int)) ∧
    ((tz 0 (u.val : Int) = tz 0 (v.val : Int) ∧ tz 1 (u.val : Int) = tz 1 (v.val : Int) ∧ tz 2 (u.val : Int) = true ∧ tz 2 (v.val : Int) = false) → turned (u.val : Int) < turned (v.val : Int)) ∧
    ((tz 0 (u.val : Int) = tz 0 (v.val : Int) ∧ tz 1 (u.val : Int) = tz 1 (v.val : Int) ∧ tz 2 (u.val : Int) = tz 2 (v.val : Int) ∧ tz 3 (u.val : Int) = true ∧ tz 3 (v.val : Int) = false) → turned (u.val : Int) < turned (v.val : Int)) ∧
    ((tz 0 (u.val : Int) = tz 0 (v.val : Int) ∧ tz 1 (u.val : Int) = tz 1 (v.val : Int) ∧ tz 2 (u.val : Int) = tz 2 (v.val : Int) ∧ tz 3 (u.val : Int) = tz 3 (v.val : Int)) → turned (u.val : Int) = turned (v.val : Int)) := by decide +kernel
theorem zI_tz (f : Nat → Int) (j : Nat) : zI f 0 j = tz 0 (valW (f j)) ∧ zI f 1 j = tz 1 (valW (f j)) ∧ zI f 2 j = tz 2 (valW (f j)) ∧ zI f 3 j = tz 3 (valW (f j)) := by
  obtain ⟨z0, z1, z2, z3⟩ := zI_val f j
  refine ⟨?_, z1, z2, z3⟩
  rw [z0]
  show _ = (valW (f j) / 1 % 2 == 0)
  rw [Int.ediv_one]
/-- the row behind the last level is sorted by (turned, index) -/
theorem idxAt_pw (f : Nat → Int) (N : Nat) : (idxAt f lvls (List.range N)).Pairwise fun i j => turned (valW (f i)) < turned (valW (f j)) ∨ (turned (valW (f i)) = turned (valW (f j)) ∧ i < j) := by
  have h0 : (List.range N).Pairwise (· < ·) := List.pairwise_lt_range
  have h : (idxAt f lvls (List.range N)).Pairwise _ := stepIdx_pw (f := f) (l := 0) (stepIdx_pw (f := f) (l := 1) (stepIdx_pw (f := f) (l := 2) (stepIdx_pw (f := f) (l := 3) h0)))
  refine h.imp fun {i j} hr => ?_
  obtain ⟨a0, a1⟩ := valW_bound (f i)
  obtain ⟨b0, b1⟩ := valW_bound (f j)
  obtain ⟨z0, z1, z2, z3⟩ := zI_tz f i
  obtain ⟨y0, y1, y2, y3⟩ := zI_tz f j
  rw [z0, z1, z2, z3, y0, y1, y2, y3] at hr
  obtain ⟨u, eu⟩ := val16 a0 a1
  obtain ⟨v, ev⟩ := val16 b0 b1
  rw [eu, ev] at hr ⊢
  obtain ⟨t0, t1, t2, t3, t4⟩ := tr_dec u v
  rcases hr with h | ⟨h0, hr⟩
  · exact .inl (t0 h)
  rcases hr with h | ⟨h1, hr⟩
  · exact .inl (t1 ⟨h0, h⟩)
  rcases hr with h | ⟨h2, hr⟩
  · exact .inl (t2 ⟨h0, h1, h⟩)
  rcases hr with h | ⟨h3, hr⟩
  · exact .inl (t3 ⟨h0, h1, h2, h⟩)
  · exact .inr ⟨t4 ⟨h0, h1, h2, h3⟩, hr⟩
theorem Arr.pw {key : Nat → Int} {n : Nat} {p : Array Nat} (ap : Arr n p) (as : Asc key p n) : p.toList.Pairwise fun i j => key i < key j := by
  have hs := ap.size
  refine List.pairwise_iff_getElem.mpr fun i j hi hj hij => ?_
  have hj' : j < n := by rw [← hs]; simpa using hj
  have := as i j hij hj'
  unfold KK' at this
  have e1 : p.getD i 0 = p.toList[i] := by simp [Array.getD, hs, show i < n by omega]
  have e2 : p.getD j 0 = p.toList[j] := by simp [Array.getD, hs, hj']
  rwa [e1, e2] at this
end Mine
end

section
open PySem PySem.W PyProof.Rows
namespace Mine
theorem anew78 : True ∧ True := by
  walk1
  w_top off
  all_goals exact True.intro
end Mine
end

section
open PySem PySem.W PySem.Calls PyProof.Rows PyProof.Rows.LCg PyProof.Rows.LCt
set_option maxHeartbeats 1000000
namespace Mine
noncomputable abbrev fx (xs : List Int) : Nat → Int := fun j => xs.getD j 0
theorem map_range_getD (xs : List Int) : (List.range xs.length).map (fx xs) = xs := by
  refine List.ext_getElem (by simp) fun i h1 h2 => ?_
  rw [List.getElem_map, List.getElem_range]
  show xs.getD i 0 = _
  rw [List.getD_eq_getElem?_getD, List.getElem?_eq_getElem h2]; rfl
theorem rowAt_idx (xs : List Int) : rowAt xs 4 = (idxAt (fx xs) lvls (List.range xs.length)).map (fx xs) := by
  show stepRow 0 (stepRow 1 (stepRow 2 (stepRow 3 xs))) = (stepIdx _ 0 (stepIdx _ 1 (stepIdx _ 2 (stepIdx _ 3 (List.range xs.length))))).map _
  rw [← stepRow_map, ← stepRow_map, ← stepRow_map, ← stepRow_map, map_range_getD]
theorem zeros_idx (xs : List Int) : zerosAt xs 4 = zlist (fx xs) lvls (List.range xs.length) := by
  show [zplaces 3 xs xs.length, zplaces 2 (stepRow 3 xs) xs.length, zplaces 1 (stepRow 2 (stepRow 3 xs)) xs.length, zplaces 0 (stepRow 1 (stepRow 2 (stepRow 3 xs))) xs.length] =
    [zplaces 3 _ _, zplaces 2 _ _, zplaces 1 _ _, zplaces 0 _ _]
  simp only [← stepRow_map, map_range_getD, stepIdx_len, List.length_range]
theorem vals_getD {xs : List Int} {i : Nat} (h : i < xs.length) : (xs.map valW).getD i 0 = valW (fx xs i) := by
  show _ = valW (xs.getD i 0)
  rw [List.getD_eq_getElem?_getD, List.getD_eq_getElem?_getD, List.getElem?_map, List.getElem?_eq_getElem h]; rfl
theorem order_idx {xs : List Int} {p : Array Nat} (h8 : xs.length ≤ 8) (ap : Arr xs.length p) (as : Asc (keyP (ordPs (xs.map valW))) p xs.length) : idxAt (fx xs) lvls (List.range xs.length) = p.toList := by
  have pm : p.toList.Perm (List.range xs.length) := ap.perm.toList
  refine List.Perm.eq_of_pairwise (le := fun i j => turned (valW (fx xs i)) < turned (valW (fx xs j)) ∨ (turned (valW (fx xs i)) = turned (valW (fx xs j)) ∧ i < j)) (fun i j _ _ h1 h2 => by omega) (idxAt_pw _ _) ?_ ((idxAt_perm _ _ _).trans pm.symm)
  refine (ap.pw as).imp_of_mem fun {i j} hi hj h => ?_
  have hi' := ap.mem hi
  have hj' := ap.mem hj
  unfold keyP at h
  rw [ordPs_get _ (by simpa using hi'), ordPs_get _ (by simpa using hj'), vals_getD hi', vals_getD hj'] at h
  unfold codeP at h
  dsimp only at h
  omega
theorem due_msd {xs : List Int} {p : Array Nat} {a n : Nat} (h8 : xs.length ≤ 8) (han : a + n ≤ xs.length) (ap : Arr n p) (as : Asc (keyP (duePs (xs.map valW) a n)) p n) :
    msd (fx xs) lvls ((List.range n).map (a + ·)) = p.toList.map (a + ·) := by
  have pm : p.toList.Perm (List.range n) := ap.perm.toList
  have hS : ((List.range n).map (a + ·)).Pairwise (· < ·) := List.pairwise_map.mpr ((List.pairwise_lt_range (n := n)).imp fun h => by omega)
  refine List.Perm.eq_of_pairwise (le := fun i j => fk (fx xs) lvls i < fk (fx xs) lvls j ∨ (fk (fx xs) lvls i = fk (fx xs) lvls j ∧ i < j)) (fun i j _ _ h1 h2 => by omega) (msd_pw _ _ _ hS) ?_ ((msd_perm _ _ _).trans (pm.map _).symm)
  refine List.pairwise_map.mpr ((ap.pw as).imp_of_mem fun {i j} hi hj h => ?_)
  have hi' := ap.mem hi
  have hj' := ap.mem hj
  unfold keyP at h
  rw [duePs_get _ hi', duePs_get _ hj', vals_getD (by omega), vals_getD (by omega)] at h
  unfold codeP at h
  dsimp only at h
  have e1 := fk_val (fx xs) (a + i)
  have e2 := fk_val (fx xs) (a + j)
  omega
theorem figs_dec : ∀ (v : Fin 16) (a b c d : Fin 2), ((((v.val : Int) / 8 % 2 == 0) == ((a.val : Int) == 0)) && ((((v.val : Int) / 4 % 2 == 0) == ((b.val : Int) == 0)) && ((((v.val : Int) / 2 % 2 == 0) == ((c.val : Int) == 0)) && ((((v.val : Int) % 2 == 0) == ((d.val : Int) == 0)) && true)))) = ((v.val : Int) == (d.val : Int) + 2 * (c.val : Int) + 4 * (b.val : Int) + 8 * (a.val : Int)) := by decide +kernel
theorem bit2 {e : Int} (h : e = 0 ∨ e = 1) : ∃ b : Fin 2, e = ((b.val : Nat) : Int) := by
  rcases h with rfl | rfl
  · exact ⟨0, rfl⟩
  · exact ⟨1, rfl⟩
theorem figs_val {f : Nat → Int} {e0 e1 e2 e3 : Int} {j : Nat} (h : ∀ d ∈ [e0, e1, e2, e3], d = 0 ∨ d = 1) : figsAre f lvls [e0, e1, e2, e3] j = (valW (f j) == e3 + 2 * e2 + 4 * e1 + 8 * e0) := by
  obtain ⟨h0, h1⟩ := valW_bound (f j)
  obtain ⟨z0, z1, z2, z3⟩ := zI_val f j
  show ((zI f 3 j == (e0 == 0)) && ((zI f 2 j == (e1 == 0)) && ((zI f 1 j == (e2 == 0)) && ((zI f 0 j == (e3 == 0)) && true)))) = _
  rw [z0, z1, z2, z3]
  obtain ⟨u, eu⟩ := val16 h0 h1
  rw [eu]
  obtain ⟨a, rfl⟩ := bit2 (h e0 (by simp))
  obtain ⟨b, rfl⟩ := bit2 (h e1 (by simp))
  obtain ⟨c, rfl⟩ := bit2 (h e2 (by simp))
  obtain ⟨d, rfl⟩ := bit2 (h e3 (by simp))
  exact figs_dec u a b c d
theorem idxOf_nodup {l : List Int} (h : l.Nodup) {i : Nat} {x : Int} (e : l[i]? = some x) : l.idxOf x = i := by
  obtain ⟨hi, e'⟩ := List.getElem?_eq_some_iff.mp e
  have hx : x ∈ l := e' ▸ List.getElem_mem _
  have hlt : l.idxOf x < l.length := List.idxOf_lt_length_of_mem hx
  have hg := List.getElem_idxOf hlt
  have pw := List.pairwise_iff_getElem.mp h
  rcases Nat.lt_trichotomy (l.idxOf x) i with h1 | h1 | h1
  · exact absurd (hg.trans e'.symm) (pw _ _ hlt hi h1)
  · exact h1
  · exact absurd (e'.trans hg.symm) (pw _ _ hi hlt h1)
theorem plain_law {xs : List Int} {p : Array Nat} (h8 : xs.length ≤ 8) (ap : Arr xs.length p) (as : Asc (keyP (ordPs (xs.map valW))) p xs.length) : Plain (xs.map valW) ((Array.toList p).map fun i : Nat => (i : Int)) (zerosAt xs 4) := by
  intro a b kk hab hb hk q aq asq
  rw [List.length_map] at hb
  obtain ⟨n, rfl⟩ : ∃ n, b = a + n := ⟨b - a, by omega⟩
  rw [show a + n - a = n by omega] at *
  have hq := aq.lt hk
  rw [duePs_get _ hq, vals_getD (by omega)]
  generalize hj : a + q.getD kk 0 = j
  dsimp only
  have hord := order_idx h8 ap as
  have hdue := due_msd h8 hb aq asq
  have hjn : j < xs.length := by omega
  have pm : p.toList.Perm (List.range xs.length) := ap.perm.toList
  have hnd : (p.toList.map fun i : Nat => (i : Int)).Nodup := by
    refine List.pairwise_map.mpr ?_
    exact ((pm.nodup_iff).mpr List.nodup_range).imp fun h e => h (Int.ofNat.inj e)
  refine ⟨List.mem_map.mpr ⟨j, pm.mem_iff.mpr (List.mem_range.mpr hjn), rfl⟩, ?_⟩
  intro e0 e1 e2 e3 f' b' k' hA
  rw [zeros_idx] at hA
  obtain ⟨A', S', B', r1, r2, r3, r4, r5, r6, r7, r8⟩ := ask_idx (fx xs) lvls (List.range xs.length) (List.range a) ((List.range n).map (a + ·)) ((List.range (xs.length - (a + n))).map (a + n + ·)) _ _ _ _ _ _ _
    (by rw [← List.append_assoc, ← List.range_add, ← List.range_add]; congr 1; omega) (by rw [List.length_range]) (by rw [List.length_range, List.length_map, List.length_range]) (by omega) (by rw [List.length_map, List.length_range]; omega) hA
  have hS : S'[k'.toNat]? = some j := by
    rw [← r6, hdue, List.getElem?_map]
    have : (kk : Int).toNat = kk := rfl
    rw [this]
    have hs := aq.size
    have : q.toList[kk]? = some (q.getD kk 0) := by simp [Array.getD, hs, hk]
    rw [this, ← hj]; rfl
  have hjS : j ∈ S' := by
    obtain ⟨h1, h2⟩ := List.getElem?_eq_some_iff.mp hS
    exact h2 ▸ List.getElem_mem _
  have hv : valW (fx xs j) = e3 + 2 * e2 + 4 * e1 + 8 * e0 := by
    have := (List.mem_filter.mp (r7 ▸ hjS)).2
    rw [figs_val r8] at this
    exact beq_iff_eq.mp this
  refine ⟨hv.symm, ?_, ?_⟩
  · have hg : (p.toList.map fun i : Nat => (i : Int))[A'.length + k'.toNat]? = some (j : Int) := by
      rw [← hord, r1, List.getElem?_map, List.getElem?_append_right (by omega), show A'.length + k'.toNat - A'.length = k'.toNat by omega, List.getElem?_append_left (by omega), hS]; rfl
    rw [idxOf_nodup hnd hg]
    omega
  · have : b' - f' = (S'.length : Int) := by omega
    rw [this, r7, List.filter_map, List.length_map]
    congr 2
    refine List.filter_congr fun i hi => ?_
    have hi' := List.mem_range.mp hi
    show figsAre (fx xs) lvls [e0, e1, e2, e3] (a + i) = _
    rw [figs_val r8, vals_getD (by omega), hv]
theorem row_law {xs : List Int} {p : Array Nat} (h8 : xs.length ≤ 8) (ap : Arr xs.length p) (as : Asc (keyP (ordPs (xs.map valW))) p xs.length) :
    (rowAt xs 4).map wordW = ((Array.toList p).map fun i : Nat => (i : Int)).map fun o => (xs.map wordW).getD o.toNat (Str.ofString "") := by
  rw [rowAt_idx, order_idx h8 ap as, List.map_map, List.map_map]
  refine List.map_congr_left fun i hi => ?_
  have hi' := ap.mem hi
  show wordW (xs.getD i 0) = (xs.map wordW).getD i _
  rw [List.getD_eq_getElem?_getD, List.getD_eq_getElem?_getD, List.getElem?_map, List.getElem?_eq_getElem hi']; rfl
end Mine
end

section
open PySem PySem.W PyProof.Rows
namespace Mine
theorem anew79 : True ∧ True := by
  walk1
  w_top off
  all_goals exact True.intro
end Mine
end

section
open PySem PySem.W PySem.Calls PyProof PyProof.Rows PyProof.Rows.LCg
set_option maxHeartbeats 1000000
namespace Mine
/-! the text and its reading -/
theorem join_flat : ∀ l : List Str, (Txt.join (Str.ofString "") l).cps.toList = l.flatMap fun x => x.cps.toList := by
  intro l
  show (Builtin.Str.glued (Str.ofString "") l).cps.toList = _
  rw [StrLaws.glued_eq_join]
  induction l with
  | nil => decide +kernel
  | cons x l ih =>
    cases l with
    | nil => simp [Str.join]
    | cons y l =>
      show (x ++ Str.ofString "" ++ Str.join (Str.ofString "") (y :: l)).cps.toList = _
      rw [Str.cps_append, Str.cps_append, Array.toList_append, Array.toList_append, ih, show (Str.ofString "").cps.toList = [] from by decide +kernel, List.append_nil]
      rfl
noncomputable def bSign (c : Nat) : List Nat := [92, c]
noncomputable def qSign (c : Nat) : List Nat := if c = 34 ∨ c = 92 then [92, c] else [c]
theorem escB_cps (c : Nat) : (escB c).cps.toList = bSign c := by
  rw [escB, Str.cps_append, Array.toList_append, show (Str.ofString "\\").cps.toList = [92] from by decide +kernel]; rfl
theorem escQ_cps (c : Nat) : (escQ c).cps.toList = qSign c := by
  unfold escQ qSign
  split
  · exact escB_cps c
  · rfl
theorem writtenB_cps (x : Str) : (writtenB x).cps.toList = x.cps.toList.flatMap bSign := by
  unfold writtenB
  rw [join_flat, List.flatMap_map]
  exact congrArg (fun f => List.flatMap f x.cps.toList) (funext escB_cps)
theorem writtenQ_cps (x : Str) : (writtenQ x).cps.toList = 34 :: (x.cps.toList.flatMap qSign ++ [34]) := by
  unfold writtenQ
  rw [Str.cps_append, Str.cps_append, Array.toList_append, Array.toList_append, join_flat, List.flatMap_map, show (Str.ofString "\"").cps.toList = [34] from by decide +kernel]
  have : (fun c => (escQ c).cps.toList) = qSign := funext escQ_cps
  rw [this]; rfl
theorem app_one (t : Str) (c : Nat) (cs : List Nat) : (t ++ one c) ++ (⟨cs.toArray⟩ : Str) = t ++ ⟨(c :: cs).toArray⟩ := by
  show Str.mk _ = Str.mk _
  congr 1
  apply Array.ext'
  rw [Str.cps_append, Array.toList_append, Array.toList_append, Array.toList_append, List.append_assoc]; rfl
theorem app_nil (t : Str) : t ++ (⟨([] : List Nat).toArray⟩ : Str) = t := by
  show Str.mk _ = _
  simp
theorem q_run : ∀ (cs : List Nat) (t : Str) (rest : List Nat), QRun (cs.flatMap qSign ++ 34 :: rest) t (t ++ ⟨cs.toArray⟩) rest
  | [], t, rest => by rw [app_nil]; exact .fin rest t
  | c :: cs, t, rest => by
    have ih := q_run cs (t ++ one c) rest
    rw [app_one] at ih
    rw [List.flatMap_cons, List.append_assoc]
    unfold qSign
    by_cases h : c = 34 ∨ c = 92
    · rw [if_pos h]; exact .esc c ih
    · rw [if_neg h]; exact .chr c (fun e => h (.inl e)) (fun e => h (.inr e)) ih
theorem b_run : ∀ (cs : List Nat) (t : Str) (d : Nat) (rest : List Nat), isWs d = true → BRun (cs.flatMap bSign ++ d :: rest) t (t ++ ⟨cs.toArray⟩) rest
  | [], t, d, rest, h => by rw [app_nil]; exact .fin d rest t h
  | c :: cs, t, d, rest, h => by
    have ih := b_run cs (t ++ one c) d rest h
    rw [app_one] at ih
    exact .esc c ih
theorem sep_ws (f : Int) : isWs (sepCp f) = true := by unfold sepCp; split <;> rfl
theorem emp_app (x : Str) : Str.ofString "" ++ x = x := by
  show Str.mk _ = _
  have : (Str.ofString "").cps = #[] := by decide +kernel
  rw [this]; simp
theorem wr_run (x : Str) (b : Int) (d : Nat) (rest : List Nat) (hd : isWs d = true) : ∃ pre, (pre = [] ∨ pre = [d]) ∧ TRun ((wr x b).cps.toList ++ d :: rest) x (pre ++ rest) := by
  unfold wr
  split
  · rename_i h
    refine ⟨[], .inl rfl, ?_⟩
    rw [writtenB_cps]
    cases hx : x.cps.toList with
    | nil => exact absurd (by rw [← Array.length_toList, hx]; rfl) h.2
    | cons c cs =>
      have := b_run cs (Str.ofString "" ++ one c) d rest hd
      rw [app_one, emp_app (⟨(c :: cs).toArray⟩ : Str)] at this
      have e : (⟨(c :: cs).toArray⟩ : Str) = x := by rw [← hx]
      rw [e] at this
      exact .esc c this
  · refine ⟨[d], .inr rfl, ?_⟩
    rw [writtenQ_cps]
    have := q_run x.cps.toList (Str.ofString "") (d :: rest)
    rw [emp_app] at this
    rw [List.cons_append, List.append_assoc]
    exact .quote this
theorem chunk_cps (x : Int) (rest : List Nat) : (chunkW x).cps.toList ++ rest = (wr (wordW x) (x / 48 % 2)).cps.toList ++ sepCp (x / 96 % 2) :: rest := by
  unfold chunkW
  rw [Str.cps_append, Array.toList_append, List.append_assoc]; rfl
theorem runs_text : ∀ (xs : List Int) (pre : List Nat), (pre = [] ∨ ∃ c, isWs c = true ∧ pre = [c]) → ∃ fin, (fin = [122] ∨ ∃ c, isWs c = true ∧ fin = [c, 122]) ∧ Runs (pre ++ ((xs.flatMap fun x => (chunkW x).cps.toList) ++ [122])) (xs.map wordW) fin
  | [], pre, h => by
    refine ⟨pre ++ [122], ?_, .nil _⟩
    rcases h with rfl | ⟨c, hc, rfl⟩
    · exact .inl rfl
    · exact .inr ⟨c, hc, rfl⟩
  | x :: xs, pre, h => by
    obtain ⟨pre', hp, hT⟩ := wr_run (wordW x) (x / 48 % 2) (sepCp (x / 96 % 2)) ((xs.flatMap fun x => (chunkW x).cps.toList) ++ [122]) (sep_ws _)
    obtain ⟨fin, hf, hR⟩ := runs_text xs pre' (by
      rcases hp with rfl | rfl
      · exact .inl rfl
      · exact .inr ⟨_, sep_ws _, rfl⟩)
    refine ⟨fin, hf, .cons ?_ hR⟩
    rw [List.flatMap_cons, List.append_assoc, chunk_cps]
    rcases h with rfl | ⟨c, hc, rfl⟩
    · exact hT
    · exact .skip c hc hT
theorem text_cps (xs : List Int) : (textOf xs).cps.toList = xs.flatMap fun x => (chunkW x).cps.toList := by
  have h : ∀ (xs : List Int) (a : Str), (xs.foldl (fun a x => a ++ chunkW x) a).cps.toList = a.cps.toList ++ xs.flatMap fun x => (chunkW x).cps.toList := by
    intro xs
    induction xs with
    | nil => intro a; simp
    | cons x xs ih => intro a; rw [List.foldl_cons, ih, Str.cps_append, Array.toList_append, List.append_assoc]; rfl
  have := h xs (Str.ofString "")
  rwa [show (Str.ofString "").cps.toList = [] from by decide +kernel, List.nil_append] at this
theorem textz_cps (xs : List Int) : (textOf xs ++ Str.ofString "z").cps.toList = (xs.flatMap fun x => (chunkW x).cps.toList) ++ [122] := by
  rw [Str.cps_append, Array.toList_append, text_cps]; rfl
theorem text_runs (xs : List Int) : ∃ fin, (fin = [122] ∨ ∃ c, isWs c = true ∧ fin = [c, 122]) ∧ Runs (textOf xs ++ Str.ofString "z").cps.toList (xs.map wordW) fin := by
  rw [textz_cps]
  exact runs_text xs [] (.inl rfl)
theorem textz_len {xs : List Int} (h8 : xs.length ≤ 8) : (textOf xs ++ Str.ofString "z").cps.toList.length < 900 := by
  have := textOf_len xs
  have e : (textOf xs ++ Str.ofString "z").cps.toList.length = (textOf xs ++ Str.ofString "z").length := by simp [Str.length]
  rw [e, Str.length_append, show (Str.ofString "z").length = 1 from by decide +kernel]
  omega
theorem all_list {x : Str} (h : ∀ c ∈ x.cps.toList, c < 128) : x.cps.all (· < 128) = true := by
  rw [← Array.all_toList, List.all_eq_true]
  exact fun c hc => decide_eq_true (h c hc)
theorem list_all {x : Str} (h : x.cps.all (· < 128) = true) : ∀ c ∈ x.cps.toList, c < 128 := by
  rw [← Array.all_toList, List.all_eq_true] at h
  exact fun c hc => of_decide_eq_true (h c hc)
theorem chunk_ascii (x : Int) : ∀ c ∈ (chunkW x).cps.toList, c < 128 := by
  intro c hc
  have h := chunk_cps x []
  rw [List.append_nil] at h
  rw [h] at hc
  have hw := list_all (wordW_ascii x)
  have sp : sepCp (x / 96 % 2) < 128 := by unfold sepCp; split <;> decide
  rcases List.mem_append.mp hc with hc | hc
  · unfold wr at hc
    split at hc
    · rw [writtenB_cps] at hc
      obtain ⟨d, hd, hc⟩ := List.mem_flatMap.mp hc
      have := hw d hd
      simp only [bSign, List.mem_cons, List.not_mem_nil, or_false] at hc
      omega
    · rw [writtenQ_cps] at hc
      rcases List.mem_cons.mp hc with rfl | hc
      · decide
      rcases List.mem_append.mp hc with hc | hc
      · obtain ⟨d, hd, hc⟩ := List.mem_flatMap.mp hc
        have := hw d hd
        unfold qSign at hc
        split at hc <;> simp only [List.mem_cons, List.not_mem_nil, or_false] at hc <;> omega
      · rw [List.mem_singleton.mp hc]; decide
  · rw [List.mem_singleton.mp hc]; exact sp
theorem text_ascii (xs : List Int) : (textOf xs).cps.all (· < 128) = true := all_list fun c hc => by
  rw [text_cps] at hc
  obtain ⟨x, _, hc⟩ := List.mem_flatMap.mp hc
  exact chunk_ascii x c hc
theorem nl_cnt : ∀ l : List Nat, cnt 10 l = nl l
  | [] => rfl
  | c :: l => by
    rw [cnt_cons, nl_cnt l]
    unfold nl
    rw [List.count_cons]
    by_cases h : c = 10
    · subst h; simp; omega
    · simp [h]
theorem count_nl (x : Str) : Txt.count x (Str.ofString "\n") = nl x.cps.toList := by
  rw [show Str.ofString "\n" = ⟨#[10]⟩ from by decide +kernel, count_cnt, nl_cnt]
theorem word_ok (x : Int) : PyData.strOk (wordW x) = true := by
  have h := list_all (wordW_ascii x)
  unfold PyData.strOk
  rw [← Array.all_toList, List.all_eq_true]
  exact fun c hc => decide_eq_true (by have := h c hc; omega)
end Mine
end

section
open PySem PySem.W PyProof.Rows
namespace Mine
theorem anew80 : True ∧ True := by
  walk1
  w_top off
  all_goals exact True.intro
end Mine
end

section
open PySem PySem.W PySem.Calls PyProof.Rows PyProof.Rows.LCg PyProof.Rows.LCt
set_option maxRecDepth 100000
set_option maxHeartbeats 1000000
namespace Mine
/-! the 24 contracts, one behind the other -/
theorem off_nil {S : List Addr} : ∀ p ∈ ([] : List (Addr × Obj)), p.1 ∉ S := fun _ h => nomatch h
theorem kg {S : List Str} {m m' : Str → Option Value} (k : Keep S m m') {y : Str} {v : Value} (h : m y = some v) (hy : y ∉ S) : m' y = some v := (k y hy).trans h
theorem ne_at {h : Heap} {q q' : Addr} {o o' : Obj} (h1 : h.get? q = some o) (h2 : h.get? q' = some o') (h3 : o.data ≠ o'.data) : q ≠ q' := fun e => by
  rw [e, h2] at h1; exact h3 (congrArg Obj.data (Option.some.inj h1)).symm
theorem Fresh.le {g : Heap} {L : Addr} {h : Heap} {D D' : Addr} (x : Fresh g L h D) (l : @LE.le Nat _ D D') : Fresh g L h D' := fun a o h1 h2 h3 => Nat.lt_of_lt_of_le (x a o h1 h2 h3) l

theorem seg1 {w : World} {g : Heap} {L fa sl : Addr} {cd : Value} {s : Shared} {m : Str → Option Value} {Q : Flow → Shared → Prop} {oD oR oV oW oL : Obj} {vs : List Value} {ns : List Int}
    (bas : Bas w g) (hL : @LT.lt Nat _ 81 L) (F : Fr g L s.heap m) (hm : m (Str.ofString "script") = some (.ref sl)) (hl : g.IsList sl vs.toArray) (hi : IntsAre vs ns) (hlen : ns.length ≤ 63)
    (N : News g L s.heap [(L+1+1+1+1+1, oD), (L+1+1+1+1, oR), (L+1+1+1, oV), (L+1+1, oW), (L+1, oL), (81, tabObj #[]), (32, tabObj #[]), (25, tabObj #[])])
    (dD : oD.data = .cell none) (dR : oR.data = .cell none) (dV : oV.data = .cell none) (dW : oW.data = .cell none) (dL : oL.data = .cell none)
    (k : ∀ h tk m (r : Rd) u1 sl n c0 oc0 vs0 tq0 oR oV oW oL wa va vl wl nv nw tt tx tl, Fr g L h m → r.Ok → r.qn = strQual → News g L h (lexNews r 1 u1 sl n [] 0) →
      News g L h [(va, listOf (List.toArray vl) nv), (wa, listOf (List.toArray wl) nw), (L+1+1+1+1+1, oD), (L+1+1+1+1, oR), (L+1+1+1, oV), (L+1+1, oW), (L+1, oL), (81, tab81 c0 r.c), (32, tabObj #[]), (25, tabObj #[]), (c0, oc0)] →
      oR.data = .cell (some (.ref r.x)) → oV.data = .cell (some (.ref va)) → oW.data = .cell (some (.ref wa)) → oL.data = .cell (some (.str (Str.ofString "a\"\\\n") tl)) → oc0.data = .fields vs0 → vs0[1]? = some (.str strQual tq0) → @LT.lt Nat _ c0 r.st →
      @LT.lt Nat _ (L+1+1+1+1+1) wa → @LT.lt Nat _ wa va → @LT.lt Nat _ va r.cs → @LT.lt Nat _ va c0 → @LT.lt Nat _ r.sg c0 → c0 ≠ r.cs → @Ne Nat va r.sg → @Ne Nat wa r.sg → @Ne Nat (L+1+1+1+1+1) r.sg → @Ne Nat (L+1+1+1+1) r.sg → @Ne Nat (L+1+1+1) r.sg → @Ne Nat (L+1+1) r.sg → @Ne Nat (L+1) r.sg → @Ne Nat 81 r.sg → @Ne Nat 32 r.sg → @Ne Nat 25 r.sg →
      IntsAre vl (([29, 96, 59, 154] ++ ns.take 4).map valW) → StrsAre wl (([29, 96, 59, 154] ++ ns.take 4).map wordW) → SignsAre sl (textOf ([29, 96, 59, 154] ++ ns.take 4) ++ Str.ofString "z").cps.toList →
      m (Str.ofString "total") = some (.int ns.sum tt) → m (Str.ofString "text") = some (.str (textOf ([29, 96, 59, 154] ++ ns.take 4) ++ Str.ofString "z") tx) → m (Str.ofString "signs") = some (.ref r.sg) →
      wpAny (model PP w) (LA.deeper (lawEnv L fa cd)) (execs (lawRest 10) (lawEnv L fa cd)) Q (fun _ _ => False) { s with heap := h, toks := tk }) :
    wpAny (model PP w) (LA.deeper (lawEnv L fa cd)) (execs (lawRest 0) (lawEnv L fa cd)) Q (fun _ _ => False) s := by
  refine ph0 bas hL F hm hl hi hlen N dD dR dV dW dL fun h1 tk1 m1 wa va oV1 oW1 oL1 tl tt tx F1 N1 dV1 dW1 dL1 o1 o2 hm1 hmt hmx => ?_
  refine step 5 (by decide) (ph5 bas F1 hm1 hmx hl hi hlen (news_sub N1 (by walk_at "Sub9")) dV1 dW1 dL1 (ltN (by omega)) o2 fun h2 tk2 m2 tx2 vl wl nv nw F2 a2 k2 hx2 N2 hvl hwl => ?_)
  dsimp only [Behind]
  have hxl : (([29, 96, 59, 154] ++ ns.take 4 : List Int)).length ≤ 8 := by simp; omega
  generalize ([29, 96, 59, 154] ++ ns.take 4 : List Int) = xs at hx2 hvl hwl hxl k
  have R2 : News g L h2 [(L+1+1+1+1+1, oD), (L+1+1+1+1, oR), (L+1+1+1, oV1), (L+1+1, oW1), (L+1, oL1), (81, tabObj #[]), (32, tabObj #[]), (25, tabObj #[])] :=
    after_news (news_sub N1 (by walk_at "Sub9")) a2 (off_cons (nin_cons (neN (by omega)) (nin_cons (neN (by omega)) (not_mem1 (neN (by omega))))) <| off_cons (nin_cons (neN (by omega)) (nin_cons (neN (by omega)) (not_mem1 (neN (by omega))))) <|
      off_cons (nin_cons (neN (by omega)) (nin_cons (neN (by omega)) (not_mem1 (neN (by omega))))) <| off_cons (nin_cons (neN (by omega)) (nin_cons (neN (by omega)) (not_mem1 (neN (by omega))))) <| off_cons (nin_cons (neN (by omega)) (nin_cons (neN (by omega)) (not_mem1 (neN (by omega))))) <|
      off_cons (nin_cons (neN (by omega)) (nin_cons (neN (by omega)) (not_mem1 (neN (by omega))))) <| off_cons (nin_cons (neN (by omega)) (nin_cons (neN (by omega)) (not_mem1 (neN (by omega))))) <| off_cons (nin_cons (neN (by omega)) (nin_cons (neN (by omega)) (not_mem1 (neN (by omega))))) off_nil)
  have N2' := news_app N2 R2
  clear N2 R2 N1
  simp only [List.cons_append, List.nil_append] at N2'
  refine ph8 bas F2 hx2 (by have := textOf_len xs; omega) (text_ascii xs) fun h3 tk3 m3 tx3 sg sl3 n3 F3 a3 new3 k3 hx3 hs3 N3 hsl => ?_
  have nsg := news_ne N2' new3
  have N3' := after_L N2' a3
  refine step 9 (by decide) (ph9 bas hL F3 hs3 (news_app N3 (b := [(81, tabObj #[]), (L+1+1+1+1, oR)]) (news_sub N3' (by walk_at "Sub9"))) dR (nsg (L+1+1+1+1, oR) (by k_mem)).symm (nsg (81, tabObj #[]) (by k_mem)).symm
    fun h4 tk4 r u1 c0 oc0 vs0 tq0 oR4 F4 a4 ok rsg rqn N4 M4 dR4 dc0 vc0 oc0lt frcs frc0 => ?_)
  dsimp only [Behind]
  subst rsg
  have R4 : News g L h4 [(va, listOf (List.toArray vl) nv), (wa, listOf (List.toArray wl) nw), (L+1+1+1+1+1, oD), (L+1+1+1, oV1), (L+1+1, oW1), (L+1, oL1), (32, tabObj #[]), (25, tabObj #[])] :=
    after_news (news_sub N3' (by walk_at "Sub9")) a4 (off_cons (nin_cons (neN (by omega)) (nin_cons (neN (by omega)) (not_mem1 (neN (by omega))))) <| off_cons (nin_cons (neN (by omega)) (nin_cons (neN (by omega)) (not_mem1 (neN (by omega))))) <|
      off_cons (nin_cons (neN (by omega)) (nin_cons (neN (by omega)) (not_mem1 (neN (by omega))))) <| off_cons (nin_cons (neN (by omega)) (nin_cons (neN (by omega)) (not_mem1 (neN (by omega))))) <| off_cons (nin_cons (neN (by omega)) (nin_cons (neN (by omega)) (not_mem1 (neN (by omega))))) <|
      off_cons (nin_cons (neN (by omega)) (nin_cons (neN (by omega)) (not_mem1 (neN (by omega))))) <| off_cons (nin_cons (neN (by omega)) (nin_cons (neN (by omega)) (not_mem1 (neN (by omega))))) <| off_cons (nin_cons (neN (by omega)) (nin_cons (neN (by omega)) (not_mem1 (neN (by omega))))) off_nil)
  have N4' := news_app R4 M4
  simp only [List.cons_append, List.nil_append] at N4'
  have lva := frcs.news N3' (va, _) (.head _)
  have lv0 := frc0.news N3' (va, _) (.head _)
  have lsg := frc0.news N3 (r.sg, _) (.head _)
  have necs : c0 ≠ r.cs := ne_at (News.get M4 (.head _)) (News.get N4 (a := r.cs) (o := r.ocs) (by k_mem)) (by rw [dc0, ok.d3]; intro e; cases e)
  refine k h4 tk4 m3 r u1 sl3 n3 c0 oc0 vs0 tq0 oR4 oV1 oW1 oL1 wa va vl wl nv nw tt tx3 tl F4 ok rqn N4 (news_sub N4' (by walk_at "Sub9")) dR4 dV1 dW1 dL1 dc0 vc0 oc0lt o1 o2 lva lv0 lsg necs
    (nsg (va, _) (.head _)) (nsg (wa, _) (.tail _ (.head _))) (nsg (L+1+1+1+1+1, oD) (by k_mem)) (nsg (L+1+1+1+1, oR) (by k_mem)) (nsg (L+1+1+1, oV1) (by k_mem)) (nsg (L+1+1, oW1) (by k_mem)) (nsg (L+1, oL1) (by k_mem)) (nsg (81, tabObj #[]) (by k_mem)) (nsg (32, tabObj #[]) (by k_mem)) (nsg (25, tabObj #[]) (by k_mem))
    hvl hwl hsl (kg k3 (kg k2 hmt (by decide)) (by decide)) hx3 hs3
end Mine
end

section
open PySem PySem.W PyProof.Rows
namespace Mine
theorem anew81 : True ∧ True := by
  walk1
  w_top off
  all_goals exact True.intro
end Mine
end

section
open PySem PySem.W PySem.Calls PyProof.Rows PyProof.Rows.LCg PyProof.Rows.LCt
set_option maxRecDepth 100000
set_option maxHeartbeats 1000000
namespace Mine
/-- what holds of the objects that stand through the whole call -/
structure Base (L wa va c0 : Addr) (r : Rd) (xs : List Int) (vl wl : List Value) (oD oR oV oW oL oc0 : Obj) (vs0 : Array Value) (tq0 tl : Tok) : Prop where
  hL : @LT.lt Nat _ 81 L
  o1 : @LT.lt Nat _ (L+1+1+1+1+1) wa
  o2 : @LT.lt Nat _ wa va
  o3 : @LT.lt Nat _ va r.cs
  o4 : @LT.lt Nat _ va c0
  o5 : @LT.lt Nat _ r.sg c0
  o6 : @Ne Nat c0 r.cs
  o7 : @LT.lt Nat _ c0 r.st
  nsg : @Ne Nat va r.sg ∧ @Ne Nat wa r.sg ∧ @Ne Nat (L+1+1+1+1+1) r.sg ∧ @Ne Nat (L+1+1+1+1) r.sg ∧ @Ne Nat (L+1+1+1) r.sg ∧ @Ne Nat (L+1+1) r.sg ∧ @Ne Nat (L+1) r.sg ∧ @Ne Nat 81 r.sg ∧ @Ne Nat 32 r.sg ∧ @Ne Nat 25 r.sg
  ok : r.Ok
  qn : r.qn = strQual
  dD : oD.data = .cell none
  dR : oR.data = .cell (some (.ref r.x))
  dV : oV.data = .cell (some (.ref va))
  dW : oW.data = .cell (some (.ref wa))
  dL : oL.data = .cell (some (.str (Str.ofString "a\"\\\n") tl))
  dc0 : oc0.data = .fields vs0
  vc0 : vs0[1]? = some (.str strQual tq0)
  hvl : IntsAre vl (xs.map valW)
  hwl : StrsAre wl (xs.map wordW)
  x8 : xs.length ≤ 8
  x0 : ∃ xr, xs = 29 :: xr
noncomputable abbrev stdA (L wa va c0 : Addr) : List Addr := [va, wa, L+1+1+1+1+1, L+1+1+1+1, L+1+1+1, L+1+1, L+1, 81, 32, 25, c0]
noncomputable abbrev stdN (L wa va c0 c : Addr) (vl wl : List Value) (nv nw : Nat) (oD oR oV oW oL oc0 o32 o25 : Obj) : List (Addr × Obj) :=
  [(va, listOf (List.toArray vl) nv), (wa, listOf (List.toArray wl) nw), (L+1+1+1+1+1, oD), (L+1+1+1+1, oR), (L+1+1+1, oV), (L+1+1, oW), (L+1, oL), (81, tab81 c0 c), (32, o32), (25, o25), (c0, oc0)]
section
variable {L wa va c0 : Addr} {r : Rd} {xs : List Int} {vl wl : List Value} {oD oR oV oW oL oc0 o32 o25 : Obj} {vs0 : Array Value} {tq0 tl : Tok} {g h h' : Heap} {c : Addr} {nv nw : Nat} {S : List Addr}
theorem Base.off (b : Base L wa va c0 r xs vl wl oD oR oV oW oL oc0 vs0 tq0 tl) : ∀ a ∈ stdA L wa va c0, a ∉ r.adr := by
  obtain ⟨hL, o1, o2, o3, o4, o5, o6, o7, ⟨s1, s2, s3, s4, s5, s6, s7, s8, s9, s10⟩, ok, _⟩ := b
  have w3 : @LT.lt Nat _ wa r.cs := Nat.lt_trans o2 o3
  have d3 : @LT.lt Nat _ (L+1+1+1+1+1) r.cs := Nat.lt_trans o1 w3
  have l3 : @LT.lt Nat _ L r.cs := Nat.lt_of_le_of_lt (Nat.le_add_right L 5) d3
  have t3 : @LT.lt Nat _ 81 r.cs := Nat.lt_trans hL l3
  intro a ha
  rcases List.mem_cons.mp ha with rfl | ha
  · exact adr_ne2 ok s1 o3
  rcases List.mem_cons.mp ha with rfl | ha
  · exact adr_ne2 ok s2 w3
  rcases List.mem_cons.mp ha with rfl | ha
  · exact adr_ne2 ok s3 d3
  rcases List.mem_cons.mp ha with rfl | ha
  · exact adr_ne2 ok s4 (Nat.lt_of_succ_lt d3)
  rcases List.mem_cons.mp ha with rfl | ha
  · exact adr_ne2 ok s5 (Nat.lt_of_succ_lt (Nat.lt_of_succ_lt d3))
  rcases List.mem_cons.mp ha with rfl | ha
  · exact adr_ne2 ok s6 (Nat.lt_of_succ_lt (Nat.lt_of_succ_lt (Nat.lt_of_succ_lt d3)))
  rcases List.mem_cons.mp ha with rfl | ha
  · exact adr_ne2 ok s7 (Nat.lt_of_succ_lt (Nat.lt_of_succ_lt (Nat.lt_of_succ_lt (Nat.lt_of_succ_lt d3))))
  rcases List.mem_cons.mp ha with rfl | ha
  · exact adr_ne2 ok s8 t3
  rcases List.mem_cons.mp ha with rfl | ha
  · exact adr_ne2 ok s9 (Nat.lt_trans (by decide) t3)
  rcases List.mem_cons.mp ha with rfl | ha
  · exact adr_ne2 ok s10 (Nat.lt_trans (by decide) t3)
  rcases List.mem_cons.mp ha with rfl | ha
  · obtain ⟨p1, p2, p3, p4, p5, p6, p7, p8, d1, d2, d3⟩ := ok
    have e3 := Nat.lt_trans o7 p3
    have e4 := Nat.lt_trans e3 p4
    have e5 := Nat.lt_trans e4 p5
    have e6 := Nat.lt_trans e5 p6
    have e7 := Nat.lt_trans e6 p7
    have e8 := Nat.lt_trans e7 p8
    exact nin_cons (Nat.ne_of_lt e7) (nin_cons (Nat.ne_of_lt e6) (nin_cons (Nat.ne_of_lt o7) (nin_cons (Nat.ne_of_lt e5) (nin_cons (Nat.ne_of_lt e4) (nin_cons (Nat.ne_of_lt e3) (nin_cons o6 (nin_cons (Nat.ne_of_gt o5) (not_mem1 (Nat.ne_of_lt e8)))))))))
  · cases ha
theorem std_off (hS : ∀ a ∈ stdA L wa va c0, a ∉ S) : ∀ p ∈ stdN L wa va c0 c vl wl nv nw oD oR oV oW oL oc0 o32 o25, p.1 ∉ S := fun p hp => hS p.1 (List.mem_map_of_mem (f := (·.1)) hp)
theorem std_carry (M : News g L h (stdN L wa va c0 c vl wl nv nw oD oR oV oW oL oc0 o32 o25)) (a : Agree S h h') (hS : ∀ a ∈ stdA L wa va c0, a ∉ S) : News g L h' (stdN L wa va c0 c vl wl nv nw oD oR oV oW oL oc0 o32 o25) := after_news M a (std_off hS)
theorem std_live {a : Addr} (ha : a ∈ stdA L wa va c0) : ∃ o, (a, o) ∈ stdN L wa va c0 c vl wl nv nw oD oR oV oW oL oc0 o32 o25 := by
  obtain ⟨p, hp, e⟩ := List.mem_map.mp (show a ∈ (stdN L wa va c0 c vl wl nv nw oD oR oV oW oL oc0 o32 o25).map (·.1) from ha)
  exact ⟨p.2, by rw [← e]; exact hp⟩
end

theorem seg2 {w : World} {g : Heap} {L fa wa va c0 : Addr} {cd : Value} {s : Shared} {m : Str → Option Value} {Q : Flow → Shared → Prop} {r : Rd} {xs : List Int} {vl wl sl : List Value} {oD oR oV oW oL oc0 : Obj} {vs0 : Array Value} {tq0 tl u1 : Tok} {nv nw n : Nat} {full fin : List Nat}
    (bas : Bas w g) (b : Base L wa va c0 r xs vl wl oD oR oV oW oL oc0 vs0 tq0 tl) (F : Fr g L s.heap m) (N : News g L s.heap (lexNews r 1 u1 sl n [] 0)) (M : News g L s.heap (stdN L wa va c0 r.c vl wl nv nw oD oR oV oW oL oc0 (tabObj #[]) (tabObj #[])))
    (hsl : SignsAre sl full) (hruns : Runs full (xs.map wordW) fin) (hfl : full.length < 900) (hfin : fin.length ≤ 2) (hms : m (Str.ofString "signs") = some (.ref r.sg))
    (k : ∀ h tk m' D ys ln u1 sl n bd ob t, Fr g L h m' → News g L h (lexNews r ln u1 sl n [] 0) → News g L h (stdN L wa va c0 r.c vl wl nv nw oD oR oV oW oL oc0 (tabObj #[]) (tabObj #[])) → News g L h [(D, lst ys)] → News g L h [(bd, ob)] →
      StrsAre ys (xs.map wordW) → SignsAre sl fin → ln + nl fin = 1 + nl full → Keep [Str.ofString "told", Str.ofString "unread", Str.ofString "bits"] m m' → m' (Str.ofString "told") = some (.ref D) → m' (Str.ofString "unread") = some (.int (sl.length : Nat) t) → m' (Str.ofString "bits") = some (.ref bd) →
      ob.IsDictOf (strKind PP w) [] → (bd == sysModules) = false → D ∉ r.adr → (∀ a ∈ stdA L wa va c0, a ≠ D) → @LT.lt Nat _ D bd → (∀ a ∈ stdA L wa va c0, @LT.lt Nat _ a bd) → bd ∉ r.adr →
      wpAny (model PP w) (LA.deeper (lawEnv L fa cd)) (execs (lawRest 14) (lawEnv L fa cd)) Q (fun _ _ => False) { s with heap := h, toks := tk }) :
    wpAny (model PP w) (LA.deeper (lawEnv L fa cd)) (execs (lawRest 10) (lawEnv L fa cd)) Q (fun _ _ => False) s := by
  have hoff := b.off
  obtain ⟨s1, s2, s3, s4, s5, s6, s7, s8, s9, s10⟩ := b.nsg
  have o1 := b.o1
  have o2 := b.o2
  have o3 := b.o3
  have p1 := b.ok.o1
  have x8 := b.x8
  refine step 10 (by decide) (ph10 bas F b.ok N (news_sub M (by walk_at "Sub9")) b.dR b.dW (ltN (by omega)) (ltN (by omega)) ⟨s2, s4, s6⟩ b.hwl (by simpa using x8) hsl hruns hfl
    fun h1 tk1 m1 D ys ln u1 sl1 n1 F1 a1 new1 k1 hd1 N1 ND1 hys hsl1 hln => ?_)
  dsimp only [Behind]
  have M1 : News g L h1 _ := std_carry M a1 fun a ha => nin_cons (M _ (std_live ha).choose_spec).2.1 (hoff a ha)
  have nD : D ∉ r.adr := not_adr N new1
  have nD2 : ∀ a ∈ stdA L wa va c0, a ≠ D := fun a ha => news_ne M new1 _ (std_live ha).choose_spec
  have hslen := hsl1.length
  refine ph11 bas F1 hd1 (kg k1 hms (by decide)) (news_app (a := [(D, lst ys)]) (b := [(r.sg, listOf sl1.toArray n1), (wa, listOf (List.toArray wl) nw), (L+1+1, oW)]) ND1 (news_app (a := [(r.sg, listOf sl1.toArray n1)]) (b := [(wa, listOf (List.toArray wl) nw), (L+1+1, oW)]) (news_sub N1 (by walk_at "Sub9")) (news_sub M1 (by walk_at "Sub9"))))
    b.dW b.hwl hys (fun x hx => by obtain ⟨y, _, rfl⟩ := List.mem_map.mp hx; exact word_ok y) (by omega) fun h2 tk2 m2 t bd ob F2 a2 k2 hu2 hb2 NB2 fr hdict hsys => ?_
  refine k h2 tk2 m2 D ys ln u1 sl1 n1 bd ob t F2 (after_L N1 a2) (after_L M1 a2) (after_L ND1 a2) NB2 hys hsl1 hln ((k1.mono fun y hy => List.mem_append_left [Str.ofString "unread", Str.ofString "bits"] hy).trans (k2.mono fun y hy => List.mem_append_right [Str.ofString "told"] hy)) (kg k2 hd1 (by decide)) hu2 hb2 hdict hsys nD nD2
    (fr.news ND1 _ (.head _)) (fun a ha => fr.news M1 _ (std_live ha).choose_spec) (fun hm => ?_)
  obtain ⟨o, ho⟩ := lex_live (ln := ln) (u1 := u1) (sl := sl1) (pl := []) (n := n1) (pn := 0) hm
  exact absurd (fr.news N1 _ ho) (Nat.lt_irrefl _)
end Mine
end

section
open PySem PySem.W PyProof.Rows
namespace Mine
theorem anew82 : True ∧ True := by
  walk1
  w_top off
  all_goals exact True.intro
end Mine
end

section
open PySem PySem.W PySem.Calls PyProof.Rows PyProof.Rows.LCg PyProof.Rows.LCt
set_option maxRecDepth 100000
set_option maxHeartbeats 1000000
namespace Mine
theorem seg3 {w : World} {g : Heap} {L fa wa va c0 bd D : Addr} {cd : Value} {s : Shared} {m : Str → Option Value} {Q : Flow → Shared → Prop} {r : Rd} {xs : List Int} {vl wl sl ys : List Value} {oD oR oV oW oL oc0 ob : Obj} {vs0 : Array Value} {tq0 tl u1 : Tok} {nv nw n : Nat} {ln : Int}
    (bas : Bas w g) (b : Base L wa va c0 r xs vl wl oD oR oV oW oL oc0 vs0 tq0 tl) (F : Fr g L s.heap m) (N : News g L s.heap (lexNews r ln u1 sl n [] 0)) (M : News g L s.heap (stdN L wa va c0 r.c vl wl nv nw oD oR oV oW oL oc0 (tabObj #[]) (tabObj #[])))
    (ND : News g L s.heap [(D, lst ys)]) (NB : News g L s.heap [(bd, ob)]) (hys : StrsAre ys (xs.map wordW)) (hmt : m (Str.ofString "told") = some (.ref D)) (hmb : m (Str.ofString "bits") = some (.ref bd)) (hdict : ob.IsDictOf (strKind PP w) [])
    (nD : D ∉ r.adr) (nD2 : ∀ a ∈ stdA L wa va c0, a ≠ D) (lD : @LT.lt Nat _ D bd) (lb : ∀ a ∈ stdA L wa va c0, @LT.lt Nat _ a bd) (nb : bd ∉ r.adr)
    (k : ∀ h tk m' (q : Sd) lv ob kvs pl pn cc c2 oc vs tq, Fr g L h m' → News g L h (lexNews r ln u1 sl n pl pn) → StrsAre pl (xs.map wordW) → News g L h (stdN L wa va c0 r.c vl wl nv nw oD oR oV oW oL oc0 (tab32 cc) (tab25 c2)) →
      News g L h [(cc, oc)] → oc.data = .fields vs → vs[1]? = some (.str d2iQual tq) → @LT.lt Nat _ (L+1+1+1+1+1) cc → News g L h [(bd, ob)] → ob.IsDictOf (strKind PP w) kvs → News g L h (sidNews q [] 0) → News g L h [(lv, listOf #[] 0)] → q.Ok →
      (∀ x ∈ xs, BitsAt g L (lv :: (q.adr ++ r.adr)) h kvs (wordW x)) → Keep [Str.ofString "word", Str.ofString "figures", Str.ofString "siding", Str.ofString "levels"] m m' → m' (Str.ofString "siding") = some (.ref q.x) → m' (Str.ofString "levels") = some (.ref lv) →
      (∀ a ∈ stdA L wa va c0, a ∉ lv :: (q.adr ++ r.adr)) → cc ∉ lv :: (q.adr ++ r.adr) → bd ∉ lv :: (q.adr ++ r.adr) → (∀ a ∈ q.adr, a ∉ r.adr) → lv ∉ q.adr ++ r.adr → @LT.lt Nat _ (L+1+1+1+1+1) lv →
      wpAny (model PP w) (LA.deeper (lawEnv L fa cd)) (execs (lawRest 17) (lawEnv L fa cd)) Q (fun _ _ => False) { s with heap := h, toks := tk }) :
    wpAny (model PP w) (LA.deeper (lawEnv L fa cd)) (execs (lawRest 14) (lawEnv L fa cd)) Q (fun _ _ => False) s := by
  have hoff := b.off
  have hL := b.hL
  have o1 := b.o1
  have o2 := b.o2
  have o4 := b.o4
  have l4 := lb (L+1+1+1+1) (by k_mem)
  have l1 := lb (L+1) (by k_mem)
  have l5 := lb (L+1+1+1+1+1) (by k_mem)
  have l32 := lb 32 (by k_mem)
  have l25 := lb 25 (by k_mem)
  refine step 14 (by decide) (ph14 bas hL F hmt hmb b.ok N (news_sub M (by walk_at "Sub9")) NB ND (news_sub M (by walk_at "Sub9")) b.dR b.dL hdict hys b.x8 b.x0
    (hoff _ (by k_mem)) (hoff _ (by k_mem)) nb ⟨hoff _ (by k_mem), hoff _ (by k_mem)⟩ (hoff _ (by k_mem)) ⟨Nat.ne_of_lt l32, Nat.ne_of_lt l25⟩ nD (Nat.ne_of_lt lD) ⟨(nD2 32 (by k_mem)).symm, (nD2 25 (by k_mem)).symm⟩ ⟨Nat.ne_of_lt l4, Nat.ne_of_lt l1, Nat.ne_of_lt l5⟩
    fun h1 tk1 m1 ob1 kvs pl1 pn1 cc c2 F1 a1 k1 N1 hpl1 NB1 hd1 hbits tabs ncc nc2 nccb nc2b => ?_)
  dsimp only [Behind]
  obtain ⟨tlo, tlo2, tne, oc, oc2, vs, vs2, tq, tq2, NT1, dt, vt, dt2, vt2⟩ := tabs
  have R0 : News g L s.heap [(va, listOf (List.toArray vl) nv), (wa, listOf (List.toArray wl) nw), (L+1+1+1+1+1, oD), (L+1+1+1+1, oR), (L+1+1+1, oV), (L+1+1, oW), (L+1, oL), (81, tab81 c0 r.c), (c0, oc0)] := news_sub M (by walk_at "Sub9")
  have off9 : ∀ {a : Addr}, a ∈ stdA L wa va c0 → a ≠ L → @LT.lt Nat _ 32 a → a ∉ L :: bd :: 32 :: 25 :: r.adr := fun {a} hA hl h3 =>
    nin_cons hl (nin_cons (Nat.ne_of_lt (lb _ hA)) (nin_cons (Nat.ne_of_gt h3) (nin_cons (Nat.ne_of_gt (Nat.lt_trans (by decide) h3)) (hoff _ hA))))
  have m1 : @LT.lt Nat _ 32 (L+1) := Nat.lt_of_lt_of_le (Nat.lt_trans (by decide) hL) (Nat.le_add_right L 1)
  have m2 : @LT.lt Nat _ 32 (L+1+1) := Nat.lt_of_lt_of_le m1 (Nat.le_add_right _ 1)
  have m3 : @LT.lt Nat _ 32 (L+1+1+1) := Nat.lt_of_lt_of_le m2 (Nat.le_add_right _ 1)
  have m4 : @LT.lt Nat _ 32 (L+1+1+1+1) := Nat.lt_of_lt_of_le m3 (Nat.le_add_right _ 1)
  have m5 : @LT.lt Nat _ 32 (L+1+1+1+1+1) := Nat.lt_of_lt_of_le m4 (Nat.le_add_right _ 1)
  have m6 : @LT.lt Nat _ 32 wa := Nat.lt_trans m5 o1
  have m7 : @LT.lt Nat _ 32 va := Nat.lt_trans m6 o2
  have m8 : @LT.lt Nat _ 32 c0 := Nat.lt_trans m7 o4
  have R1 := after_news R0 a1 (off_cons (off9 (.head _) (R0 _ (.head _)).2.1 m7) <| off_cons (off9 (.tail _ (.head _)) (R0 _ (.tail _ (.head _))).2.1 m6) <| off_cons (off9 (.tail _ (.tail _ (.head _))) (R0 (L+1+1+1+1+1, oD) (by k_mem)).2.1 m5) <|
    off_cons (off9 (.tail _ (.tail _ (.tail _ (.head _)))) (R0 (L+1+1+1+1, oR) (by k_mem)).2.1 m4) <| off_cons (off9 (.tail _ (.tail _ (.tail _ (.tail _ (.head _))))) (R0 (L+1+1+1, oV) (by k_mem)).2.1 m3) <|
    off_cons (off9 (.tail _ (.tail _ (.tail _ (.tail _ (.tail _ (.head _)))))) (R0 (L+1+1, oW) (by k_mem)).2.1 m2) <| off_cons (off9 (.tail _ (.tail _ (.tail _ (.tail _ (.tail _ (.tail _ (.head _))))))) (R0 (L+1, oL) (by k_mem)).2.1 m1) <|
    off_cons (off9 (.tail _ (.tail _ (.tail _ (.tail _ (.tail _ (.tail _ (.tail _ (.head _)))))))) (R0 (81, tab81 c0 r.c) (by k_mem)).2.1 (by decide)) <|
    off_cons (off9 (.tail _ (.tail _ (.tail _ (.tail _ (.tail _ (.tail _ (.tail _ (.tail _ (.tail _ (.tail _ (.head _))))))))))) (R0 (c0, oc0) (by k_mem)).2.1 m8) off_nil)
  have M1 : News g L h1 (stdN L wa va c0 r.c vl wl nv nw oD oR oV oW oL oc0 (tab32 cc) (tab25 c2)) := news_sub (news_app R1 NT1) (by simp only [List.cons_append, List.nil_append]; walk_at "Sub9")
  clear R0 R1
  refine ph15 bas hL F1 (news_app (a := [(r.c, r.oc)]) (b := [(c0, oc0), (81, tab81 c0 r.c)]) (news_sub N1 (by walk_at "Sub9")) (news_sub M1 (by walk_at "Sub9"))) (Nat.lt_trans hL (Nat.lt_trans (Nat.lt_of_succ_lt (Nat.lt_of_succ_lt (Nat.lt_of_succ_lt (Nat.lt_of_succ_lt (Nat.lt_of_succ_lt o1))))) (Nat.lt_trans o2 o4))) (Nat.lt_trans b.o7 b.ok.o3) b.ok.d1 (by have := b.ok.d2; rwa [b.qn] at this) b.dc0 b.vc0
    fun h2 tk2 m2 q lv F2 a2 k2 hq2 hl2 qk NS2 NV2 fr lvlt => ?_
  have q1 := qk.o1
  have q2 := qk.o2
  have fqx : Fresh g L h1 q.x := fr.le (Nat.le_of_lt q1)
  have fqp : Fresh g L h1 q.pb := fqx.le (Nat.le_of_lt q2)
  have flv : Fresh g L h1 lv := fqp.le (Nat.le_of_lt lvlt)
  have zq : ∀ a ∈ q.adr, Fresh g L h1 a ∧ h1.get? a = none := fun a ha => by
    have hf : Fresh g L h1 a := by
      simp only [Sd.adr, List.mem_cons, List.not_mem_nil, or_false] at ha
      rcases ha with rfl | rfl | rfl
      · exact fqp
      · exact fqx
      · exact fr
    obtain ⟨o, ho⟩ := sid_live (spl := []) (spn := 0) NS2 ha
    exact ⟨hf, hf.none (NS2 _ ho).2.1 (NS2 _ ho).2.2⟩
  have zlv : h1.get? lv = none := flv.none (NV2 _ (.head _)).2.1 (NV2 _ (.head _)).2.2
  have oldoff : ∀ {a : Addr} {o : Obj}, h1.get? a = some o → a ∉ r.adr → a ∉ lv :: (q.adr ++ r.adr) := fun {a o} ho hr => by
    refine nin_cons (fun e => by rw [e, zlv] at ho; cases ho) fun hm => ?_
    rcases List.mem_append.mp hm with hm | hm
    · rw [(zq a hm).2] at ho; cases ho
    · exact hr hm
  have lvq : lv ∉ q.adr := by
    have e2 := Nat.lt_trans q2 lvlt
    exact nin_cons (Nat.ne_of_gt lvlt) (nin_cons (Nat.ne_of_gt e2) (not_mem1 (Nat.ne_of_gt (Nat.lt_trans q1 e2))))
  have lvr : lv ∉ r.adr := not_adr N1 zlv
  refine k h2 tk2 m2 q lv ob1 kvs pl1 pn1 cc c2 oc vs tq F2 (after_L N1 a2) hpl1 (after_L M1 a2) (after_L (news_sub NT1 (by walk_at "Sub9")) a2) dt vt tlo (after_L NB1 a2) hd1 NS2 NV2 qk (fun x hx => ?_)
    ((k1.mono fun y hy => List.mem_append_left [Str.ofString "siding", Str.ofString "levels"] hy).trans (k2.mono fun y hy => List.mem_append_right [Str.ofString "word", Str.ofString "figures"] hy)) hq2 hl2 (fun a ha => oldoff (News.get M1 (std_live ha).choose_spec) (hoff a ha)) (oldoff (News.get NT1 (.tail _ (.head _))) ncc) (oldoff (News.get NB1 (.head _)) nb) (fun a ha => not_adr N1 (zq a ha).2)
    (fun hm => (List.mem_append.mp hm).elim lvq lvr) (flv.news M1 (L+1+1+1+1+1, oD) (by k_mem))
  · have h1 := ((((hbits x hx).grow (zq q.dx (by k_mem)).2).grow (zq q.x (by k_mem)).2).grow (zq q.pb (by k_mem)).2).grow zlv
    have h2 : BitsAt g L (lv :: (q.adr ++ r.adr)) _ kvs (wordW x) := h1.mono fun a ha => by
      rcases List.mem_cons.mp ha with rfl | ha
      · exact .head _
      rcases List.mem_append.mp ha with ha | ha
      · have : a = q.pb ∨ a = q.x ∨ a = q.dx := by simpa using ha
        rcases this with rfl | rfl | rfl
        · exact .tail _ (.head _)
        · exact .tail _ (.tail _ (.head _))
        · exact .tail _ (.tail _ (.tail _ (.head _)))
      · exact .tail _ (.tail _ (.tail _ (.tail _ (.tail _ (.tail _ (.tail _ ha))))))
    exact h2.carry a2 fun a ha => .inl (List.mem_singleton.mp ha)
end Mine
end

section
open PySem PySem.W PyProof.Rows
namespace Mine
theorem anew83 : True ∧ True := by
  walk1
  w_top off
  all_goals exact True.intro
end Mine
end

section
open PySem PySem.W PySem.Calls PyProof.Rows PyProof.Rows.LCg PyProof.Rows.LCt
set_option maxRecDepth 100000
set_option maxHeartbeats 1000000
namespace Mine
theorem strs_len {vs : List Value} {ns : List Str} (h : StrsAre vs ns) : vs.length = ns.length := h.length
theorem seg4 {w : World} {g : Heap} {L fa wa va c0 bd lv cc : Addr} {cd : Value} {s : Shared} {m : Str → Option Value} {Q : Flow → Shared → Prop} {r : Rd} {q : Sd} {xs : List Int} {vl wl sl pl : List Value} {oD oR oV oW oL oc0 ob oc o25 : Obj} {vs0 vs : Array Value} {tq0 tl u1 tu : Tok} {nv nw n pn : Nat} {ln : Int} {kvs : List (Str × Value)}
    (bas : Bas w g) (b : Base L wa va c0 r xs vl wl oD oR oV oW oL oc0 vs0 tq0 tl) (F : Fr g L s.heap m) (N : News g L s.heap (lexNews r ln u1 sl n pl pn)) (hpl : StrsAre pl (xs.map wordW)) (M : News g L s.heap (stdN L wa va c0 r.c vl wl nv nw oD oR oV oW oL oc0 (tab32 cc) o25))
    (NC : News g L s.heap [(cc, oc)]) (dt : oc.data = .fields vs) (lcc : @LT.lt Nat _ (L+1+1+1+1+1) cc) (NB : News g L s.heap [(bd, ob)]) (hdict : ob.IsDictOf (strKind PP w) kvs) (hsys : (bd == sysModules) = false) (NS : News g L s.heap (sidNews q [] 0)) (NV : News g L s.heap [(lv, listOf #[] 0)]) (qk : q.Ok)
    (hbits : ∀ x ∈ xs, BitsAt g L (lv :: (q.adr ++ r.adr)) s.heap kvs (wordW x)) (hmb : m (Str.ofString "bits") = some (.ref bd)) (hms : m (Str.ofString "siding") = some (.ref q.x)) (hml : m (Str.ofString "levels") = some (.ref lv)) (hmg : m (Str.ofString "signs") = some (.ref r.sg)) (hmu : m (Str.ofString "unread") = some (.int (sl.length : Nat) tu))
    (z1 : ∀ a ∈ stdA L wa va c0, a ∉ lv :: (q.adr ++ r.adr)) (z2 : cc ∉ lv :: (q.adr ++ r.adr)) (z3 : bd ∉ lv :: (q.adr ++ r.adr)) (z4 : ∀ a ∈ q.adr, a ∉ r.adr) (z5 : lv ∉ q.adr ++ r.adr) (hsl : sl.length ≤ 2)
    (k : ∀ h tk m' pn ls nl od ys p, Fr g L h m' → News g L h (lexNews r ln u1 sl n [] pn) → News g L h (stdN L wa va c0 r.c vl wl nv nw oD oR oV oW oL oc0 (tab32 cc) o25) → News g L h [(cc, oc)] → News g L h [(lv, listOf (List.toArray ls) nl)] → News g L h [(od, lst ys)] →
      LevN g L [L+1+1+1+1+1, 32, cc] h ls (zerosAt xs 4) → IntsAre ys ((Array.toList p).map fun i : Nat => (i : Int)) → Arr xs.length p → Asc (keyP (ordPs (xs.map valW))) p xs.length → Keep [Str.ofString "level", Str.ofString "zeros", Str.ofString "place", Str.ofString "word", Str.ofString "order"] m m' → m' (Str.ofString "order") = some (.ref od) → od ∉ r.adr → (∀ a ∈ stdA L wa va c0, a ≠ od) →
      wpAny (model PP w) (LA.deeper (lawEnv L fa cd)) (execs (lawRest 21) (lawEnv L fa cd)) Q (fun _ _ => False) { s with heap := h, toks := tk }) :
    wpAny (model PP w) (LA.deeper (lawEnv L fa cd)) (execs (lawRest 17) (lawEnv L fa cd)) Q (fun _ _ => False) s := by
  have hoff := b.off
  have wlen : wl.length = xs.length := by have := strs_len b.hwl; simpa using this
  have x8 := b.x8
  have x1 : 1 ≤ xs.length := by obtain ⟨xr, e⟩ := b.x0; rw [e]; simp
  refine step 17 (by decide) (ph17 bas F hmb hms hml b.ok qk N (news_sub M (by walk_at "Sub9")) NB NS NV (news_sub M (by walk_at "Sub9")) b.dR b.dW wlen b.x8 hpl hdict hsys hbits (fun _ h => h) (z1 _ (by k_mem)) z3 z4 z5 (z1 _ (by k_mem)) (z1 _ (by k_mem))
    fun h1 tk1 m1 pl1 pn1 spn1 ls nl F1 a1 k1 N1 hpl1 NS1 NV1 lev1 => ?_)
  dsimp only [Behind]
  have M1 : News g L h1 (stdN L wa va c0 r.c vl wl nv nw oD oR oV oW oL oc0 (tab32 cc) o25) := std_carry M a1 fun a ha => nin_cons (M _ (std_live ha).choose_spec).2.1 (z1 a ha)
  have NC1 : News g L h1 [(cc, oc)] := after_news NC a1 (off_cons (nin_cons (NC _ (.head _)).2.1 z2) off_nil)
  refine step 18 (by decide) (ph18 bas F1 (kg k1 hmg (by decide)) (kg k1 hmu (by decide)) (news_sub N1 (by walk_at "Sub9")) (by omega) fun tk2 => ?_)
  dsimp only [Behind]
  have hvb : ∀ v ∈ xs.map valW, 0 ≤ v ∧ v < 16 := fun v hv => by obtain ⟨x, _, rfl⟩ := List.mem_map.mp hv; exact valW_bound x
  refine step 19 (by decide) (ph19 bas F1 (news_sub M1 (by walk_at "Sub9")) b.dV b.dW b.hvl hvb (by simpa using x8) (by simpa using x1) (by simpa using wlen) fun h3 tk3 m3 od ys p F3 a3 new3 k3 ho3 NO3 hio ap as => ?_)
  dsimp only [Behind]
  rw [List.length_map] at ap as
  have N3 := after_L N1 a3
  have M3 := after_L M1 a3
  have NC3 := after_L NC1 a3
  have NV3 := after_L NV1 a3
  have lev3 := lev1.carry a3 fun a ha => .inl (List.mem_singleton.mp ha)
  have nod : od ∉ r.adr := not_adr N1 new3
  have nod2 : ∀ a ∈ stdA L wa va c0, a ≠ od := fun a ha => news_ne M1 new3 _ (std_live ha).choose_spec
  refine step 20 (by decide) (ph20 (ws := xs.map wordW) (row := (rowAt xs 4).map wordW) bas F3 ho3 b.ok N3 (news_app (a := [(wa, listOf (List.toArray wl) nw), (L+1+1+1+1, oR), (L+1+1, oW)]) (b := [(od, lst ys)]) (news_sub M3 (by walk_at "Sub9")) NO3) b.dR b.dW ⟨hoff _ (by k_mem), hoff _ (by k_mem)⟩ ⟨hoff _ (by k_mem), nod⟩
    b.hwl (by simpa using x8) hpl1 (by rw [strs_len hpl1, List.length_map, rowAt_len, wlen]) hio (fun o ho => ?_) (by rw [List.length_map, Array.length_toList, ap.size]; exact x8) (row_law x8 ap as) (fun x hx => by obtain ⟨y, _, rfl⟩ := List.mem_map.mp hx; exact word_ok y)
    ⟨?_, nod2 _ (by k_mem), (nod2 _ (by k_mem)).symm⟩ fun h4 tk4 pn4 F4 a4 N4 => ?_)
  · obtain ⟨i, hi, rfl⟩ := List.mem_map.mp ho
    have := ap.mem hi
    rw [List.length_map]
    omega
  · have := b.o1
    exact neN (by omega)
  dsimp only [Behind]
  have M4 : News g L h4 (stdN L wa va c0 r.c vl wl nv nw oD oR oV oW oL oc0 (tab32 cc) o25) := std_carry M3 a4 fun a ha => nin_cons (M _ (std_live ha).choose_spec).2.1 (hoff a ha)
  have NC4 : News g L h4 [(cc, oc)] := after_news NC3 a4 (off_cons (nin_cons (NC _ (.head _)).2.1 fun h => z2 (.tail _ (List.mem_append_right _ h))) off_nil)
  have NV4 : News g L h4 [(lv, listOf (List.toArray ls) nl)] := after_news NV3 a4 (off_cons (nin_cons (NV _ (.head _)).2.1 fun h => z5 (List.mem_append_right _ h)) off_nil)
  have NO4 : News g L h4 [(od, lst ys)] := after_news NO3 a4 (off_cons (nin_cons (NO3 _ (.head _)).2.1 nod) off_nil)
  have lev4 := lev3.carry a4 fun a ha => by
    rcases List.mem_cons.mp ha with h | h
    · exact .inl h
    · exact .inr (.inl (.tail _ (List.mem_append_right _ h)))
  have lev5 : LevN g L [L+1+1+1+1+1, 32, cc] h4 ls (zerosAt xs 4) := (((lev4.add (a := cc) (o := oc) (News.get NC4 (.head _)) (fun v n e => by
      have := congrArg Obj.data e
      rw [dt] at this; cases this)).add (a := 32) (o := tab32 cc) (News.get M4 (by k_mem)) (fun v n e => by have := congrArg Obj.data e; cases this)).add (a := L+1+1+1+1+1) (o := oD) (News.get M4 (by k_mem)) (fun v n e => by
      have := congrArg Obj.data e
      rw [b.dD] at this; cases this)).mono fun a ha => by
        simp only [List.mem_cons, List.not_mem_nil, or_false] at ha
        rcases ha with rfl | rfl | rfl
        · exact .head _
        · exact .tail _ (.head _)
        · exact .tail _ (.tail _ (.head _))
  refine k h4 tk4 m3 pn4 ls nl od ys p F4 N4 M4 NC4 NV4 NO4 lev5 hio ap as ((k1.mono fun y hy => List.mem_append_left [Str.ofString "order"] hy).trans (k3.mono fun y hy => List.mem_append_right [Str.ofString "level", Str.ofString "zeros", Str.ofString "place", Str.ofString "word"] hy)) ho3 nod nod2
end Mine
end

section
open PySem PySem.W PyProof.Rows
namespace Mine
theorem anew84 : True ∧ True := by
  walk1
  w_top off
  all_goals exact True.intro
end Mine
end

section
open PySem PySem.W PySem.Calls PyProof.Rows PyProof.Rows.LCg PyProof.Rows.LCt
set_option maxRecDepth 100000
set_option maxHeartbeats 1000000
namespace Mine
theorem lay_range : ∀ n : Fin 9, PyData.layable0 (.list ((((List.range n.val).map fun i : Nat => (i : Int))).map .int)) = true := by decide +kernel
theorem lay_ords {n : Nat} {p : Array Nat} (h8 : n ≤ 8) (ap : Arr n p) : PyData.layable0 (.list (((Array.toList p).map fun i : Nat => (i : Int)).map .int)) = true :=
  layable_ints_perm (ap.perm.toList.map _) (lay_range ⟨n, by omega⟩)
theorem seg5 {w : World} {g : Heap} {L fa wa va c0 lv cc od : Addr} {cd : Value} {s : Shared} {m : Str → Option Value} {Q : Flow → Shared → Prop} {r : Rd} {xs : List Int} {vl wl sl ls ys : List Value} {oD oR oV oW oL oc0 oc : Obj} {vs0 vs v25 : Array Value} {tq0 tl u1 tq tt tx : Tok} {nv nw n pn nl' : Nat} {ln tot : Int} {p : Array Nat} {full fin : List Nat} {text : Str}
    (bas : Bas w g) (b : Base L wa va c0 r xs vl wl oD oR oV oW oL oc0 vs0 tq0 tl) (F : Fr g L s.heap m) (N : News g L s.heap (lexNews r ln u1 sl n [] pn)) (M : News g L s.heap (stdN L wa va c0 r.c vl wl nv nw oD oR oV oW oL oc0 (tab32 cc) (tabObj v25)))
    (NC : News g L s.heap [(cc, oc)]) (dt : oc.data = .fields vs) (vt : vs[1]? = some (.str d2iQual tq)) (lcc : @LT.lt Nat _ (L+1+1+1+1+1) cc) (ncc : cc ∉ r.adr) (NV : News g L s.heap [(lv, listOf (List.toArray ls) nl')]) (NO : News g L s.heap [(od, lst ys)]) (llv : @LT.lt Nat _ (L+1+1+1+1+1) lv)
    (lev : LevN g L [L+1+1+1+1+1, 32, cc] s.heap ls (zerosAt xs 4)) (hio : IntsAre ys ((Array.toList p).map fun i : Nat => (i : Int))) (ap : Arr xs.length p) (as : Asc (keyP (ordPs (xs.map valW))) p xs.length) (nod : ∀ a ∈ stdA L wa va c0, a ≠ od)
    (hmt : m (Str.ofString "total") = some (.int tot tt)) (hml : m (Str.ofString "levels") = some (.ref lv)) (hmo : m (Str.ofString "order") = some (.ref od)) (hmx : m (Str.ofString "text") = some (.str text tx)) (htx : text.cps.toList = full) (hsl : SignsAre sl fin) (hfin : fin = [122] ∨ ∃ c, isWs c = true ∧ fin = [c, 122]) (hln : ln + nl fin = 1 + nl full)
    (k : ∀ h tk m', Fr g L h m' → (∃ p81 p32 p25, News g L h [(81, tabObj p81), (32, tabObj p32), (25, tabObj p25)]) → Q (.ret (.bool true)) { s with heap := h, toks := tk }) :
    wpAny (model PP w) (LA.deeper (lawEnv L fa cd)) (execs (lawRest 21) (lawEnv L fa cd)) Q (fun _ _ => False) s := by
  have hoff := b.off
  have hL := b.hL
  have o1 := b.o1
  have o2 := b.o2
  have o4 := b.o4
  have wlen : wl.length = xs.length := by have := strs_len b.hwl; simpa using this
  have x8 := b.x8
  have hvb : ∀ v ∈ xs.map valW, 0 ≤ v ∧ v < 16 := fun v hv => by obtain ⟨x, _, rfl⟩ := List.mem_map.mp hv; exact valW_bound x
  have hzl : ∀ ns ∈ zerosAt xs 4, ns.length ≤ 1000 ∧ Rises ns := fun ns hn => by
    obtain ⟨j, _, rfl⟩ := List.mem_map.mp hn
    exact ⟨Nat.le_trans (zplaces_len _ _ _) (by omega), zplaces_rises _ _ _⟩
  refine step 21 (by decide) (ph21 (vals := xs.map valW) (ords := (Array.toList p).map fun i : Nat => (i : Int)) (zs := zerosAt xs 4) bas F hmt hml hmo (by simpa using x8) hvb
    (news_app (a := [(va, listOf (List.toArray vl) nv), (L+1+1+1, oV)]) (b := [(lv, listOf (List.toArray ls) nl'), (od, lst ys)]) (news_sub M (by walk_at "Sub9")) (news_app (a := [(lv, listOf (List.toArray ls) nl')]) (b := [(od, lst ys)]) NV NO)) (news_sub M (by walk_at "Sub9"))
    (news_app (a := [(32, tab32 cc)]) (b := [(cc, oc)]) (news_sub M (by walk_at "Sub9")) NC) (news_sub M (by walk_at "Sub9")) b.dW (by rw [wlen, List.length_map]) o1 b.dV b.dD b.hvl (ltN (by omega)) (ltN (by omega)) dt vt lev hzl (by simp [zerosAt]) ⟨llv, (nod _ (by k_mem)).symm⟩ hio (lay_ords x8 ap) (plain_law x8 ap as)
    fun h1 tk1 m1 oD1 x1 F1 a1 k1 ND1 dD1 NT1 => ?_)
  dsimp only [Behind]
  have nlc : ∀ a ∈ r.adr, a ∉ [L, L+1+1+1+1+1, 32, cc] := fun a ha => by
    obtain ⟨o, ho⟩ := lex_live (ln := ln) (u1 := u1) (sl := sl) (pl := []) (n := n) (pn := pn) ha
    refine nin_cons (N _ ho).2.1 (nin_cons (fun e => hoff (L+1+1+1+1+1) (by k_mem) (by rw [← e]; exact ha)) (nin_cons (fun e => hoff 32 (by k_mem) (by rw [← e]; exact ha)) (not_mem1 fun e => ncc (by rw [← e]; exact ha))))
  have N1 : News g L h1 (lexNews r ln u1 sl n [] pn) := after_news N a1 fun q hq => nlc _ (lex_off hq)
  have R0 : News g L s.heap [(81, tab81 c0 r.c), (25, tabObj v25), (L+1+1+1+1, oR)] := news_sub M (by walk_at "Sub9")
  have R1 : News g L h1 [(81, tab81 c0 r.c), (25, tabObj v25), (L+1+1+1+1, oR)] := after_news R0 a1 (off_cons (nin_cons (neN (by omega)) (nin_cons (neN (by omega)) (not_mem2 (neN (by omega)) (neN (by omega))))) <| off_cons (nin_cons (neN (by omega)) (nin_cons (neN (by omega)) (not_mem2 (neN (by omega)) (neN (by omega))))) <| off_cons (nin_cons (neN (by omega)) (nin_cons (neN (by omega)) (not_mem2 (neN (by omega)) (neN (by omega))))) off_nil)
  have T1 : News g L h1 [(81, tab81 c0 r.c), (32, tab32 cc), (25, tabObj v25), (L+1+1+1+1, oR)] := news_sub (news_app R1 NT1) (by simp only [List.cons_append, List.nil_append]; walk_at "Sub9")
  refine step 22 (by decide) (ph22 bas F1 b.ok N1 (news_sub T1 (by walk_at "Sub9")) b.dR (hoff _ (by k_mem)) hfin hsl fun h2 tk2 u2 n2 F2 a2 N2 => ?_)
  dsimp only [Behind]
  have T2 : News g L h2 [(81, tab81 c0 r.c), (32, tab32 cc), (25, tabObj v25), (L+1+1+1+1, oR)] := after_news T1 a2 (off_cons (nin_cons (neN (by omega)) (hoff _ (by k_mem))) <| off_cons (nin_cons (neN (by omega)) (hoff _ (by k_mem))) <| off_cons (nin_cons (neN (by omega)) (hoff _ (by k_mem))) <| off_cons (nin_cons (neN (by omega)) (hoff _ (by k_mem))) off_nil)
  refine step 23 (by decide) (ph23 bas F2 (kg k1 hmx (by decide)) b.ok N2 (news_sub T2 (by walk_at "Sub9")) b.dR (by rw [count_nl, htx]; omega) fun h3 tk3 e3 => ?_)
  subst e3
  exact k _ tk3 _ F2 ⟨_, _, _, news_sub T2 (by walk_at "Sub9")⟩
end Mine
end

section
open PySem PySem.W PyProof.Rows
namespace Mine
theorem anew85 : True ∧ True := by
  walk1
  w_top off
  all_goals exact True.intro
end Mine
end

section
open PySem PySem.W PySem.Calls PyProof.Rows PyProof.Rows.LCg PyProof.Rows.LCt
set_option maxRecDepth 100000
set_option maxHeartbeats 1000000
namespace Mine
theorem law_main {w : World} {g : Heap} {L fa sl : Addr} {cd : Value} {s : Shared} {m : Str → Option Value} {Q : Flow → Shared → Prop} {oD oR oV oW oL : Obj} {vs : List Value} {ns : List Int}
    (bas : Bas w g) (hL : @LT.lt Nat _ 81 L) (F : Fr g L s.heap m) (hm : m (Str.ofString "script") = some (.ref sl)) (hl : g.IsList sl vs.toArray) (hi : IntsAre vs ns) (hlen : ns.length ≤ 63)
    (N : News g L s.heap [(L+1+1+1+1+1, oD), (L+1+1+1+1, oR), (L+1+1+1, oV), (L+1+1, oW), (L+1, oL), (81, tabObj #[]), (32, tabObj #[]), (25, tabObj #[])])
    (dD : oD.data = .cell none) (dR : oR.data = .cell none) (dV : oV.data = .cell none) (dW : oW.data = .cell none) (dL : oL.data = .cell none)
    (k : ∀ h tk m', Fr g L h m' → (∃ p81 p32 p25, News g L h [(81, tabObj p81), (32, tabObj p32), (25, tabObj p25)]) → Q (.ret (.bool true)) { s with heap := h, toks := tk }) :
    wpAny (model PP w) (LA.deeper (lawEnv L fa cd)) (execs (lawRest 0) (lawEnv L fa cd)) Q (fun _ _ => False) s := by
  refine seg1 bas hL F hm hl hi hlen N dD dR dV dW dL fun h1 tk1 m1 r u1 sl1 n1 c0 oc0 vs0 tq0 oR1 oV1 oW1 oL1 wa va vl wl nv nw tt tx tl F1 ok qn N1 M1 dR1 dV1 dW1 dL1 dc0 vc0 q1 q2 q3 q4 q5 q6 q7 s1 s2 s3 s4 s5 s6 s7 s8 s9 s10 hvl hwl hsl ht hx hs => ?_
  have hxl : (([29, 96, 59, 154] ++ ns.take 4 : List Int)).length ≤ 8 := by simp; omega
  have hx0 : ∃ xr, ([29, 96, 59, 154] ++ ns.take 4 : List Int) = 29 :: xr := ⟨_, rfl⟩
  generalize ([29, 96, 59, 154] ++ ns.take 4 : List Int) = xs at hvl hwl hsl hx hxl hx0
  have b : Base L wa va c0 r xs vl wl oD oR1 oV1 oW1 oL1 oc0 vs0 tq0 tl := ⟨hL, q2, q3, q4, q5, q6, q7, q1, ⟨s1, s2, s3, s4, s5, s6, s7, s8, s9, s10⟩, ok, qn, dD, dR1, dV1, dW1, dL1, dc0, vc0, hvl, hwl, hxl, hx0⟩
  obtain ⟨fin, hfin, hruns⟩ := text_runs xs
  have hfin2 : fin.length ≤ 2 := by
    rcases hfin with rfl | ⟨c, _, rfl⟩ <;> simp
  refine seg2 bas b F1 N1 M1 hsl hruns (textz_len hxl) hfin2 hs fun h2 tk2 m2 D ys ln u2 sl2 n2 bd ob t F2 N2 M2 ND2 NB2 hys hsl2 hln k2 hd2 hu2 hb2 hdict hsys nD nD2 lD lb nb => ?_
  have hsl2len : sl2.length ≤ 2 := by rw [hsl2.length]; exact hfin2
  refine seg3 bas b F2 N2 M2 ND2 NB2 hys hd2 hb2 hdict nD nD2 lD lb nb fun h3 tk3 m3 q lv ob3 kvs pl pn cc c2 oc vs tq F3 N3 hpl M3 NC3 dt vt lcc NB3 hd3 NS3 NV3 qk hbits k3 hq3 hl3 z1 z2 z3 z4 z5 llv => ?_
  refine seg4 bas b F3 N3 hpl M3 NC3 dt lcc NB3 hd3 hsys NS3 NV3 qk hbits (kg k3 hb2 (by decide)) hq3 hl3 (kg k3 (kg k2 hs (by decide)) (by decide)) (kg k3 hu2 (by decide)) z1 z2 z3 z4 z5 hsl2len
    fun h4 tk4 m4 pn4 ls nl' od ys4 p F4 N4 M4 NC4 NV4 NO4 lev hio ap as k4 ho4 nod nod2 => ?_
  have ncc : cc ∉ r.adr := fun h => z2 (.tail _ (List.mem_append_right _ h))
  refine seg5 bas b F4 N4 M4 NC4 dt vt lcc ncc NV4 NO4 llv lev hio ap as nod2 (kg k4 (kg k3 (kg k2 ht (by decide)) (by decide)) (by decide)) (kg k4 hl3 (by decide)) ho4 (kg k4 (kg k3 (kg k2 hx (by decide)) (by decide)) (by decide)) rfl hsl2 hfin hln fun h5 tk5 m5 F5 hT => ?_
  exact k h5 tk5 m5 F5 hT
theorem go_law {w : World} {A : Around} {nm : Str} {sc : Scope} {body : List Stmt} {L fa : Addr} {cd : Value} {Q : Flow → Shared → Prop} {E : Value → Shared → Prop} {s : Shared} (hA : A = LA) (hn : nm = Str.ofString "law") (hc : sc = lawScope) (hb : body = lawRest 0)
    (h : wpAny (model PP w) (LA.deeper (lawEnv L fa cd)) (execs (lawRest 0) (lawEnv L fa cd)) Q (fun _ _ => False) s) : wpAny (model PP w) (A.deeper (envOfC nm sc L fa cd)) (execs body (envOfC nm sc L fa cd)) Q E s := by
  subst hA hn hc hb
  exact wpAny_mono h (fun _ _ h => h) fun _ _ h => h.elim
end Mine
end

section
open PySem PySem.W PyProof.Rows
namespace Mine
theorem anew86 : True ∧ True := by
  walk1
  w_top off
  all_goals exact True.intro
end Mine
end

section
open PySem PySem.W PySem.Calls PyProof.Rows PyProof.Rows.LCg PyProof.Rows.LCt
set_option maxRecDepth 100000
set_option maxHeartbeats 8000000
namespace Mine
theorem law_holds : PySem.Challenge.rw_pg0121_01.Holds := hd (by
  k_go0
  rename Fr _ _ _ _ => F9
  rename News _ _ _ _ => N9
  refine go_law (by kernel_rfl) (by kernel_rfl) (by kernel_rfl) (by kernel_rfl) (law_main (vs := ?zvs) (ns := ?zns) ⟨?zh85, ?zh36, ?zh29, ?zhX, ?zrest⟩ ?zhL F9 (by rfl) ?zhl ?zhi ?zhlen N9 (by assumption) (by assumption) (by assumption) (by assumption) (by assumption) ?zk)
  case zh85 => assumption
  case zh36 => assumption
  case zh29 => assumption
  case zhX => assumption
  case zrest =>
    rename Top _ _ _ _ _ _ => T9
    rename Below _ _ _ _ => B9
    exact ⟨_, _, _, _, _, _, B9, T9⟩
  case zhL =>
    rename _ < _ ∧ _ => l9
    exact l9.1
  case zhl => assumption
  case zhi => assumption
  case zhlen => omega
  case zk =>
    intro h tk m' F9 hT
    obtain ⟨p81, p32, p25, N9⟩ := hT
    dsimp only
    k_steps)
end Mine
end

end
end

theorem PySem.Challenge.cw_pg0121_01_holds : PySem.Challenge.rw_pg0121_01.Holds := by
  exact Mine.law_holds
