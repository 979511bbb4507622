import PyProof.Rows.All
import Wide.All
import OpenK.AllK
import Wide.FinOn
import PySem.Challenge.RW_nq0009_01
set_option Elab.async false
set_option linter.all false
set_option maxRecDepth 100000
set_option maxHeartbeats 8000000
open_top Mine.hd for PySem.Challenge.rw_nq0009_01
namespace Mine
open PySem PySem.W PySem.Spec PySem.Calls PyProof.Rows
set_option Elab.async false
set_option maxRecDepth 100000
abbrev Led := List (Addr × Obj)
/-- what the call leaves alone: every object that is not on the ledger handed over -/
def Kept (h g : Heap) (sub : Led) : Prop := ∀ b o, h.get? b = some o → (∀ p ∈ sub, p.1 ≠ b) → g.get? b = some o
theorem kept_hide (h : Heap) (sub : Led) : Kept h (hideAll h (sub.map (·.1))) sub := fun b _ e n =>
  hideAll_get _ e fun q => by obtain ⟨p, hp, r⟩ := List.mem_map.mp q; exact n p hp r
section
variable {prog : Program} {w : World} {A A₀ : Around} {s : Shared} {K : Frag} {L : Addr} {h₀ base : Heap} {m mg mb : Str → Option Value} {sub : Led} {p : Program} {loose : List Str} {mean : ExcName → Option Value}
  {env : Env} {outer : List Env} {R : Result → Shared → Prop} {name qual : Str} {params : Arguments} {body : List Stmt} {scope : Scope} {dV kV doc pm cdv ct oc : Value} {an od : Option Addr} {osl : Array (Option Value)} {f : Addr} {args : Args} {binds : List (Str × Value)}
/-- a def entered with a small ledger; the rest of the heap is told to stay -/
theorem enter_fr (B : Below A₀ base outer h₀) (F : Fr h₀ L s.heap m) (X₀ : K.In h₀) (N : News h₀ L s.heap sub) (T : Top p loose mean mg mb h₀) (hA : A.frames = some (env :: outer)) (hf : env.frame = some L) (hke : env.scope.kind = .function)
    (ho : K.lookup f = some ⟨oc, od, .func (fnOf name qual params body scope dV kV doc pm an cdv ct), osl⟩) (hcd : codeIn K cdv qual = true) (hroom : A.depth < recursionLimit)
    (hbind : BindsTo s (fnOf name qual params body scope dV kV doc pm an cdv ct) args binds) (hloc : ∀ y ∈ binds, scope.names.lookup y.1 = some .local)
    (h : ∀ g L' h₁, Fr g L' h₁ (fun y => binds.reverse.lookup y) → News g L' h₁ sub → Below A base (env :: outer) g → K.In g → Top p loose mean mg mb g → Kept s.heap g sub → (∀ p ∈ sub, p.1 < L') →
      wpAny (model prog w) (A.deeper (envOf qual scope L' f cdv)) (execs body (envOf qual scope L' f cdv))
        (fun fl s' => LeaveK h₀ L m g R (match fl with | .ret v => v | _ => .none) s')
        (fun e s' => wpAny (model prog w) (A.deeper (envOf qual scope L' f cdv)) (leaving (envOf qual scope L' f cdv) e) (fun _ s'' => R (.error e) s'') (fun e' s'' => R (.error e') s'') s')
        { s with heap := h₁, toks := s.toks + binds.length })
    (hco : scope.isCoroutine = false) (hgen : scope.isGenerator = false) (hk : scope.kind = .function)
    (hcell : ∀ x ∈ scope.names, x.2 ≠ .cell) : codeAny (model prog w) A (.call (.ref f) args) R s := by
  have ⟨_, BG, st, lv⟩ := groundX (R := R) B F N hA hf hke
  have X := X₀.keeps F.keep
  refine codeAny_call_def (fd := fnOf name qual params body scope dV kV doc pm an cdv ct) (body := body) (binds := binds) hroom (X _ _ ho) rfl (T.nolimit.keeps F.keep) (codeRec_of X hcd) rfl hbind hcell hloc (fun h₁ hns hk₁ => ?_) hco hgen hk
  refine wpAny_mono (h _ s.heap.objs.size h₁ ⟨hns, ?_, ?_⟩ ?_ BG (X₀.keeps st) (T.keeps st) (kept_hide _ _) ?_) (fun _ _ => lv _ _) (fun _ _ => id)
  · exact fun b o e => hk₁ b o (of_hideAll _ e)
  · exact Nat.le_of_eq (hideAll_size _ _)
  · intro q hq
    exact ⟨hk₁ _ _ (N q hq).1, Nat.ne_of_lt (Heap.lt_size (N q hq).1), hideAll_none _ (List.mem_map_of_mem hq)⟩
  · exact fun q hq => Heap.lt_size (N q hq).1
/-- the same for a def with cells -/
theorem enter_frC (B : Below A₀ base outer h₀) (F : Fr h₀ L s.heap m) (X₀ : K.In h₀) (N : News h₀ L s.heap sub) (T : Top p loose mean mg mb h₀) (hA : A.frames = some (env :: outer)) (hf : env.frame = some L) (hke : env.scope.kind = .function)
    (ho : K.lookup f = some ⟨oc, od, .func (fnOf name qual params body scope dV kV doc pm an cdv ct), osl⟩) (hcd : codeIn K cdv qual = true) (hroom : A.depth < recursionLimit)
    (hbind : BindsTo s (fnOf name qual params body scope dV kV doc pm an cdv ct) args binds) (hkind : (binds.all fun y => scope.names.lookup y.1 == some .local || scope.names.lookup y.1 == some .cell) = true)
    (hnd : ((cellsFrom 0 scope.names []).map (·.1)).Nodup)
    (h : ∀ g L' h₁ tk cells, Fr g L' h₁ (bindL (envOfC qual scope L' f cdv).kindOf binds fun _ => none) → News g L' h₁ (cells ++ sub) →
      CellsAre (bindC (envOfC qual scope L' f cdv).kindOf binds fun _ => none) (cellsFrom (L' + 1) scope.names []) cells → Below A base (env :: outer) g → K.In g → Top p loose mean mg mb g → Kept s.heap g sub → (∀ p ∈ sub, p.1 < L') →
      wpAny (model prog w) (A.deeper (envOfC qual scope L' f cdv)) (execs body (envOfC qual scope L' f cdv))
        (fun fl s' => LeaveK h₀ L m g R (match fl with | .ret v => v | _ => .none) s')
        (fun e s' => wpAny (model prog w) (A.deeper (envOfC qual scope L' f cdv)) (leaving (envOfC qual scope L' f cdv) e) (fun _ s'' => R (.error e) s'') (fun e' s'' => R (.error e') s'') s')
        { s with heap := h₁, toks := tk })
    (hco : scope.isCoroutine = false) (hgen : scope.isGenerator = false) (hk : scope.kind = .function) : codeAny (model prog w) A (.call (.ref f) args) R s := by
  have ⟨_, BG, st, lv⟩ := groundX (R := R) B F N hA hf hke
  have X := X₀.keeps F.keep
  refine codeAny_call_function hroom (X _ _ ho) rfl hco hgen rfl (codeRec_of X hcd) (hbind _ _ _ _ (wpAny_newFunctionEnv_cells hk (kindsX hkind _) fun env' he s' x => ?_))
  subst he
  refine ⟨(T.nolimit.keeps F.keep).keeps x.toInCall.keep, codeAny_func ?_⟩
  obtain ⟨h₁, tk, rfl, _⟩ := x.done
  have old := x.toInCall.keep
  have nd := cellsFrom_names scope.names 0 (s.heap.objs.size + 1) [] [] rfl ▸ hnd
  obtain ⟨cells, NC, Y⟩ := Cl.news (h₀ := s.heap) (Nat.le_refl _) fun n c hm => ⟨x.cell n c (lookup_of_mem_nodup nd hm), x.above n c hm⟩
  refine wpAny_mono (h _ s.heap.objs.size h₁ tk cells ⟨x.toInCall.ns, ?_, ?_⟩ ?_ Y BG (X₀.keeps st) (T.keeps st) (kept_hide _ _) ?_) (fun _ _ => lv _ _) (fun _ _ => id)
  · exact fun b o e => old b o (of_hideAll _ e)
  · exact Nat.le_of_eq (hideAll_size _ _)
  · intro q hq
    rcases List.mem_append.mp hq with hq | hq
    · refine ⟨(NC q hq).1, (NC q hq).2.1, Option.eq_none_iff_forall_ne_some.mpr fun o e => ?_⟩
      have := of_hideAll _ e
      rw [(NC q hq).2.2] at this
      cases this
    · exact ⟨old _ _ (N q hq).1, Nat.ne_of_lt (Heap.lt_size (N q hq).1), hideAll_none _ (List.mem_map_of_mem hq)⟩
  · exact fun q hq => Heap.lt_size (N q hq).1
end
/-- what a def of the text does when it is called: Post of the answer and of what it has made -/
def Tc (dd : Nat) (w : World) (mean : ExcName → Option Value) (mg mb : Str → Option Value) (sub : Led) (f : Addr) (vs : List Value) (Post : Value → Led → Prop) : Prop :=
  ∀ (dp un : Nat) (gd : Option (List Code)) (cn : Str) (cs : Scope) (a : Addr) (ccd : Value) (cl : List (Str × Addr)) (outer : List Env) (A₀ : Around) (base h₀ : Heap) (L : Addr) (m : Str → Option Value) (s : Shared) (Q E : Value → Shared → Prop),
    Below A₀ base outer h₀ → Fr h₀ L s.heap m → (hd.heap_39 w.params).In h₀ → News h₀ L s.heap sub → Top hd.view_39 (looseW hd.view_39 []) mean mg mb h₀ → cs.kind = .function → dp + dd < recursionLimit → un + 8 * dd + 100 < cLine →
    (∀ r tl h' tk', Fr h₀ L h' m → News h₀ L h' (tl ++ sub) → Kept s.heap h' sub → (∀ b o, s.heap.get? b = some o → ∀ p ∈ tl, b ≠ p.1) → Post r tl → Q r { s with heap := h', toks := tk' }) →
    wpAny (model PySem.Challenge.rw_nq0009_01.row.prog w) (ktrTop dp un gd cn cs L a ccd cl outer) (call (.ref f) vs) Q E s
/-- the end of a def's walk -/
theorem fresh_of {s g h : Heap} {L : Addr} {sub tl news : Led} (k : Kept s g sub) (N : News g L h news) (ht : ∀ p ∈ tl, p ∈ news) (hs : ∀ p ∈ tl, ∀ q ∈ sub, q.1 ≠ p.1) : ∀ b o, s.get? b = some o → ∀ p ∈ tl, b ≠ p.1 := by
  intro b o e p hp q
  subst q
  have := k _ _ e (hs p hp)
  rw [(N p (ht p hp)).2.2] at this
  cases this
theorem kept_end {s g h : Heap} {L : Addr} {sub : Led} {m : Str → Option Value} (k : Kept s g sub) (F : Fr g L h m) : Kept s h sub := fun b o e n => F.keep b o (k b o e n)
/-- a contract used at a call: the whole ledger comes back, what was made ahead of it -/
theorem Tc.use {dd : Nat} {w : World} {mean : ExcName → Option Value} {mg mb : Str → Option Value} {sub : Led} {f : Addr} {vs : List Value} {Post : Value → Led → Prop} (C : Tc dd w mean mg mb sub f vs Post)
    {dp un : Nat} {gd : Option (List Code)} {cn : Str} {cs : Scope} {a : Addr} {ccd : Value} {cl : List (Str × Addr)} {outer : List Env} {A₀ : Around} {base h₀ : Heap} {L : Addr} {m : Str → Option Value} {s : Shared} {Q E : Value → Shared → Prop} {news : Led}
    (B : Below A₀ base outer h₀) (F : Fr h₀ L s.heap m) (X : (hd.heap_39 w.params).In h₀) (N : News h₀ L s.heap news) (T : Top hd.view_39 (looseW hd.view_39 []) mean mg mb h₀) (hk : cs.kind = .function) (hsub : ∀ p ∈ sub, p ∈ news) (hd : dp + dd < recursionLimit) (hu : un + 8 * dd + 100 < cLine)
    (ret : ∀ r tl h' tk', Fr h₀ L h' m → News h₀ L h' (tl ++ news) → (∀ p ∈ tl, ∀ q ∈ news, q.1 ≠ p.1) → Post r tl → Q r { s with heap := h', toks := tk' }) :
    wpAny (model PySem.Challenge.rw_nq0009_01.row.prog w) (ktrTop dp un gd cn cs L a ccd cl outer) (call (.ref f) vs) Q E s := by
  refine C dp un gd cn cs a ccd cl outer A₀ base h₀ L m s Q E B F X (fun p hp => N p (hsub p hp)) T hk hd hu fun r tl h' tk' F' N' kp fr hp => ret r tl h' tk' F' (fun p hp => ?_) (fun p hp q hq => fr _ _ (N q hq).1 p hp) hp
  rcases List.mem_append.mp hp with hp | hp
  · exact N' p (List.mem_append_left _ hp)
  · refine ⟨?_, (N p hp).2⟩
    by_cases hq : ∃ q ∈ sub, q.1 = p.1
    · obtain ⟨q, hq, e⟩ := hq
      have a := (N q (hsub q hq)).1
      have b := (N' q (List.mem_append_right _ hq)).1
      rw [e] at a b
      rw [b, ← a, (N p hp).1]
    · exact kp _ _ (N p hp).1 fun q hq' e => hq ⟨q, hq', e⟩
/-- the same, the contract last -/
theorem Tc.go {dd : Nat} {w : World} {mean : ExcName → Option Value} {mg mb : Str → Option Value} {sub : Led} {f : Addr} {vs : List Value} {Post : Value → Led → Prop}
    {dp un : Nat} {gd : Option (List Code)} {cn : Str} {cs : Scope} {a : Addr} {ccd : Value} {cl : List (Str × Addr)} {outer : List Env} {A₀ : Around} {base h₀ : Heap} {L : Addr} {m : Str → Option Value} {s : Shared} {Q E : Value → Shared → Prop} {news : Led}
    (B : Below A₀ base outer h₀) (F : Fr h₀ L s.heap m) (X : (hd.heap_39 w.params).In h₀) (N : News h₀ L s.heap news) (T : Top hd.view_39 (looseW hd.view_39 []) mean mg mb h₀) (hk : cs.kind = .function) (hd : dp + dd < recursionLimit) (hu : un + 8 * dd + 100 < cLine) (hsub : ∀ p ∈ sub, p ∈ news) (C : Tc dd w mean mg mb sub f vs Post)
    (ret : ∀ r tl h' tk', Fr h₀ L h' m → News h₀ L h' (tl ++ news) → (∀ p ∈ tl, ∀ q ∈ news, q.1 ≠ p.1) → Post r tl → Q r { s with heap := h', toks := tk' }) :
    wpAny (model PySem.Challenge.rw_nq0009_01.row.prog w) (ktrTop dp un gd cn cs L a ccd cl outer) (call (.ref f) vs) Q E s := C.use B F X N T hk hsub hd hu ret
section
variable {s : Shared} {g h₀ h' : Heap} {L L' : Addr} {m m' : Str → Option Value} {sub news news' : Led} {Post : Value → Led → Prop} {Q : Value → Shared → Prop} {v : Value} {tk : Nat}
theorem fin0 (ret : ∀ r tl h' tk', Fr h₀ L h' m → News h₀ L h' (tl ++ sub) → Kept s.heap h' sub → (∀ b o, s.heap.get? b = some o → ∀ p ∈ tl, b ≠ p.1) → Post r tl → Q r { s with heap := h', toks := tk' })
    (kp : Kept s.heap g sub) (F' : Fr g L' h' m') (F : Fr h₀ L h' m) (N : News h₀ L h' news) (hs : ∀ p ∈ sub, p ∈ news) (hp : Post v []) : Q v { s with heap := h', toks := tk } :=
  ret v [] h' tk F (fun p hp => N p (hs p hp)) (kept_end kp F') (fun _ _ _ _ h => nomatch h) hp
theorem fin1 {d : Addr} {o : Obj} (ret : ∀ r tl h' tk', Fr h₀ L h' m → News h₀ L h' (tl ++ sub) → Kept s.heap h' sub → (∀ b o, s.heap.get? b = some o → ∀ p ∈ tl, b ≠ p.1) → Post r tl → Q r { s with heap := h', toks := tk' })
    (kp : Kept s.heap g sub) (F' : Fr g L' h' m') (N' : News g L' h' news) (F : Fr h₀ L h' m) (N : News h₀ L h' news) (hd : (d, o) ∈ news) (hs : ∀ p ∈ sub, p ∈ news) (hne : ∀ q ∈ sub, q.1 ≠ d) (hp : Post v [(d, o)]) : Q v { s with heap := h', toks := tk } :=
  ret v [(d, o)] h' tk F (fun p hp => N p (by rcases List.mem_append.mp hp with h | h; rw [List.mem_singleton.mp h]; exact hd; exact hs p h)) (kept_end kp F')
    (fresh_of kp N' (fun p hp => by rw [List.mem_singleton.mp hp]; exact hd) fun p hp q hq => by rw [List.mem_singleton.mp hp]; exact hne q hq) hp
end
end Mine
namespace Mine
open PySem PySem.W PySem.Spec PySem.Calls PyProof.Rows
set_option Elab.async false
set_option maxRecDepth 100000
set_option maxHeartbeats 8000000
theorem pow16_fin : ∀ m : Fin 9, Builtin.Int.intBits ((16 : Int) ^ m.val) ≤ 64 := by decide
theorem pow16_bits {n : Nat} (h : n < 9) : Builtin.Int.intBits ((16 : Int) ^ n) ≤ 64 := pow16_fin ⟨n, h⟩
local macro_rules | `(tactic| mul_fits) => `(tactic| exact PySem.IntMulOk.of_right (Mine.pow16_bits (by omega)))
/-- a row's number -/
def valOf (d0 d1 d2 d3 d4 d5 d6 d7 : Int) : Int := let w := d0 + d1 * 16 + d2 * 256 + d3 * 4096 + d4 * 65536 + d5 * 1048576 + d6 * 16777216 + d7 * 268435456; if d7 = 15 then w - 4294967296 else w
theorem val_sum (d0 d1 d2 d3 d4 d5 d6 d7 : Int) : (List.map (fun k' : Int => [d0, d1, d2, d3, d4, d5, d6, d7].getD k'.toNat 0 * 16 ^ k'.toNat) (rangeKs 0 ((8 : Int) - 0).toNat)).sum = d0 + d1 * 16 + d2 * 256 + d3 * 4096 + d4 * 65536 + d5 * 1048576 + d6 * 16777216 + d7 * 268435456 := by
  show d0 * 1 + (d1 * 16 + (d2 * 256 + (d3 * 4096 + (d4 * 65536 + (d5 * 1048576 + (d6 * 16777216 + (d7 * 268435456 + 0))))))) = _
  omega
theorem val_yes {d0 d1 d2 d3 d4 d5 d6 d7 : Int} (h : [d0, d1, d2, d3, d4, d5, d6, d7].getD (Int.toNat 7) 0 = 15) : (List.map (fun k' : Int => [d0, d1, d2, d3, d4, d5, d6, d7].getD k'.toNat 0 * 16 ^ k'.toNat) (rangeKs 0 ((8 : Int) - 0).toNat)).sum - 16 ^ Int.toNat 8 = valOf d0 d1 d2 d3 d4 d5 d6 d7 := by
  rw [val_sum]
  exact (if_pos (show d7 = 15 from h)).symm
theorem val_no {d0 d1 d2 d3 d4 d5 d6 d7 : Int} (h : ¬ [d0, d1, d2, d3, d4, d5, d6, d7].getD (Int.toNat 7) 0 = 15) : (List.map (fun k' : Int => [d0, d1, d2, d3, d4, d5, d6, d7].getD k'.toNat 0 * 16 ^ k'.toNat) (rangeKs 0 ((8 : Int) - 0).toNat)).sum = valOf d0 d1 d2 d3 d4 d5 d6 d7 := by
  rw [val_sum]
  exact (if_neg (show ¬ d7 = 15 from h)).symm
local macro_rules | `(tactic| walk_at $s:str) => `(tactic| k_extra $s)
theorem value_c (w mean mg mb) (r : Addr) (n : Nat) (d0 d1 d2 d3 d4 d5 d6 d7 : Int) (t0 t1 t2 t3 t4 t5 t6 t7 : Tok) :
   Tc 3 w mean mg mb [(r, listOf #[.int d0 t0, .int d1 t1, .int d2 t2, .int d3 t3, .int d4 t4, .int d5 t5, .int d6 t6, .int d7 t7] n)] 146 [.ref r] (fun v tl => tl = [] ∧ ∃ t, v = .int (valOf d0 d1 d2 d3 d4 d5 d6 d7) t) := by
  k_with_none
  (k_with "enter" => (refine wpAny_call ?_; k_dflt (first | (refine' enter_fr ?k1 ?k2 ?k3 ?k4 ?k5 ?kA ?kF ?kK ?k6 ?k7 ?k8 ?k9 ?kB ?_ ?c2 ?c3 ?c4 ?c5; (case kA => exact rfl); (case kF => exact rfl); (case kK => assumption); (case k1 => k_asm); (case k2 => k_asm); (case k3 => k_asm); (case k4 => k_asm); (case k5 => k_asm); (case k6 => k_is); (case k7 => k_is); (case k8 => ktr_room); (case k9 => exact BindsTo.of_eq rfl); (case c5 => decide); (case kB => exact locs rfl); (case c2 => exact rfl); (case c3 => exact rfl); (case c4 => exact rfl); k_whole; intro g' L' h' F' N' B' X' T' kp' lq1; (try k_lt lq1); (try dsimp only); (try k_fold)) | (refine' enter_frC ?k1 ?k2 ?k3 ?k4 ?k5 ?kA ?kF ?kK ?k6 ?k7 ?k8 ?k9 ?kB ?kD ?_ ?c2 ?c3 ?c4; (case kA => exact rfl); (case kF => exact rfl); (case kK => assumption); (case k1 => k_asm); (case k2 => k_asm); (case k3 => k_asm); (case k4 => k_asm); (case k5 => k_asm); (case k6 => k_is); (case k7 => k_is); (case k8 => ktr_room); (case k9 => exact BindsTo.of_eq rfl); (case kB => exact rfl); (case kD => decide +kernel); (case c2 => exact rfl); (case c3 => exact rfl); (case c4 => exact rfl); k_whole; intro g' L' h' tk' cells' F' N' Y' B' X' T' kp' lq1; (try k_lt lq1); k_cells Y'; (try simp only [List.cons_append, List.nil_append] at N'); (try dsimp only); (try k_fold)))))
  unfold Tc
  k_fill
  intro dp un gd cn cs a ccd cl outer A₀ base h₀ L m s Q E B F X N T hk hd hu hret
  k_extra "enter"
  k_steps
  all_goals (
    refine' fin0 hret ?e1 ?e2 ?e3 ?e4 ?e5 ⟨rfl, ktn_int ?e6⟩
    (case e1 => assumption)
    (case e2 => assumption)
    (case e3 => k_asm)
    (case e4 => k_asm)
    (case e5 => lcg_sub)
    (case e6 => first | exact val_yes (by with_reducible assumption) | exact val_no (by with_reducible assumption) | exact val_no (by assumption)))
end Mine
namespace Mine
open PySem PySem.W PySem.Spec PySem.Calls PyProof.Rows
set_option Elab.async false
set_option maxRecDepth 100000
section
variable {prog : Program} {w : World} {A : Around} {E : Value → Shared → Prop} {s : Shared} {env : Env} {h₀ : Heap} {target : Expr} {body : List Stmt} {Q : Flow → Shared → Prop} {ws : List (Addr × String)} {keep : Led}
theorem unrPost_mono {L : Addr} {s₁ : Shared} {its : Led} {P P' : (Str → Option Value) → Led → Prop} {f : Flow} {s₂ : Shared} (hp : ∀ m n, P m n → P' m n) (h : UnrPostW h₀ L s₁ its P Q f s₂) : UnrPostW h₀ L s₁ its P' Q f s₂ := by
  have go : UnrEndW h₀ L s₁ its P s₂ → UnrEndW h₀ L s₁ its P' s₂ := fun ⟨h', tk, m', n', e, F, N, a, r⟩ => ⟨h', tk, m', n', e, F, N, a, hp _ _ r⟩
  cases f with
  | ret v => exact h
  | brk => exact h
  | cont => exact go h
  | next => exact go h
theorem allObj_mono : ∀ {ws : List (Addr × String)} {k k' : Led → Prop}, (∀ l, k l → k' l) → AllObj ws k → AllObj ws k'
  | [], _, _, hk, h => hk _ h
  | _ :: _, _, _, hk, h => fun o ho => allObj_mono (fun l => hk (_ :: l)) (h o ho)
/-- a loop over zip(a, b), two lists of ints, by what holds between its turns -/
theorem zip_loop (I : List Int → List Int → List Int → (Str → Option Value) → Led → Prop)
    (turn : ∀ f g fs gs done m news t u, I (f :: fs) (g :: gs) done m news → ∀ T h tk, IsTup h T #[.int f t, .int g u] → Fr h₀ env.locals h m → AllObj ws (fun its => News h₀ env.locals h (its ++ news) →
      wpAny (model prog w) A (assign target env (.ref T)) (fun _ s₂ => wpAny (model prog w) A (execs body env) (UnrPostW h₀ env.locals { s with heap := h, toks := tk } its (fun m' n' => SubL keep n' ∧ ∃ d, I fs gs d m' n') Q) E s₂) E { s with heap := h, toks := tk }))
    (fin : ∀ fs gs done m news, (fs = [] ∨ gs = []) → I fs gs done m news → ∀ h tk, Fr h₀ env.locals h m → News h₀ env.locals h news → Q .next { s with heap := h, toks := tk }) :
    ∀ {vs us : List Value} {fs gs done : List Int} {m : Str → Option Value} {news : Led}, IntsAre vs fs → IntsAre us gs → I fs gs done m news → ItemsRest prog w A E h₀ env target body Q s ws keep (zipItems vs us) m news
  | [], _, _, _, _, _, _, .nil, _, hI => fin _ _ _ _ _ (.inl rfl) hI
  | _ :: _, [], _, _, _, _, _, _, .nil, hI => fin _ _ _ _ _ (.inr rfl) hI
  | _ :: vs, _ :: us, _, _, _, _, _, .cons f t hv, .cons g u hu, hI => by
    refine ItemsRest.pair fun T t' h tk hT F => ?_
    refine allObj_mono (fun its go N => ?_) (turn f g _ _ _ _ _ t u hI T h tk hT F)
    exact wpAny_mono (go N) (fun _ s₂ h₂ => wpAny_mono h₂ (fun fl s₃ h₃ => unrPost_mono (fun m' n' ⟨a, d, b⟩ => ⟨a, zip_loop I turn fin hv hu b⟩) h₃) fun _ _ e => e) fun _ _ e => e
end
def Hold (p : Prop) : Prop := p
theorem Hold.of' {p : Prop} (h : p) : Hold p := h
theorem Hold.of {p : Prop} (h : Hold p) : p := h
theorem offW1_lt {I : Nat} {p : Addr × Obj} (hp : p.1 < I) : ∀ {its : Led}, (∀ q ∈ its, I ≤ q.1) → OffW1 p its
  | [], _ => trivial
  | q :: _, h => ⟨.inl fun e => Nat.lt_irrefl _ (Nat.lt_of_lt_of_le (e ▸ hp) (h q (.head _))), offW1_lt hp fun q hq => h q (.tail _ hq)⟩
theorem offW_lt {I : Nat} {its : Led} (h : ∀ q ∈ its, I ≤ q.1) : ∀ {news : Led}, AllLt I news → OffW its news
  | [], _ => trivial
  | _ :: _, x => ⟨offW1_lt x.1 h, offW_lt h x.2⟩
theorem five_up {I : Nat} {o1 o2 o3 o4 o5 : Obj} : ∀ q ∈ [(I + 4, o1), (I + 2, o2), (I + 3, o3), (I, o4), (I + 1, o5)], I ≤ q.1 := by
  simp
end Mine
namespace Mine
open PySem PySem.W PySem.Spec PySem.Calls PyProof.Rows
set_option Elab.async false
set_option maxRecDepth 100000
set_option maxHeartbeats 8000000
theorem ints8 {vs : List Value} {a b c d e f g h : Int} (H : IntsAre vs [a, b, c, d, e, f, g, h]) : ∃ t0 t1 t2 t3 t4 t5 t6 t7, vs = [.int a t0, .int b t1, .int c t2, .int d t3, .int e t4, .int f t5, .int g t6, .int h t7] := by
  cases H with | cons _ t0 H => cases H with | cons _ t1 H => cases H with | cons _ t2 H => cases H with | cons _ t3 H => cases H with | cons _ t4 H => cases H with | cons _ t5 H => cases H with | cons _ t6 H => cases H with | cons _ t7 H => cases H with | nil => exact ⟨t0, t1, t2, t3, t4, t5, t6, t7, rfl⟩
def plusL : List Int → List Int → Int → List Int
  | f :: a, g :: b, c => (c + f + g).fmod 16 :: plusL a b ((c + f + g).fdiv 16)
  | _, _, _ => []
/-- a new list of these ints and nothing else -/
def NewRow (ns : List Int) (v : Value) (tl : Led) : Prop := ∃ d ys n, v = .ref d ∧ tl = [(d, listOf (List.toArray ys) n)] ∧ IntsAre ys ns
theorem newrow {d : Addr} {n : Nat} {arr : Array Value} {ns : List Int} (h : IntsAre arr.toList ns) : NewRow ns (.ref d) [(d, listOf arr n)] := ⟨d, arr.toList, n, rfl, by rw [Array.toArray_toList], h⟩
theorem off2 {r r2 d : Addr} {o o2 : Obj} (h : @LT.lt Nat _ r d ∧ @LT.lt Nat _ r2 d) : ∀ q ∈ [(r, o), (r2, o2)], q.1 ≠ d :=
  List.forall_mem_cons.mpr ⟨Nat.ne_of_lt h.1, List.forall_mem_cons.mpr ⟨Nat.ne_of_lt h.2, List.forall_mem_nil _⟩⟩
/-- plus between two turns -/
structure PlusI (total : List Int) (l r r2 : Addr) (oa ob : Obj) (fs gs done : List Int) (m : Str → Option Value) (news : Led) : Prop where
  hl : done.length + fs.length = 8
  hg : fs.length = gs.length
  hm : ∃ (c : Int) (t : Tok) (f₀ : Str → Option Value), m = (fun y => if y = Str.ofString "more" then some (.int c t) else if y = Str.ofString "out" then some (.ref l) else f₀ y) ∧ done ++ plusL fs gs c = total
  hn : ∃ (ys : List Value) (n : Nat), news = [(l, listOf ys.toArray n), (r, oa), (r2, ob)] ∧ IntsAre ys done
theorem plus_map {m : Str → Option Value} {c : Int} {t : Tok} {l : Addr} (h1 : m (Str.ofString "more") = some (.int c t)) (h2 : m (Str.ofString "out") = some (.ref l)) :
    m = (fun y => if y = Str.ofString "more" then some (.int c t) else if y = Str.ofString "out" then some (.ref l) else m y) := by
  funext y
  by_cases a : y = Str.ofString "more"
  · rw [if_pos a, a, h1]
  · by_cases b : y = Str.ofString "out"
    · rw [if_neg a, if_pos b, b, h2]
    · rw [if_neg a, if_neg b]
theorem PlusI.next {total : List Int} {l r r2 : Addr} {oa ob : Obj} {fs gs done : List Int} {m : Str → Option Value} {ys : List Value} {n : Nat} {f g c : Int} {t u : Tok} (hl : done.length + (f :: fs).length = 8) (hg : (f :: fs).length = (g :: gs).length) (ht : done ++ plusL (f :: fs) (g :: gs) c = total) (hy : IntsAre ys done)
    (h1 : m (Str.ofString "more") = some (.int ((c + f + g).fdiv 16) t)) (h2 : m (Str.ofString "out") = some (.ref l)) :
    PlusI total l r r2 oa ob fs gs (done ++ [(c + f + g).fmod 16]) m [(l, listOf (ys.toArray.push (.int ((c + f + g).fmod 16) u)) (n + 1)), (r, oa), (r2, ob)] := by
  refine ⟨?_, ?_, ⟨_, t, m, plus_map h1 h2, ?_⟩, ys ++ [.int ((c + f + g).fmod 16) u], n + 1, by rw [List.push_toArray], IntsAre.append hy (.cons _ _ .nil)⟩
  · rw [List.length_append, List.length_singleton]; rw [List.length_cons] at hl; omega
  · rw [List.length_cons, List.length_cons] at hg; omega
  · rw [← ht, List.append_assoc]; rfl
local macro_rules | `(tactic| walk_at $s:str) => `(tactic| k_extra $s)
theorem plus_g (w mean mg mb) {r r2 : Addr} {n n2 : Nat} {vs vs2 : List Value} {as bs : List Int} {c : Int} {tc : Tok} (h1 : IntsAre vs as) (h2 : IntsAre vs2 bs) (l1 : as.length = 8) (l2 : bs.length = 8) :
   Tc 3 w mean mg mb [(r, listOf vs.toArray n), (r2, listOf vs2.toArray n2)] 126 [.ref r, .ref r2, .int c tc] (NewRow (plusL as bs c)) := by
  k_with_none
  (k_with "enter" => (refine wpAny_call ?_; k_dflt (first | (refine' enter_fr ?k1 ?k2 ?k3 ?k4 ?k5 ?kA ?kF ?kK ?k6 ?k7 ?k8 ?k9 ?kB ?_ ?c2 ?c3 ?c4 ?c5; (case kA => exact rfl); (case kF => exact rfl); (case kK => assumption); (case k1 => k_asm); (case k2 => k_asm); (case k3 => k_asm); (case k4 => k_asm); (case k5 => k_asm); (case k6 => k_is); (case k7 => k_is); (case k8 => ktr_room); (case k9 => exact BindsTo.of_eq rfl); (case c5 => decide); (case kB => exact locs rfl); (case c2 => exact rfl); (case c3 => exact rfl); (case c4 => exact rfl); k_whole; intro g' L' h' F' N' B' X' T' kp' lq1; (try k_lt lq1); (try dsimp only); (try k_fold)) | (refine' enter_frC ?k1 ?k2 ?k3 ?k4 ?k5 ?kA ?kF ?kK ?k6 ?k7 ?k8 ?k9 ?kB ?kD ?_ ?c2 ?c3 ?c4; (case kA => exact rfl); (case kF => exact rfl); (case kK => assumption); (case k1 => k_asm); (case k2 => k_asm); (case k3 => k_asm); (case k4 => k_asm); (case k5 => k_asm); (case k6 => k_is); (case k7 => k_is); (case k8 => ktr_room); (case k9 => exact BindsTo.of_eq rfl); (case kB => exact rfl); (case kD => decide +kernel); (case c2 => exact rfl); (case c3 => exact rfl); (case c4 => exact rfl); k_whole; intro g' L' h' tk' cells' F' N' Y' B' X' T' kp' lq1; (try k_lt lq1); k_cells Y'; (try simp only [List.cons_append, List.nil_append] at N'); (try dsimp only); (try k_fold)))))
  (k_with "call type:zip" => refine Hold.of ?_)
  (k_with "exec For Tuple Call cons nil" => (k_here; (with_reducible show wpAny _ _ (exec (Stmt.For _ _ _ _ _) _) _ _ _); refine Hold.of ?_))
  (k_with "UnrEndW" => refine Hold.of ?_)
  (k_with "call builtin:list.append" => (k_here; k_dflt (refine' append_K ?F ?N ?U ?_ ?hz; (case F => k_asm); (case N => k_asm); (case U => k_upd); (case hz => with_reducible assumption); k_whole; intro h' F' N'; (try k_sweep))))
  unfold Tc
  k_fill
  intro dp un gd cn cs a ccd cl outer A₀ base h₀ L m s Q E B F X N T hk hd hu hret
  k_extra "enter"
  k_steps
  refine Hold.of' ?_
  rename Fr _ _ _ _ => lF0
  with_unfolding_all refine' For_turns lF0 ?_
  k_steps
  refine Hold.of' ?_
  rename Fr _ _ _ _ => lF'
  rename News _ _ _ _ => lN'
  with_unfolding_all refine' ktu_zip ?hh lF' lN' ?m1 ?c1 ?d1 ?m2 ?c2 ?d2 ?_
  (case hh => rfl)
  (case m1 => k_mem)
  (case m2 => k_mem)
  (case c1 => rfl)
  (case c2 => rfl)
  (case d1 => rfl)
  (case d2 => rfl)
  intro I9 l9
  have l8 := allLt_of l9
  k_lt l9
  refine' zip_loop (done := []) (PlusI (plusL as bs c) _ _ _ _ _) ?turn ?fin h1 h2 ⟨?a1, ?a2, ⟨c, tc, _, plus_map rfl rfl, rfl⟩, ⟨[], 0, rfl, .nil⟩⟩
  (case a1 => simp [l1])
  (case a2 => omega)
  case turn =>
    intro f g fs gs done m1 news1 tf tg hI T9 h9 tk9 hT9 F9
    obtain ⟨hl, hg, ⟨c9, t9, f9, hm, ht⟩, ys, n9, hn, hys⟩ := hI
    subst hm hn
    have hz : ys.toArray.size ≤ sizeLine := by
      rw [List.size_toArray, hys.length, sizeLine_eq]
      omega
    clear lF' lN'
    ktu_objs
    k_steps
    refine Hold.of' ?_
    rename Fr _ _ _ _ => uF
    rename News _ _ _ _ => uN
    refine' UnrEndW.intro uF uN [(_, _), (_, _), (_, _)] ?uI ?us ?uo ⟨?uk, _, ?uB⟩
    (case' uB => refine' PlusI.next (f := f) (g := g) hl hg ht hys ?b1 ?b2)
    (case us => k_subL)
    (case b1 => exact rfl)
    (case b2 => exact rfl)
    (case uI => k_subL)
    (case uo => exact offW_lt five_up l8)
    (case uk => k_subL)
  case fin =>
    intro fs gs done m1 news1 he hI h9 tk9 F9 N9
    obtain ⟨hl, hg, ⟨c9, t9, f9, hm, ht⟩, ys, n9, hn, hys⟩ := hI
    subst hm hn
    have hfs : fs = [] := by
      rcases he with h | h
      · exact h
      · exact List.length_eq_zero_iff.mp (by rw [hg, h]; rfl)
    rw [hfs, show plusL [] gs c9 = [] by cases gs <;> rfl, List.append_nil] at ht
    subst ht
    clear lF' lN'
    k_steps
    refine' fin1 hret ?e1 ?e2 ?e7 ?e3 ?e4 ?e8 ?e5 ?e6 (newrow (arr := ys.toArray) hys)
    (case e1 => with_reducible assumption)
    (case e2 => with_reducible assumption)
    (case e7 => k_asm)
    (case e3 => k_asm)
    (case e4 => k_asm)
    (case e8 => k_mem)
    (case e5 => lcg_sub)
    (case e6 => exact off2 (by with_reducible assumption))
end Mine
namespace Mine
open PySem PySem.W PySem.Spec PySem.Calls PyProof.Rows
set_option Elab.async false
set_option maxRecDepth 100000
set_option maxHeartbeats 8000000
/-- the figures of a number to the base 16, the last first, without noughts ahead -/
def wd : Nat → Int → List Int
  | 0, _ => []
  | k + 1, n => if n = 0 then [] else n.fmod 16 :: wd k (n.fdiv 16)
/-- Int2AP between two turns -/
def ApJ (n : Int) (k : Nat) (m : Str → Option Value) (news : Led) : Prop :=
  news = [] ∧ ∃ (f : Str → Option Value) (num : Int) (val : Array UInt8) (ks : List Int) (t1 t2 t3 : Tok),
    m = (fun y => if y = Str.ofString "num" then some (.int num t1) else if y = Str.ofString "val" then some (.bytes val t2) else if y = Str.ofString "AP" then some (.bytes #[65, 66, 67, 68, 69, 70, 71, 72, 73, 74, 75, 76, 77, 78, 79, 80] t3) else f y) ∧
    KBw.bInts val = ks ∧ ks.length + k = 8 ∧ 0 ≤ num ∧ num < 16 ^ k ∧ ks.reverse ++ (wd k num).map (65 + ·) = (wd 8 n).map (65 + ·)
theorem apJ_start {n : Int} {m : Str → Option Value} {t1 t2 t3 : Tok} (h1 : m (Str.ofString "num") = some (.int n t1)) (h2 : m (Str.ofString "val") = some (.bytes #[] t2)) (h3 : m (Str.ofString "AP") = some (.bytes #[65, 66, 67, 68, 69, 70, 71, 72, 73, 74, 75, 76, 77, 78, 79, 80] t3))
    (h0 : 0 ≤ n) (hn : n < 16 ^ 8) : ApJ n 8 m [] := by
  refine ⟨rfl, m, n, #[], [], t1, t2, t3, ?_, rfl, rfl, h0, hn, rfl⟩
  funext y
  split
  · simp_all
  · split
    · simp_all
    · split <;> simp_all
theorem apInts : KBw.bInts #[65, 66, 67, 68, 69, 70, 71, 72, 73, 74, 75, 76, 77, 78, 79, 80] = [65, 66, 67, 68, 69, 70, 71, 72, 73, 74, 75, 76, 77, 78, 79, 80] := by decide
theorem apL : ∀ m : Fin 16, List.take (clipAt [65, 66, 67, 68, 69, 70, 71, 72, 73, 74, 75, 76, 77, 78, 79, (80 : Int)].length ((m.val : Int) + 1) - clipAt [65, 66, 67, 68, 69, 70, 71, 72, 73, 74, 75, 76, 77, 78, 79, (80 : Int)].length (m.val : Int))
    (List.drop (clipAt [65, 66, 67, 68, 69, 70, 71, 72, 73, 74, 75, 76, 77, 78, 79, (80 : Int)].length (m.val : Int)) [65, 66, 67, 68, 69, 70, 71, 72, 73, 74, 75, 76, 77, 78, 79, (80 : Int)]) = [65 + (m.val : Int)] := by decide
theorem apLetter (d : Int) (h0 : 0 ≤ d) (h1 : d < 16) : List.take (clipAt [65, 66, 67, 68, 69, 70, 71, 72, 73, 74, 75, 76, 77, 78, 79, (80 : Int)].length (d + 1) - clipAt [65, 66, 67, 68, 69, 70, 71, 72, 73, 74, 75, 76, 77, 78, 79, (80 : Int)].length d)
    (List.drop (clipAt [65, 66, 67, 68, 69, 70, 71, 72, 73, 74, 75, 76, 77, 78, 79, (80 : Int)].length d) [65, 66, 67, 68, 69, 70, 71, 72, 73, 74, 75, 76, 77, 78, 79, (80 : Int)]) = [65 + d] := by
  obtain ⟨n, rfl⟩ := Int.eq_ofNat_of_zero_le h0
  exact apL ⟨n, by omega⟩
theorem apJ_turn {n num : Int} {k tk : Nat} {ks : List Int} {g h' : Heap} {L : Addr} {s : Shared} {m : Str → Option Value} {news : Led} {b : Array UInt8} {t1 t2 t3 : Tok} (F : Fr g L h' m) (N : News g L h' news)
    (h1 : m (Str.ofString "num") = some (.int (num.fdiv 16) t1)) (h2 : m (Str.ofString "val") = some (.bytes b t2)) (h3 : m (Str.ofString "AP") = some (.bytes #[65, 66, 67, 68, 69, 70, 71, 72, 73, 74, 75, 76, 77, 78, 79, 80] t3))
    (hl : ks.length + k = 8) (h0 : 0 ≤ num) (hu : num < 16 ^ k) (he : ks.reverse ++ (wd k num).map (65 + ·) = (wd 8 n).map (65 + ·)) (hz : ¬ num = 0)
    (hb : KBw.bInts b = List.take (clipAt [65, 66, 67, 68, 69, 70, 71, 72, 73, 74, 75, 76, 77, 78, 79, (80 : Int)].length (num.fmod 16 + 1) - clipAt [65, 66, 67, 68, 69, 70, 71, 72, 73, 74, 75, 76, 77, 78, 79, (80 : Int)].length (num.fmod 16))
    (List.drop (clipAt [65, 66, 67, 68, 69, 70, 71, 72, 73, 74, 75, 76, 77, 78, 79, (80 : Int)].length (num.fmod 16)) [65, 66, 67, 68, 69, 70, 71, 72, 73, 74, 75, 76, 77, 78, 79, (80 : Int)]) ++ ks) :
    WhileStep g L s (ApJ n) k .next { s with heap := h', toks := tk } := by
  have q : num.fmod 16 = num % 16 := Int.fmod_eq_emod_of_nonneg _ (by omega)
  have q2 : num.fdiv 16 = num / 16 := Int.fdiv_eq_ediv_of_nonneg _ (by omega)
  rw [apLetter _ (by omega) (by omega)] at hb
  cases k with
  | zero => exact absurd hu (by omega)
  | succ k =>
    refine WhileStep.intro F (News.nil) (Nat.lt_succ_self k) ⟨rfl, m, num.fdiv 16, b, _, t1, t2, t3, ?_, hb, ?_, ?_, ?_, ?_⟩
    · funext y
      split
      · simp_all
      · split
        · simp_all
        · split <;> simp_all
    · simp only [List.singleton_append, List.length_cons]; omega
    · omega
    · rw [Int.pow_succ] at hu; generalize (16 : Int) ^ k = p at *; omega
    · rw [← he, List.singleton_append, List.reverse_cons, List.append_assoc]
      conv => rhs; rw [wd, if_neg hz]
      rfl
theorem apJ_end {x num : Int} {k : Nat} {ks : List Int} {b : Array UInt8} (hb : KBw.bInts b = ks) (he : ks.reverse ++ (wd k num).map (65 + ·) = (wd 8 (if x < 0 then -x else x)).map (65 + ·)) (hz : num = 0) :
    KBw.bInts b = ((wd 8 x.natAbs).map (65 + ·)).reverse := by
  have e : (if x < 0 then -x else x) = (x.natAbs : Int) := by split <;> omega
  rw [e, hz] at he
  have : wd k 0 = [] := by cases k <;> simp [wd]
  rw [this, List.map_nil, List.append_nil] at he
  rw [hb, ← he, List.reverse_reverse]
local macro_rules | `(tactic| walk_at $s:str) => `(tactic| k_extra $s)
theorem ap_c (w mean mg mb) (x : Int) (t : Tok) (hx : x.natAbs < 2 ^ 32) :
   Tc 3 w mean mg mb [] 119 [.int x t] (fun v tl => tl = [] ∧ ∃ b t, v = .bytes b t ∧ KBw.bInts b = ((wd 8 x.natAbs).map (65 + ·)).reverse) := by
  k_with_none
  (k_with "enter" => (refine wpAny_call ?_; k_dflt (first | (refine' enter_fr ?k1 ?k2 ?k3 ?k4 ?k5 ?kA ?kF ?kK ?k6 ?k7 ?k8 ?k9 ?kB ?_ ?c2 ?c3 ?c4 ?c5; (case kA => exact rfl); (case kF => exact rfl); (case kK => assumption); (case k1 => k_asm); (case k2 => k_asm); (case k3 => k_asm); (case k4 => k_asm); (case k5 => k_asm); (case k6 => k_is); (case k7 => k_is); (case k8 => ktr_room); (case k9 => exact BindsTo.of_eq rfl); (case c5 => decide); (case kB => exact locs rfl); (case c2 => exact rfl); (case c3 => exact rfl); (case c4 => exact rfl); k_whole; intro g' L' h' F' N' B' X' T' kp' lq1; (try k_lt lq1); (try dsimp only); (try k_fold)) | (refine' enter_frC ?k1 ?k2 ?k3 ?k4 ?k5 ?kA ?kF ?kK ?k6 ?k7 ?k8 ?k9 ?kB ?kD ?_ ?c2 ?c3 ?c4; (case kA => exact rfl); (case kF => exact rfl); (case kK => assumption); (case k1 => k_asm); (case k2 => k_asm); (case k3 => k_asm); (case k4 => k_asm); (case k5 => k_asm); (case k6 => k_is); (case k7 => k_is); (case k8 => ktr_room); (case k9 => exact BindsTo.of_eq rfl); (case kB => exact rfl); (case kD => decide +kernel); (case c2 => exact rfl); (case c3 => exact rfl); (case c4 => exact rfl); k_whole; intro g' L' h' tk' cells' F' N' Y' B' X' T' kp' lq1; (try k_lt lq1); k_cells Y'; (try simp only [List.cons_append, List.nil_append] at N'); (try dsimp only); (try k_fold)))))
  (k_with "exec While" => (k_here; (with_reducible rename Fr _ _ _ _ => wF); (with_reducible rename News _ _ _ _ => wN); (refine' While_inv (ApJ _) wF wN (apJ_start rfl rfl rfl ?a1 ?a2) ?_; (case a1 => split <;> omega); (case a2 => split <;> omega)); intro n1 m1 news1 h1 tk1 F' N' hJ; obtain ⟨hn1, f1, num1, val1, ks1, t1, t2, t3, hm1, hb1, hl1, h01, hu1, he1⟩ := hJ; subst hn1; subst hm1; have hap := apInts))
  unfold Tc
  k_fill
  intro dp un gd cn cs a ccd cl outer A₀ base h₀ L m s Q E B F X N T hk hd hu hret
  k_extra "enter"
  k_steps
  all_goals first
    | (refine' apJ_turn ?e1 ?e2 ?r1 ?r2 ?r3 ?e3 ?e4 ?e5 ?e6 ?e7 ?e8
       (case e1 => with_reducible assumption)
       (case e2 => with_reducible assumption)
       (case r1 => exact rfl)
       (case r2 => exact rfl)
       (case r3 => exact rfl)
       (case e3 => with_reducible assumption)
       (case e4 => with_reducible assumption)
       (case e5 => with_reducible assumption)
       (case e6 => with_reducible assumption)
       (case e7 => assumption)
       (case e8 => with_reducible assumption))
    | (refine' fin0 hret ?e1 ?e2 ?e3 ?e4 (List.forall_mem_nil _) ⟨rfl, _, _, rfl, ?e6⟩
       (case e1 => with_reducible assumption)
       (case e2 => with_reducible assumption)
       (case e3 => k_asm)
       (case e4 => k_asm)
       (case e6 => (refine' apJ_end ?f1 ?f3 ?f4; (case f1 => with_reducible assumption); (case f3 => with_reducible assumption); (case f4 => with_reducible assumption))))
end Mine
namespace Mine
open PySem PySem.W PySem.Spec PySem.Calls PyProof.Rows
set_option Elab.async false
set_option maxRecDepth 100000
set_option maxHeartbeats 4000000
section
open PySem.Builtin
theorem sliced_rev (b : Array UInt8) : Bytes.sliced b ((b.size : Int) - 1) (-1) (-1) = b.toList.reverse.toArray := by
  show ((sliceRange ((b.size : Int) - 1) (-1) (-1)).filterMap (b[·]?)).toArray = _
  rw [krv_sliceRange, krv_range, List.filterMap_reverse, krv_all]
/-- b[::-1] -/
theorem meets_rev (b : Array UInt8) (t u : Tok) (a : Addr) :
    Meets («bytes.__getitem__» ⟨[.bytes b t, .ref a], []⟩) (fun _ R s => s.heap.IsSliceOf a .none .none (.int (-1) u) ∧ b.size ≤ sizeLine ∧ ∀ t' k, R (.ok (.ret (.bytes b.toList.reverse.toArray t'))) { s with toks := k }) := by
  refine .of_wp fun prog w A R s hS => ?_
  obtain ⟨⟨o, ho, hc, hd⟩, hsz, h⟩ := hS
  have hT : s.TypeIs (.ref a) "slice" := ⟨o, ho, hc⟩
  show wpAny _ _ (Bytes.payload (.bytes b t) >>= fun r => _) _ _ s
  refine wpAny_bind (wpAny_of_eq (a := b) rfl ?_)
  show wpAny _ _ (Bytes.subscript? (.ref a) >>= fun r => _) _ _ s
  refine wpAny_bind ?_
  unfold Bytes.subscript?
  refine wpAny_bind (wpAny_specialOf hT slice_no_index (wpAny_pure ?_))
  refine wpAny_bind (wpAny_typeOf hT ?_)
  show wpAny _ _ (Bytes.sliceParts (.ref a) >>= fun r => _) _ _ s
  refine wpAny_bind ?_
  unfold Bytes.sliceParts
  refine wpAny_bind (wpAny_field (x := .int (-1) u) ho hd rfl ?_)
  refine wpAny_bind (wpAny_ite (KBy.ite_no (show ¬ ((Value.int (-1) u == Value.none) = true) from Bool.false_ne_true) ?_))
  refine wpAny_bind (wpAny_specialOf (T := "int") (typeIs_int _ _ _) F.slot_int_index.lookup ?_)
  refine wpAny_ite (KBy.ite_no (show ¬ (Option.isNone (some _) = true) from Bool.false_ne_true) ?_)
  refine wpAny_bind (wpAny_of_eq rfl (wpAny_pure ?_))
  refine wpAny_ite (KBy.ite_no (show ¬ ((rawInt (-1) == rawInt 0) = true) from by decide) ?_)
  refine wpAny_bind (wpAny_field (x := .none) ho hd rfl ?_)
  refine wpAny_bind (wpAny_of_eq (a := Value.none) rfl ?_)
  refine wpAny_bind (wpAny_field (x := .none) ho hd rfl ?_)
  refine wpAny_bind (wpAny_of_eq (a := Value.none) rfl ?_)
  refine wpAny_pure ?_
  refine wpAny_bind (wpAny_of_eq (sliceIndices_raw none none (some (-1)) b.size (by decide)) ?_)
  rw [krv_bounds]
  have hn : ¬ ((((b.size : Int) - 1 == 0 && (-1 : Int) == 1) && (-1 : Int) == (b.size : Int) && !b.isEmpty) = true) := by simp
  refine wpAny_ite (KBy.ite_no hn ?_)
  have e := sliced_rev b
  refine wpAny_bind (wpAny_mkBytes (wpAny_pure ⟨_, rfl, ?_⟩) ?_)
  · show R (.ok (.ret (.bytes (Bytes.sliced b ((b.size : Int) - 1) (-1) (-1)) _))) _
    rw [e]; exact h _ _
  · show (Bytes.sliced b ((b.size : Int) - 1) (-1) (-1)).size ≤ sizeLine
    rw [e]; simpa using hsz
end
section
variable {prog : Program} {w : World} {A : Around} {E : Value → Shared → Prop} {s : Shared} {value slice : PySem.Expr} {b : Array UInt8} {t u : Tok} {h₀ : Heap} {L : Addr} {m : PySem.Str → Option Value} {news : Led} {Q : Value → Shared → Prop} {ks : List Int}
theorem rev_K (hF : Fr h₀ L s.heap m) (hN : News h₀ L s.heap news) (hk : KBw.bInts b = ks) (hz : ks.length ≤ 16777216)
    (h : ∀ h' t' k, Fr h₀ L h' m → News h₀ L h' news → KBw.bInts b.toList.reverse.toArray = ks.reverse → Q (.bytes b.toList.reverse.toArray t') { s with heap := h', toks := k })
    (hs : subscripted slice false (.bytes b t) (.ref s.heap.objs.size) = operate [.ref s.heap.objs.size, .bytes b t] (getItem (.bytes b t) (.ref s.heap.objs.size)) := by with_unfolding_all rfl)
    (ht : ∀ r, letTemporaryGo value (.bytes b t) r = pure () := by intro _; with_unfolding_all rfl) :
    wpAny (model prog w) A (subscriptTail value slice (.bytes b t) (.ref s.heap.objs.size)) Q E { s with heap := s.heap.push { cls := .type "slice", data := .fields #[.none, .none, .int (-1) u] } } := by
  refine tail_of_ItemOn ⟨"bytes", _, FB.slot_bytes_getitem.lookup, typeIs_bytes _ _ _, getItem_meets (typeIs_bytes _ _ _) (by decide) FB.slot_bytes_getitem FB.entry_bytes_getitem (FB.args_bytes_getitem_2 _ _) (meets_rev b t u _) ⟨Heap.IsSliceOf.new _ _ _ _, ?_, fun t' k => ?_⟩⟩ hs ht
  · rw [← KBw.ints_length b, hk, sizeLine_eq]; exact hz
  · exact h _ t' k (hF.push _) (News.pushKeep hN _) (by rw [← hk]; simp [KBw.bInts])
end
section
variable {prog : Program} {w : World} {A : Around} {E : Value → Shared → Prop} {s : Shared} {h₀ : Heap} {L : Addr} {m : PySem.Str → Option Value} {env : Env}
/-- a comprehension's source that is bytes -/
def SrcB (prog : Program) (w : World) (A : Around) (h₀ : Heap) (L : Addr) (m : PySem.Str → Option Value) (env : Env) (elt : Expr) (x : PySem.Str) (scope : Scope) (cl : List (PySem.Str × Addr)) (Fin : Shared → List Value → Led → Prop) (xv : Value) (s₁ : Shared) : Prop :=
  ∃ b t news, xv = .bytes b t ∧ A.handled = none ∧ Fr h₀ L s₁.heap m ∧ News h₀ L s₁.heap news ∧ b.size ≤ sizeLine ∧
    ∀ h, LCg.CompRest prog w A h₀ L m env elt x scope cl { s₁ with heap := h } (fun _ => True) (fun i v => ∃ c u, b[i]? = some c ∧ v = .int (c.toNat : Int) u) (Fin { s₁ with heap := h }) b.size 0 [] news
theorem assign_comp_bytes {elt iter : Expr} {x y : PySem.Str} {px py : Pos} {scope : Scope} {cl : List (PySem.Str × Addr)} {pos spos : Pos} {Q : Flow → Shared → Prop} (_F₀ : Fr h₀ L s.heap m) (hLe : env.locals = L)
    (hsw : swapsWith (.ListComp elt [⟨.Name x px, iter, [], 0⟩] scope pos) (some (.Name y py)) spos.line env = pure true)
    (hclos : closureFor scope env = pure cl) (hcell : ∀ z ∈ scope.names, z.2 ≠ .cell) (hkind : scope.kind = .function)
    (hnames : ∀ z ∈ scope.names, z.2 = .local → scope.names.lookup z.1 = some .local) (hx : scope.names.lookup x = some .local)
    (hy : env.kindOf y = some .local) (hp : (env.scope.kind == .class || (env.scope.kind == .module && env.locals != env.globals)) = false)
    (hs : ∀ x, foldedSetIterable iter env x = pure x)
    (h : wpAny (model prog w) A (eval iter env) (SrcB prog w A h₀ L m env elt x scope cl (fun s₂ => LCg.FinA h₀ L m s₂ y Q)) E s) :
    wpAny (model prog w) A (exec (.Assign [.Name y py] (.ListComp elt [⟨.Name x px, iter, [], 0⟩] scope pos) spos) env) Q E s := by
  subst hLe
  rw [exec_Assign_Name_used _ _ _ _ hsw]
  refine wpAny_bind (wpAny_standAt (wpAny_bind ?_))
  show wpAny _ A (do let _ ← comprehension (.ListComp elt [⟨.Name x px, iter, [], 0⟩] scope pos) scope env _ (newList []) false (eval iter env) (some (assign (.Name y py) env))) _ _ s
  refine wpAny_bind (wpAny_mono (wpAny_comprehension_free (use := some (assign (.Name y py) env)) (Q := fun _ s' => Q .next s') rfl hs hclos hkind hnames
    (wpAny_mono h (fun xv s₁ h₁ => ?_) fun _ _ e => e)) (fun _ s' hq => wpAny_pure (wpAny_pure hq)) fun _ _ e => e)
  obtain ⟨b, t, news, rfl, hh, F, N, hsz, R⟩ := h₁
  refine KBw.pyIter_bytes ?_
  have old : ∀ c o, s₁.heap.get? c = some o → (s₁.heap.push { cls := .type "bytes_iterator", data := .fields #[.bytes b t, .int 0 0] }).get? c = some o := fun c o e => Heap.get?_push_of_some _ e
  refine LCg.block_U (KBw.walks hh s₁.heap.objs.size b t) hsz (fun i h ⟨o, e, _⟩ => ⟨o, e⟩) (fun i h h' o nw st e e' _ _ _ => ?_) hcell hkind hx ⟨_, Heap.get?_push_size _ rfl, rfl, rfl⟩ (fun c hc => ?_)
    (F.keeps old) (N.grown old) (Nat.ne_of_lt F.ns.lt) (next_is_new F) (fun p hp => Nat.ne_of_lt (Heap.lt_size (N p hp).1)) trivial (R _) ?_
  · obtain ⟨o', q, r⟩ := st
    rw [e] at q
    exact ⟨o, e', (Option.some.inj q).symm ▸ r⟩
  · rw [List.mem_singleton.mp hc]
    show s₁.heap.objs.size < (s₁.heap.push _).objs.size
    rw [Heap.size_push]
    exact Nat.lt_succ_self _
  · intro D C h' tk m' ys news' F' N' o1 hn hC₀ hD₀ hCL hDL hCD offC fin
    show wpAny _ A (assign (.Name y py) env (.ref D)) _ _ _
    refine wpAny_assign_Name (wpAny_storeName_local hy F'.ns (fun h₂ hn₂ hs₂ => ?_) hp)
    refine ⟨m', hn.sameBut hs₂ hCL, fun h₃ hs₃ => fin D h₃ _ ((F'.set hn₂ hs₂).change hs₃ hCL hC₀) (fun p hp => ⟨hs₃.extBut _ _ ?_ (hs₂.extBut _ _ (N' p hp).2.1 (N' p hp).1), (N' p hp).2⟩) o1⟩
    rcases List.mem_cons.mp hp with e | hp
    · rw [e]; exact Ne.symm hCD
    · exact offC p hp
/-- its turns: the element a function of the octet -/
theorem SrcB.intro {elt : Expr} {x : PySem.Str} {scope : Scope} {cl : List (PySem.Str × Addr)} {Fin : Shared → List Value → Led → Prop} {b : Array UInt8} {t : Tok} {ks : List Int} {news : Led} {s₁ : Shared} (g : Int → Int)
    (hh : A.handled = none) (F : Fr h₀ L s₁.heap m) (N : News h₀ L s₁.heap news) (hk : KBw.bInts b = ks) (hsz : ks.length ≤ 16777216)
    (turn : ∀ h₁ k t I oI C oC D m₂ ys h tk (E' : Value → Shared → Prop), k ∈ ks → LCg.NsObj oC m₂ → m₂ x = some (.int k t) → Fr h₀ L h m → News h₀ L h ((I, oI) :: (C, oC) :: (D, LCg.lst ys) :: news) → LCg.Off3 I C D news → ((@Ne Nat I C) ∧ (@Ne Nat I D) ∧ (@Ne Nat C D)) → True →
      wpAny (model prog w) A (eval elt (compEnvC scope cl C env)) (LCg.CompEnd h₀ L m { ({ s₁ with heap := h₁ } : Shared) with heap := h, toks := tk } I oI C oC D (LCg.lst ys) (fun _ => True) (fun y news' => KCfEl news (g k) y news')) E' { ({ s₁ with heap := h₁ } : Shared) with heap := h, toks := tk })
    (fin : ∀ h ys, IntsAre ys (ks.map g) → Fin { s₁ with heap := h } ys news) : SrcB prog w A h₀ L m env elt x scope cl Fin (.bytes b t) s₁ := by
  refine ⟨b, t, news, rfl, hh, F, N, ?_, fun h => ?_⟩
  · rw [← KBw.ints_length b, hk, sizeLine_eq]; exact hsz
  · exact kcf_rest (ks := ks) g (by rw [← hk, KBw.ints_length]) (fun i v hi ⟨c, u, hc, hv⟩ => ⟨_, u, hk ▸ KBw.ints_get hc, hv⟩) (fun k t I oI C oC D m₂ ys h' tk E' hm hC hx F' N' off ne mk => turn h k t I oI C oC D m₂ ys h' tk E' hm hC hx F' N' off ne trivial) (fin h)
end
end Mine
namespace Mine
open PySem PySem.W PySem.Spec PySem.Calls PyProof.Rows
set_option Elab.async false
set_option maxRecDepth 100000
/-- the last k figures of a number to the base 16, the last first -/
def digs : Nat → Int → List Int
  | 0, _ => []
  | k + 1, n => n % 16 :: digs k (n / 16)
theorem digs_zero : ∀ k, digs k 0 = List.replicate k 0
  | 0 => rfl
  | k + 1 => by rw [digs, List.replicate_succ]; simp [digs_zero k]
theorem wd_digs : ∀ (k : Nat) (n : Int), 0 ≤ n → n < 16 ^ k → wd k n ++ List.replicate (k - (wd k n).length) 0 = digs k n
  | 0, _, _, _ => rfl
  | k + 1, n, h0, h1 => by
    have q : n.fmod 16 = n % 16 := Int.fmod_eq_emod_of_nonneg _ (by omega)
    have q2 : n.fdiv 16 = n / 16 := Int.fdiv_eq_ediv_of_nonneg _ (by omega)
    unfold wd
    split
    · rename_i e
      rw [e, digs_zero]; rfl
    · rw [List.cons_append, List.length_cons, Nat.add_sub_add_right, digs, q, q2]
      congr 1
      refine wd_digs k (n / 16) (by omega) ?_
      rw [Int.pow_succ] at h1; generalize (16 : Int) ^ k = p at *; omega
theorem map_back (l : List Int) : ((l.map (65 + ·)).reverse.reverse).map (fun k => k - 65) = l := by
  rw [List.reverse_reverse, List.map_map]
  conv => rhs; rw [← List.map_id l]
  apply List.map_congr_left
  intro a _
  show 65 + a - 65 = a
  omega
theorem flat_rep (k : Nat) : (List.replicate k [(0 : Int)]).flatten = List.replicate k 0 := by
  induction k with
  | zero => rfl
  | succ k ih => rw [List.replicate_succ, List.flatten_cons, ih]; rfl
theorem rowInts {x : Int} {ks : List Int} {ws : List Value} (hx : x.natAbs < 2 ^ 32) (hk : ks = ((wd 8 x.natAbs).map (65 + ·)).reverse) (hI : IntsAre ws (List.map (fun k => k - 65) ks.reverse ++ (List.replicate (8 - (ks.length : Int)).toNat [0]).flatten)) :
    ∃ d0 d1 d2 d3 d4 d5 d6 d7, digs 8 x.natAbs = [d0, d1, d2, d3, d4, d5, d6, d7] ∧ IntsAre ws [d0, d1, d2, d3, d4, d5, d6, d7] ∧ ws.length = 8 ∧ (0 ≤ d0 ∧ d0 < 16) ∧ (0 ≤ d1 ∧ d1 < 16) ∧ (0 ≤ d2 ∧ d2 < 16) ∧ (0 ≤ d3 ∧ d3 < 16) ∧ (0 ≤ d4 ∧ d4 < 16) ∧ (0 ≤ d5 ∧ d5 < 16) ∧ (0 ≤ d6 ∧ d6 < 16) ∧ (0 ≤ d7 ∧ d7 < 16) := by
  have e : List.map (fun k => k - 65) ks.reverse ++ (List.replicate (8 - (ks.length : Int)).toNat [0]).flatten = digs 8 x.natAbs := by
    rw [hk, map_back, flat_rep, List.length_reverse, List.length_map, ← wd_digs 8 x.natAbs (by omega) (by omega)]
    congr 2
    omega
  rw [e] at hI
  have hl := hI.length
  refine ⟨_, _, _, _, _, _, _, _, rfl, hI, hl, ?_⟩
  omega
/-- the figures at the head of the word are no noughts -/
theorem wd_last : ∀ (k : Nat) (n : Int), 0 ≤ n → n < 16 ^ k → ∀ d, (wd k n).getLast? = some d → d ≠ 0
  | 0, _, _, _, _, h => by simp [wd] at h
  | k + 1, n, h0, h1, d, h => by
    have q : n.fmod 16 = n % 16 := Int.fmod_eq_emod_of_nonneg _ (by omega)
    have q2 : n.fdiv 16 = n / 16 := Int.fdiv_eq_ediv_of_nonneg _ (by omega)
    unfold wd at h
    split at h
    · simp at h
    · rename_i hz
      have h2 : n / 16 < 16 ^ k := by rw [Int.pow_succ] at h1; generalize (16 : Int) ^ k = p at *; omega
      rw [q2] at h
      cases hw : wd k (n / 16) with
      | nil =>
        rw [hw] at h
        have e : d = n % 16 := by simpa [q] using h.symm
        have e2 : n / 16 = 0 := by
          cases k with
          | zero => simp at h2; omega
          | succ k =>
            unfold wd at hw
            split at hw
            · assumption
            · cases hw
        omega
      | cons a r =>
        rw [hw, List.getLast?_cons_cons] at h
        exact wd_last k (n / 16) (by omega) h2 d (by rw [hw]; exact h)
theorem noA {x : Int} {ks : List Int} {b : Array UInt8} (hx : x.natAbs < 2 ^ 32) (hk : ks = ((wd 8 x.natAbs).map (65 + ·)).reverse) (hb : KBw.bInts (KBy.picked b none (some 1)) = List.take (clipAt ks.length 1) ks) (he : ((KBy.picked b none (some 1)).toList == #[(65 : UInt8)].toList) = true) : False := by
  have e : (KBy.picked b none (some 1)).toList = [65] := by simpa using he
  have e2 : KBw.bInts (KBy.picked b none (some 1)) = [65] := by rw [KBw.bInts, e]; rfl
  rw [e2] at hb
  cases hw : ks with
  | nil => rw [hw] at hb; simp at hb
  | cons a r =>
    rw [hw] at hb
    have : clipAt (a :: r).length 1 = 1 := by
      have := clipAt_nat (a :: r).length 1
      rw [show ((1 : Nat) : Int) = 1 from rfl] at this
      rw [this, List.length_cons]; omega
    rw [this] at hb
    have ea : a = 65 := by simpa using hb.symm
    subst ea
    have hl : ((wd 8 x.natAbs).map (65 + ·)).getLast? = some 65 := by
      have := congrArg List.head? (hw.symm.trans hk)
      rw [List.head?_reverse] at this
      exact this.symm
    rw [List.getLast?_map] at hl
    cases hd : (wd 8 (x.natAbs : Int)).getLast? with
    | none => rw [hd] at hl; simp at hl
    | some d =>
      rw [hd] at hl
      have := wd_last 8 x.natAbs (by omega) (by omega) d hd
      simp at hl
      omega
theorem plus_digs : ∀ (k : Nat) (x y c : Int), plusL (digs k x) (digs k y) c = digs k (x + y + c)
  | 0, _, _, _ => rfl
  | k + 1, x, y, c => by
    have q : ∀ z : Int, z.fmod 16 = z % 16 := fun z => Int.fmod_eq_emod_of_nonneg _ (by omega)
    have q2 : ∀ z : Int, z.fdiv 16 = z / 16 := fun z => Int.fdiv_eq_ediv_of_nonneg _ (by omega)
    rw [digs, digs, digs, plusL, q, q2, plus_digs k]
    congr 1
    · omega
    · congr 1; omega
theorem inv_digs : ∀ (k : Nat) (x : Int), (digs k x).map (fun k' => 15 - k') = digs k (-x - 1)
  | 0, _ => rfl
  | k + 1, x => by
    rw [digs, digs, List.map_cons, inv_digs k]
    congr 1
    · omega
    · congr 1; omega
theorem digs_len : ∀ (k : Nat) (x : Int), (digs k x).length = k
  | 0, _ => rfl
  | k + 1, x => by rw [digs, List.length_cons, digs_len k]
theorem off_of {d : Addr} {o : Obj} {news : Led} (h : ∀ p ∈ [(d, o)], ∀ q ∈ news, q.1 ≠ p.1) : LCg.Off1 d news := by
  have h := h (d, o) (.head _)
  induction news with
  | nil => trivial
  | cons p r ih => exact ⟨h p (.head _), ih (fun _ _ q hq => by rename_i hp; rw [List.mem_singleton.mp hp]; exact h q (.tail _ hq)) fun q hq => h q (.tail _ hq)⟩
theorem row_pos {x : Int} {d0 d1 d2 d3 d4 d5 d6 d7 : Int} {ws : List Value} (hd : digs 8 x.natAbs = [d0, d1, d2, d3, d4, d5, d6, d7]) (h : IntsAre ws [d0, d1, d2, d3, d4, d5, d6, d7]) (hx : ¬ x < 0) : IntsAre ws (digs 8 x) := by
  have e : (x.natAbs : Int) = x := by omega
  rw [← hd, e] at h
  exact h
theorem row_neg {x : Int} {d0 d1 d2 d3 d4 d5 d6 d7 : Int} {ws : List Value} {zs : List Int} (hd : digs 8 x.natAbs = [d0, d1, d2, d3, d4, d5, d6, d7]) (h : IntsAre ws (plusL (List.map (fun k' => 15 - k') [d0, d1, d2, d3, d4, d5, d6, d7]) zs 1)) (hz : zs = List.replicate 8 0) (hx : x < 0) : IntsAre ws (digs 8 x) := by
  have e : (x.natAbs : Int) = -x := by omega
  rw [← hd, e, inv_digs, hz, ← digs_zero, plus_digs] at h
  have e2 : - -x - 1 + 0 + 1 = x := by omega
  rw [e2] at h
  exact h
end Mine
namespace Mine
open PySem PySem.W PySem.Spec PySem.Calls PyProof.Rows
set_option Elab.async false
set_option maxRecDepth 100000
set_option maxHeartbeats 8000000
/-- what Int2AP gives back -/
def ApOut (x : Int) (v : Value) (tl : Led) : Prop := tl = [] ∧ ∃ b t ks, v = .bytes b t ∧ KBw.bInts b = ks ∧ ks.length ≤ 8 ∧ ks = ((wd 8 x.natAbs).map (65 + ·)).reverse
theorem wd_len : ∀ (k : Nat) (n : Int), (wd k n).length ≤ k
  | 0, _ => Nat.le_refl _
  | k + 1, n => by
    unfold wd
    split
    · exact Nat.zero_le _
    · exact Nat.succ_le_succ (wd_len k _)
theorem ap_c2 (w mean mg mb) (x : Int) (t : Tok) (hx : x.natAbs < 2 ^ 32) : Tc 3 w mean mg mb [] 119 [.int x t] (ApOut x) := by
  intro dp un gd cn cs a ccd cl outer A₀ base h₀ L m s Q E B F X N T hk hd hu hret
  refine ap_c w mean mg mb x t hx dp un gd cn cs a ccd cl outer A₀ base h₀ L m s Q E B F X N T hk hd hu fun r tl h' tk' f n k fr p => hret r tl h' tk' f n k fr ?_
  obtain ⟨e, b, t, e2, hb⟩ := p
  exact ⟨e, b, t, _, e2, hb, by rw [List.length_reverse, List.length_map]; exact wd_len _ _, rfl⟩
local macro_rules | `(tactic| walk_at $s:str) => `(tactic| k_extra $s)
theorem row_c (w mean mg mb) (x : Int) (t : Tok) (hx : x.natAbs < 2 ^ 32) :
   Tc 4 w mean mg mb [] 131 [.int x t] (NewRow (digs 8 x)) := by
  k_with_none
  (k_with "enter" => (refine wpAny_call ?_; k_dflt (first | (refine' enter_fr ?k1 ?k2 ?k3 ?k4 ?k5 ?kA ?kF ?kK ?k6 ?k7 ?k8 ?k9 ?kB ?_ ?c2 ?c3 ?c4 ?c5; (case kA => exact rfl); (case kF => exact rfl); (case kK => assumption); (case k1 => k_asm); (case k2 => k_asm); (case k3 => k_asm); (case k4 => k_asm); (case k5 => k_asm); (case k6 => k_is); (case k7 => k_is); (case k8 => ktr_room); (case k9 => exact BindsTo.of_eq rfl); (case c5 => decide); (case kB => exact locs rfl); (case c2 => exact rfl); (case c3 => exact rfl); (case c4 => exact rfl); k_whole; intro g' L' h' F' N' B' X' T' kp' lq1; (try k_lt lq1); (try dsimp only); (try k_fold)) | (refine' enter_frC ?k1 ?k2 ?k3 ?k4 ?k5 ?kA ?kF ?kK ?k6 ?k7 ?k8 ?k9 ?kB ?kD ?_ ?c2 ?c3 ?c4; (case kA => exact rfl); (case kF => exact rfl); (case kK => assumption); (case k1 => k_asm); (case k2 => k_asm); (case k3 => k_asm); (case k4 => k_asm); (case k5 => k_asm); (case k6 => k_is); (case k7 => k_is); (case k8 => ktr_room); (case k9 => exact BindsTo.of_eq rfl); (case kB => exact rfl); (case kD => decide +kernel); (case c2 => exact rfl); (case c3 => exact rfl); (case c4 => exact rfl); k_whole; intro g' L' h' tk' cells' F' N' Y' B' X' T' kp' lq1; (try k_lt lq1); k_cells Y'; (try simp only [List.cons_append, List.nil_append] at N'); (try dsimp only); (try k_fold)))))
  (k_with "call ref" => (k_here; (with_reducible show wpAny _ _ (call (Value.ref 119) _) _ _ _); k_dflt (refine' Tc.use (ap_c2 _ _ _ _ _ _ ?ux) ?k1 ?k2 ?k3 ?k4 ?k5 ?kK ?ks ?kd ?ku ?_; (case ux => omega); (case k1 => k_asm); (case k2 => k_asm); (case k3 => k_asm); (case k4 => k_asm); (case k5 => k_asm); (case kK => first | exact rfl | assumption); (case ks => lcg_sub); (case kd => ktr_room); (case ku => ktr_units); k_whole; intro r9 tl9 h9 tk9 F9 N9 o9 p9; obtain ⟨e9, b9, t9, ks9, e8, hb9, hl9, hk9⟩ := p9; subst e9; subst e8; (try simp only [List.nil_append] at N9); clear o9; (try dsimp only); (try k_fold))))
  (k_with "call type:type" => ((with_reducible show wpAny _ _ (call _ [Value.bytes _ _]) _ _ _); refine call_type_of (Tx := "bytes") (typeIs_bytes _ _ _) (by decide +kernel) ?_))
  (k_with "subscriptTail" => (k_here; (with_reducible show wpAny _ _ (subscriptTail _ (Expr.Slice none none (some _) _) (Value.bytes _ _) (Value.ref _)) _ _ _); (with_reducible rename Fr _ _ _ _ => F'); (with_reducible rename News _ _ _ _ => N'); (refine rev_K (s := ⟨_, _, _, _, _⟩) F' N' (by kba_ints) (by omega) ?_); intro _ _ _ _ _ revK))
  (k_with "exec Assign cons ListComp" => (k_here; (with_reducible show wpAny _ _ (exec (Stmt.Assign [Expr.Name _ _] (Expr.ListComp _ [⟨_, Expr.Subscript _ (Expr.Slice none none (some _) _) _, _, _⟩] _ _) _) _) _ _ _); k_dflt (refine assign_comp_bytes (by k_asm) (by rfl) (by with_unfolding_all rfl) (by rfl) (by decide) (by rfl) (by decide) (by rfl) (by rfl) (by rfl) (by intro _; rfl) ?_)))
  (k_with "SrcB" => (k_here; k_dflt (refine' SrcB.intro (fun k => k - 65) ?a ?b ?c ?d ?e ?turn ?fin; (case a => exact rfl); (case b => k_asm); (case c => k_asm); (case d => with_reducible assumption); (case e => (rw [List.length_reverse]; omega)); (case' turn => (intro h1 k' t' I' oI' C' oC' D' m' ys' h' tk' E' hk' hC' hx' F' N' off' ne' hMark'; (try simp only [LCg.Off3, and_true] at off'))); (case' fin => (intro h1 ys hI8; have hL8 := IntsAre.length hI8; simp only [List.length_map, List.length_reverse] at hL8)))))
  (k_with "KCfEl" => exact ⟨rfl, _, rfl⟩)
  (k_with "call builtin:len" => (k_here; (with_reducible show wpAny _ _ (call (Value.builtin "len") [Value.ref _]) _ _ _); k_dflt (refine' KM.len_K ?kN ?kM ?kS ?kF ?_; (case kN => k_asm); (case kM => k_mem); (case kS => exact List.size_toArray.trans (by with_reducible assumption)); (case kF => omega); k_whole)))
  (k_with "call builtin:min" => (k_here; (with_reducible show wpAny _ _ (call (Value.builtin _) [Value.ref _]) _ _ _); (with_reducible rename IntsAre _ (_ ++ _) => hQ); have hR := rowInts (by assumption) (by with_reducible assumption) hQ; clear hQ; obtain ⟨d0, d1, d2, d3, d4, d5, d6, d7, hdE, hR8, hL8, b0, b1, b2, b3, b4, b5, b6, b7⟩ := hR; k_dflt (refine' kso_min ?k1 ?k2 ?k3 ?k4 ?k5 ?k6 ?_; (case k1 => k_asm); (case k2 => k_asm); (case k3 => exact News.isList (by k_asm) (by k_mem)); (case k4 => with_reducible assumption); (case k5 => exact Nat.succ_pos _); (case k6 => with_unfolding_all rfl); k_whole); intro h' M' t' k' F' N' a' b'; (try kso_open a'); (clear b'); (try k_sweep)))
  (k_with "call builtin:max" => (k_here; (with_reducible show wpAny _ _ (call (Value.builtin _) [Value.ref _]) _ _ _); k_dflt (refine' kso_max ?k1 ?k2 ?k3 ?k4 ?k5 ?k6 ?_; (case k1 => k_asm); (case k2 => k_asm); (case k3 => exact News.isList (by k_asm) (by k_mem)); (case k4 => with_reducible assumption); (case k5 => exact Nat.succ_pos _); (case k6 => with_unfolding_all rfl); k_whole); intro h' M' t' k' F' N' a' b'; (try kso_open a'); (clear b'); (try k_sweep)))
  (k_with "call ref" => (k_here; (with_reducible show wpAny _ _ (call (Value.ref 126) _) _ _ _); k_dflt (refine' Tc.use (plus_g _ _ _ _ ?h1 ?h2 ?l1 ?l2) ?k1 ?k2 ?k3 ?k4 ?k5 ?kK ?ks ?kd ?ku ?_; (case k1 => k_asm); (case k2 => k_asm); (case k3 => k_asm); (case k4 => k_asm); (case k5 => k_asm); (case kK => first | exact rfl | assumption); (case ks => lcg_sub); (case h1 => with_reducible assumption); (case h2 => with_reducible assumption); (case l1 => first | exact rfl | simp); (case l2 => first | exact rfl | simp); (case kd => ktr_room); (case ku => ktr_units); k_whole; intro r9 tl9 h9 tk9 F9 N9 o9 p9; obtain ⟨d9, ys9, n9, e8, e9, hi9⟩ := p9; subst e8; subst e9; (try simp only [List.nil_append, List.cons_append] at N9); (replace o9 := off_of o9); (try simp only [LCg.Off1, and_true] at o9); (try dsimp only); (try k_fold))))
  unfold Tc
  k_fill
  intro dp un gd cn cs a ccd cl outer A₀ base h₀ L m s Q E B F X N T hk hd hu hret
  k_extra "enter"
  k_steps
  all_goals first
    | (exfalso; exact noA (by assumption) (by with_reducible assumption) (by with_reducible assumption) (by with_reducible assumption))
    | (refine' fin1 hret ?e1 ?e2 ?e7 ?e3 ?e4 ?e8 ?e5 ?e6 (newrow ?e9)
       (case e1 => with_reducible assumption)
       (case e2 => with_reducible assumption)
       (case e7 => k_asm)
       (case e3 => k_asm)
       (case e4 => k_asm)
       (case e8 => k_mem)
       (case e5 => exact List.forall_mem_nil _)
       (case e6 => exact List.forall_mem_nil _)
       (case e9 => first | exact row_pos (by with_reducible assumption) (by with_reducible assumption) (by assumption) | exact row_neg (by with_reducible assumption) (by with_reducible assumption) (by simp) (by assumption)))
end Mine
namespace Mine
open PySem PySem.W PySem.Spec PySem.Calls PyProof.Rows
set_option Elab.async false
set_option maxRecDepth 100000
set_option maxHeartbeats 8000000
theorem sign7 {n : Int} (h0 : -268435456 ≤ n) (h1 : n < 268435456) : ∃ d0 d1 d2 d3 d4 d5 d6 d7, digs 8 n = [d0, d1, d2, d3, d4, d5, d6, d7] ∧ ((n < 0 ∧ d7 = 15) ∨ (0 ≤ n ∧ d7 = 0)) := by
  refine ⟨_, _, _, _, _, _, _, _, rfl, ?_⟩
  omega
theorem yes_of {c : Prop} [Decidable c] {X Y : Prop} (hc : c) (h : X) : if c then X else Y := by rw [if_pos hc]; exact h
theorem eq_rows {prog : Program} {w : World} {A : Around} {E : Value → Shared → Prop} {s : Shared} {a b : Addr} {xs ys : List Value} {ns ms : List Int} {Q : Value → Shared → Prop} (ha : s.heap.IsList a xs.toArray) (hb : s.heap.IsList b ys.toArray) (hi : IntsAre xs ns) (hj : IntsAre ys ms) (e : ns = ms) (hu : A.units + 64 < cLine) (h : Q (.bool true) s) :
    wpAny (model prog w) A (compareOp .Eq (.ref a) (.ref b)) Q E s := by
  refine ke_eq_ints ha hb hi hj hu ?_
  rw [e, decide_eq_true rfl]
  exact h
local macro_rules | `(tactic| walk_at $s:str) => `(tactic| k_extra $s)
theorem told_c (w mean mg mb) {r : Addr} {c : Nat} {vs : List Value} {n : Int} {t : Tok} (hv : IntsAre vs (digs 8 n)) (h0 : -268435456 ≤ n) (h1 : n < 268435456) :
   Tc 5 w mean mg mb [(r, listOf vs.toArray c)] 153 [.int n t, .ref r] (fun v tl => tl = [] ∧ v = .bool true) := by
  obtain ⟨d0, d1, d2, d3, d4, d5, d6, d7, hd, h7⟩ := sign7 h0 h1
  rw [hd] at hv
  obtain ⟨t0, t1, t2, t3, t4, t5, t6, t7, rfl⟩ := ints8 hv
  have hc : (decide (n < 0) == ([d0, d1, d2, d3, d4, d5, d6, d7].getD (Int.toNat 7) 0 == 15)) = true := by
    show (decide (n < 0) == (d7 == 15)) = true
    rcases h7 with ⟨a, b⟩ | ⟨a, b⟩
    · simp [a, b]
    · simp [a, b]
  k_with_none
  (k_with "enter" => (refine wpAny_call ?_; k_dflt (first | (refine' enter_fr ?k1 ?k2 ?k3 ?k4 ?k5 ?kA ?kF ?kK ?k6 ?k7 ?k8 ?k9 ?kB ?_ ?c2 ?c3 ?c4 ?c5; (case kA => exact rfl); (case kF => exact rfl); (case kK => assumption); (case k1 => k_asm); (case k2 => k_asm); (case k3 => k_asm); (case k4 => k_asm); (case k5 => k_asm); (case k6 => k_is); (case k7 => k_is); (case k8 => ktr_room); (case k9 => exact BindsTo.of_eq rfl); (case c5 => decide); (case kB => exact locs rfl); (case c2 => exact rfl); (case c3 => exact rfl); (case c4 => exact rfl); k_whole; intro g' L' h' F' N' B' X' T' kp' lq1; (try k_lt lq1); (try dsimp only); (try k_fold)) | (refine' enter_frC ?k1 ?k2 ?k3 ?k4 ?k5 ?kA ?kF ?kK ?k6 ?k7 ?k8 ?k9 ?kB ?kD ?_ ?c2 ?c3 ?c4; (case kA => exact rfl); (case kF => exact rfl); (case kK => assumption); (case k1 => k_asm); (case k2 => k_asm); (case k3 => k_asm); (case k4 => k_asm); (case k5 => k_asm); (case k6 => k_is); (case k7 => k_is); (case k8 => ktr_room); (case k9 => exact BindsTo.of_eq rfl); (case kB => exact rfl); (case kD => decide +kernel); (case c2 => exact rfl); (case c3 => exact rfl); (case c4 => exact rfl); k_whole; intro g' L' h' tk' cells' F' N' Y' B' X' T' kp' lq1; (try k_lt lq1); k_cells Y'; (try simp only [List.cons_append, List.nil_append] at N'); (try dsimp only); (try k_fold)))))
  (k_with "call ref" => (k_here; (with_reducible show wpAny _ _ (call (Value.ref 131) _) _ _ _); k_dflt (refine' Tc.use (row_c _ _ _ _ _ _ ?ux) ?k1 ?k2 ?k3 ?k4 ?k5 ?kK ?ks ?kd ?ku ?_; (case ux => omega); (case k1 => k_asm); (case k2 => k_asm); (case k3 => k_asm); (case k4 => k_asm); (case k5 => k_asm); (case kK => first | exact rfl | assumption); (case ks => lcg_sub); (case kd => ktr_room); (case ku => ktr_units); k_whole; intro r9 tl9 h9 tk9 F9 N9 o9 p9; obtain ⟨d9, ys9, n9, e8, e9, hi9⟩ := p9; subst e8; subst e9; (try simp only [List.nil_append, List.cons_append] at N9); (replace o9 := off_of o9); (try simp only [LCg.Off1, and_true] at o9); (try dsimp only); (try k_fold))))
  (k_with "ite" => refine yes_of (by with_reducible assumption) ?_)
  (k_with "compareOp Eq ref ref" => (k_here; (with_reducible show wpAny _ _ (compareOp CmpOp.Eq (Value.ref _) (Value.ref _)) _ _ _); k_dflt (refine' eq_rows ?k1 ?k2 ?k3 ?k4 ?k5 ?k6 ?_; (case k1 => exact News.isList (by k_asm) (by k_mem)); (case k2 => exact News.isList (by k_asm) (by k_mem)); (case k3 => with_reducible assumption); (case k4 => with_reducible assumption); (case k5 => with_reducible assumption); (case k6 => ktr_units); k_whole)))
  unfold Tc
  k_fill
  intro dp un gd cn cs a ccd cl outer A₀ base h₀ L m s Q E B F X N T hk hd hu hret
  k_extra "enter"
  k_steps
  all_goals (
    refine' fin0 hret ?e1 ?e2 ?e3 ?e4 ?e5 ⟨rfl, rfl⟩
    (case e1 => with_reducible assumption)
    (case e2 => with_reducible assumption)
    (case e3 => k_asm)
    (case e4 => k_asm)
    (case e5 => lcg_sub))
end Mine
namespace Mine
open PySem PySem.W PySem.Spec PySem.Calls PyProof.Rows
set_option Elab.async false
set_option maxRecDepth 100000
set_option maxHeartbeats 8000000
theorem bit_ne {k : Int} (h : k ∈ [(1 : Int), 2, 4, 8]) : k ≠ 0 := by
  simp only [List.mem_cons, List.not_mem_nil, or_false] at h; omega
theorem bit_small {k : Int} (h : k ∈ [(1 : Int), 2, 4, 8]) : k.natAbs < 1073741824 := by
  simp only [List.mem_cons, List.not_mem_nil, or_false] at h; omega
theorem bit_bits {k : Int} (h : k ∈ [(1 : Int), 2, 4, 8]) : Builtin.Int.intBits k ≤ 64 := by
  simp only [List.mem_cons, List.not_mem_nil, or_false] at h
  rcases h with h | h | h | h <;> subst h <;> decide
local macro_rules | `(tactic| mul_fits) => `(tactic| exact PySem.IntMulOk.of_right (Mine.bit_bits (by assumption)))
/-- one figure of two, bit by bit -/
def bitsF (k0 k1 k2 f g : Int) : Int := (List.map (fun b => [k0, k1, k2].getD ((f.fdiv b).fmod 2 + (g.fdiv b).fmod 2).toNat 0 * b) [1, 2, 4, 8]).sum
structure BitI (k0 k1 k2 : Int) (total : List Int) (M : Str → Option Value) (l cg cf ck r r2 r3 : Addr) (ok oa ob okp : Obj) (fs gs done : List Int) (m : Str → Option Value) (news : Led) : Prop where
  hm : m = M
  hl : done.length + fs.length = 8
  hg : fs.length = gs.length
  ht : done ++ List.zipWith (bitsF k0 k1 k2) fs gs = total
  hn : ∃ (ys : List Value) (n : Nat) (og of : Obj) (vg vf : Option Value), news = [(l, listOf ys.toArray n), (cg, og), (cf, of), (ck, ok), (r, oa), (r2, ob), (r3, okp)] ∧ og.data = .cell vg ∧ of.data = .cell vf ∧ IntsAre ys done
theorem BitI.next {k0 k1 k2 f g : Int} {total : List Int} {M : Str → Option Value} {l cg cf ck r r2 r3 : Addr} {ok oa ob okp og of : Obj} {fs gs done : List Int} {ys : List Value} {n : Nat} {t : Tok} {vg vf : Option Value} (hl : done.length + (f :: fs).length = 8) (hg : (f :: fs).length = (g :: gs).length)
    (ht : done ++ List.zipWith (bitsF k0 k1 k2) (f :: fs) (g :: gs) = total) (hy : IntsAre ys done) (h1 : og.data = .cell vg) (h2 : of.data = .cell vf) :
    BitI k0 k1 k2 total M l cg cf ck r r2 r3 ok oa ob okp fs gs (done ++ [bitsF k0 k1 k2 f g]) M [(l, listOf (ys.toArray.push (.int (bitsF k0 k1 k2 f g) t)) (n + 1)), (cg, og), (cf, of), (ck, ok), (r, oa), (r2, ob), (r3, okp)] := by
  refine ⟨rfl, ?_, ?_, ?_, ys ++ [.int (bitsF k0 k1 k2 f g) t], n + 1, og, of, vg, vf, by rw [List.push_toArray], h1, h2, IntsAre.append hy (.cons _ _ .nil)⟩
  · rw [List.length_append, List.length_singleton]; rw [List.length_cons] at hl; omega
  · rw [List.length_cons, List.length_cons] at hg; omega
  · rw [← ht, List.append_assoc]; rfl
theorem off3 {a b c r r2 r3 d : Addr} {o o2 o3 : Obj} (h : @LT.lt Nat _ a d ∧ @LT.lt Nat _ b d ∧ @LT.lt Nat _ c d ∧ @LT.lt Nat _ r d ∧ @LT.lt Nat _ r2 d ∧ @LT.lt Nat _ r3 d) : ∀ q ∈ [(r, o), (r2, o2), (r3, o3)], q.1 ≠ d :=
  List.forall_mem_cons.mpr ⟨Nat.ne_of_lt h.2.2.2.1, List.forall_mem_cons.mpr ⟨Nat.ne_of_lt h.2.2.2.2.1, List.forall_mem_cons.mpr ⟨Nat.ne_of_lt h.2.2.2.2.2, List.forall_mem_nil _⟩⟩⟩
local macro_rules | `(tactic| walk_at $s:str) => `(tactic| k_extra $s)
theorem bits_c (w mean mg mb) (r r2 r3 : Addr) (n n2 n3 : Nat) (vs vs2 : List Value) (as bs : List Int) (k0 k1 k2 : Int) (u0 u1 u2 : Tok) (h1 : IntsAre vs as) (h2 : IntsAre vs2 bs) (l1 : as.length = 8) (l2 : bs.length = 8) :
   Tc 3 w mean mg mb [(r, listOf vs.toArray n), (r2, listOf vs2.toArray n2), (r3, listOf #[.int k0 u0, .int k1 u1, .int k2 u2] n3)] 136 [.ref r, .ref r2, .ref r3] (NewRow (List.zipWith (bitsF k0 k1 k2) as bs)) := by
  k_with_none
  (k_with "enter" => (refine wpAny_call ?_; k_dflt (first | (refine' enter_fr ?k1 ?k2 ?k3 ?k4 ?k5 ?kA ?kF ?kK ?k6 ?k7 ?k8 ?k9 ?kB ?_ ?c2 ?c3 ?c4 ?c5; (case kA => exact rfl); (case kF => exact rfl); (case kK => assumption); (case k1 => k_asm); (case k2 => k_asm); (case k3 => k_asm); (case k4 => k_asm); (case k5 => k_asm); (case k6 => k_is); (case k7 => k_is); (case k8 => ktr_room); (case k9 => exact BindsTo.of_eq rfl); (case c5 => decide); (case kB => exact locs rfl); (case c2 => exact rfl); (case c3 => exact rfl); (case c4 => exact rfl); k_whole; intro g' L' h' F' N' B' X' T' kp' lq1; (try k_lt lq1); (try dsimp only); (try k_fold)) | (refine' enter_frC ?k1 ?k2 ?k3 ?k4 ?k5 ?kA ?kF ?kK ?k6 ?k7 ?k8 ?k9 ?kB ?kD ?_ ?c2 ?c3 ?c4; (case kA => exact rfl); (case kF => exact rfl); (case kK => assumption); (case k1 => k_asm); (case k2 => k_asm); (case k3 => k_asm); (case k4 => k_asm); (case k5 => k_asm); (case k6 => k_is); (case k7 => k_is); (case k8 => ktr_room); (case k9 => exact BindsTo.of_eq rfl); (case kB => exact rfl); (case kD => decide +kernel); (case c2 => exact rfl); (case c3 => exact rfl); (case c4 => exact rfl); k_whole; intro g' L' h' tk' cells' F' N' Y' B' X' T' kp' lq1; (try k_lt lq1); k_cells Y'; (try simp only [List.cons_append, List.nil_append] at N'); (try dsimp only); (try k_fold)))))
  (k_with "binaryOp FloorDiv int int" => refine PyProof.Rows.floordiv_int (bit_ne (by with_reducible assumption)) ?_ (Or.inl (PyProof.noPylong_small (bit_small (by with_reducible assumption)))))
  (k_with "UnrEndW" => refine Hold.of ?_)
  (k_with "call builtin:list.append" => (k_here; k_dflt (refine' append_K ?F ?N ?U ?_ ?hz; (case F => k_asm); (case N => k_asm); (case U => k_upd); (case hz => with_reducible assumption); k_whole; intro h' F' N'; (try k_sweep))))
  unfold Tc
  k_fill
  intro dp un gd cn cs a ccd cl outer A₀ base h₀ L m s Q E B F X N T hk hd hu hret
  k_extra "enter"
  k_steps
  rename Fr _ _ _ _ => lF0
  with_unfolding_all refine' For_turns lF0 ?_
  k_steps
  rename Fr _ _ _ _ => lF'
  rename News _ _ _ _ => lN'
  with_unfolding_all refine' ktu_zip ?hh lF' lN' ?m1 ?c1 ?d1 ?m2 ?c2 ?d2 ?_
  (case hh => rfl)
  (case m1 => k_mem)
  (case m2 => k_mem)
  (case c1 => rfl)
  (case c2 => rfl)
  (case d1 => rfl)
  (case d2 => rfl)
  intro I9 l9
  have l8 := allLt_of l9
  k_lt l9
  refine' zip_loop (done := []) (BitI k0 k1 k2 (List.zipWith (bitsF k0 k1 k2) as bs) _ _ _ _ _ _ _ _ _ _ _ _) ?turn ?fin h1 h2 ⟨rfl, ?a1, ?a2, rfl, ?a3⟩
  (case a1 => simp [l1])
  (case a2 => omega)
  (case a3 => exact ⟨[], 0, _, _, _, _, rfl, by assumption, by assumption, .nil⟩)
  case turn =>
    intro f g fs gs done m1 news1 tf tg hI T9 h9 tk9 hT9 F9
    obtain ⟨hm, hl, hg, ht, ys, n9, og, of, vg, vf, hn, hog, hof, hys⟩ := hI
    subst hm hn
    have hz : ys.toArray.size ≤ sizeLine := by
      rw [List.size_toArray, hys.length, sizeLine_eq]
      omega
    clear lF' lN'
    ktu_objs
    k_steps
    refine Hold.of' ?_
    rename Fr _ _ _ _ => uF
    rename News _ _ _ _ => uN
    refine' UnrEndW.intro uF uN [(_, _), (_, _), (_, _), (_, _), (_, _), (_, _), (_, _)] ?uI ?us ?uo ⟨?uk, _, ?uB⟩
    (case' uB => refine' BitI.next (f := f) (g := g) hl hg ht hys ?b1 ?b2)
    (case us => k_subL)
    (case b1 => with_reducible assumption)
    (case b2 => with_reducible assumption)
    (case uI => k_subL)
    (case uo => exact offW_lt five_up l8)
    (case uk => k_subL)
  case fin =>
    intro fs gs done m1 news1 he hI h9 tk9 F9 N9
    obtain ⟨hm, hl, hg, ht, ys, n9, og, of, vg, vf, hn, hog, hof, hys⟩ := hI
    subst hm hn
    have hfs : fs = [] := by
      rcases he with h | h
      · exact h
      · exact List.length_eq_zero_iff.mp (by rw [hg, h]; rfl)
    rw [hfs, List.zipWith_nil_left, List.append_nil] at ht
    subst ht
    clear lF' lN'
    k_steps
    refine' fin1 hret ?e1 ?e2 ?e7 ?e3 ?e4 ?e8 ?e5 ?e6 (newrow (arr := ys.toArray) hys)
    (case e1 => with_reducible assumption)
    (case e2 => with_reducible assumption)
    (case e7 => k_asm)
    (case e3 => k_asm)
    (case e4 => k_asm)
    (case e8 => k_mem)
    (case e5 => lcg_sub)
    (case e6 => exact off3 (by with_reducible assumption))
end Mine
namespace Mine
open PySem PySem.W PySem.Spec PySem.Calls PyProof.Rows
set_option Elab.async false
set_option maxRecDepth 100000
set_option maxHeartbeats 8000000
theorem part_ok {b : Int} (h0 : 0 ≤ b.fmod 4) (h1 : b.fmod 4 < 4) : (2 : Int) ^ (b.fmod 4).toNat ≠ 0 ∧ ((2 : Int) ^ (b.fmod 4).toNat).natAbs < 1073741824 := by
  generalize b.fmod 4 = c at *
  have : c = 0 ∨ c = 1 ∨ c = 2 ∨ c = 3 := by omega
  rcases this with h | h | h | h <;> subst h <;> decide
def farL (ds : List Int) : List Int := [0, 0] ++ ds ++ [ds.getD 7 0, ds.getD 7 0, ds.getD 7 0]
def movedL (ds : List Int) (b : Int) : List Int := (rangeKs 0 8).map fun j => (((farL ds).getD (2 + b.fdiv 4 + j).toNat 0 + 16 * (farL ds).getD (2 + b.fdiv 4 + j + 1).toNat 0).fdiv (2 ^ (b.fmod 4).toNat)).fmod 16
theorem ix0 {q j : Int} (h : -2 ≤ q) (hj : 0 ≤ j) : 0 ≤ 2 + q + j := by omega
theorem ix1 {q j : Int} (h : -2 ≤ q) (hj : 0 ≤ j) : 0 ≤ 2 + q + j + 1 := by omega
theorem ix7 {ds : List Int} (h : ds.length = 8) : (7 : Int) < (ds.length : Int) := by omega
theorem far_len {ds : List Int} {x : Int} (h : ds.length = 8) : ([0, 0] ++ ds ++ (List.replicate (Int.toNat 3) [x]).flatten).length = 13 := by
  rw [List.length_append, List.length_append, h]; rfl
theorem iy0 {q j x : Int} {ds : List Int} (h : q ≤ 2) (hj : j < 0 + ((8 : Nat) : Int)) (h8 : ds.length = 8) : 2 + q + j < (([0, 0] ++ ds ++ (List.replicate (Int.toNat 3) [x]).flatten).length : Int) := by rw [far_len h8]; omega
theorem iy1 {q j x : Int} {ds : List Int} (h : q ≤ 2) (hj : j < 0 + ((8 : Nat) : Int)) (h8 : ds.length = 8) : 2 + q + j + 1 < (([0, 0] ++ ds ++ (List.replicate (Int.toNat 3) [x]).flatten).length : Int) := by rw [far_len h8]; omega
theorem iz0 {q j : Int} (h : q ≤ 2) (hj : j < 0 + ((8 : Nat) : Int)) : 2 + q + j < 2 ^ 63 := by omega
theorem iz1 {q j : Int} (h : q ≤ 2) (hj : j < 0 + ((8 : Nat) : Int)) : 2 + q + j + 1 < 2 ^ 63 := by omega
theorem pick9 {h₀ h : Heap} {L : Addr} {a b c d e f g i j : Addr × Obj} (N : News h₀ L h [a, b, c, d, e, f, g, i, j]) : News h₀ L h [a, f, g, i, j] := fun p hp => N p (by
  simp only [List.mem_cons, List.not_mem_nil, or_false] at hp ⊢
  rcases hp with h | h | h | h | h <;> simp [h])
theorem off5 {a b c e r d : Addr} {o : Obj} (h : @Ne Nat a d ∧ @Ne Nat b d ∧ @Ne Nat c d ∧ @Ne Nat e d ∧ @Ne Nat r d) : ∀ q ∈ [(r, o)], q.1 ≠ d :=
  List.forall_mem_cons.mpr ⟨h.2.2.2.2, List.forall_mem_nil _⟩
theorem ints_to {vs : List Value} {ns ms : List Int} (h : IntsAre vs ns) (e : ns = ms) : IntsAre vs ms := e ▸ h
local macro_rules | `(tactic| walk_at $s:str) => `(tactic| k_extra $s)
theorem moved_c (w mean mg mb) (r : Addr) (n : Nat) (vs : List Value) (ds : List Int) (b : Int) (tb : Tok) (h1 : IntsAre vs ds) (h8 : ds.length = 8) (hb0 : -8 ≤ b) (hb1 : b ≤ 11) :
   Tc 3 w mean mg mb [(r, listOf vs.toArray n)] 141 [.ref r, .int b tb] (NewRow (movedL ds b)) := by
  have q4 : b.fmod 4 = b % 4 := Int.fmod_eq_emod_of_nonneg _ (by omega)
  have q5 : b.fdiv 4 = b / 4 := Int.fdiv_eq_ediv_of_nonneg _ (by omega)
  have hb2 : 0 ≤ b.fmod 4 := by omega
  have hb3 : b.fmod 4 < 4 := by omega
  have hb4 : -2 ≤ b.fdiv 4 := by omega
  have hb5 : b.fdiv 4 ≤ 2 := by omega
  clear q4 q5
  k_with_none
  (k_with "enter" => (refine wpAny_call ?_; k_dflt (first | (refine' enter_fr ?k1 ?k2 ?k3 ?k4 ?k5 ?kA ?kF ?kK ?k6 ?k7 ?k8 ?k9 ?kB ?_ ?c2 ?c3 ?c4 ?c5; (case kA => exact rfl); (case kF => exact rfl); (case kK => assumption); (case k1 => k_asm); (case k2 => k_asm); (case k3 => k_asm); (case k4 => k_asm); (case k5 => k_asm); (case k6 => k_is); (case k7 => k_is); (case k8 => ktr_room); (case k9 => exact BindsTo.of_eq rfl); (case c5 => decide); (case kB => exact locs rfl); (case c2 => exact rfl); (case c3 => exact rfl); (case c4 => exact rfl); k_whole; intro g' L' h' F' N' B' X' T' kp' lq1; (try k_lt lq1); (try dsimp only); (try k_fold)) | (refine' enter_frC ?k1 ?k2 ?k3 ?k4 ?k5 ?kA ?kF ?kK ?k6 ?k7 ?k8 ?k9 ?kB ?kD ?_ ?c2 ?c3 ?c4; (case kA => exact rfl); (case kF => exact rfl); (case kK => assumption); (case k1 => k_asm); (case k2 => k_asm); (case k3 => k_asm); (case k4 => k_asm); (case k5 => k_asm); (case k6 => k_is); (case k7 => k_is); (case k8 => ktr_room); (case k9 => exact BindsTo.of_eq rfl); (case kB => exact rfl); (case kD => decide +kernel); (case c2 => exact rfl); (case c3 => exact rfl); (case c4 => exact rfl); k_whole; intro g' L' h' tk' cells' F' N' Y' B' X' T' kp' lq1; (try k_lt lq1); k_cells Y'; (try simp only [List.cons_append, List.nil_append] at N'); (try dsimp only); (try k_fold)))))
  (k_with "binaryOp FloorDiv int int" => refine PyProof.Rows.floordiv_int (part_ok (by with_reducible assumption) (by with_reducible assumption)).1 ?_ (Or.inl (PyProof.noPylong_small (part_ok (by with_reducible assumption) (by with_reducible assumption)).2)))
  (k_with "subscriptTail Name BinOp ref int" => (k_here; (with_reducible show wpAny _ _ (subscriptTail _ _ (Value.ref _) (Value.int _ _)) _ _ _); k_dflt (refine item_anyK (News.isList (by k_asm) (by k_mem)) (by with_reducible assumption) (by first | decide | exact ix0 (by with_reducible assumption) (by assumption) | exact ix1 (by with_reducible assumption) (by assumption)) (by first | exact ix7 (by with_reducible assumption) | exact iy0 (by with_reducible assumption) (by assumption) (by with_reducible assumption) | exact iy1 (by with_reducible assumption) (by assumption) (by with_reducible assumption)) (by first | decide | exact iz0 (by with_reducible assumption) (by assumption) | exact iz1 (by with_reducible assumption) (by assumption)) ?_; k_whole); intro _))
  (k_with "exec Return some" => ((with_reducible rename News _ _ _ _ => pN); (replace pN := pick9 pN); refine wpAny_Return_some ?_))
  unfold Tc
  k_fill
  intro dp un gd cn cs a ccd cl outer A₀ base h₀ L m s Q E B F X N T hk hd hu hret
  k_extra "enter"
  k_steps
  refine' fin1 hret ?e1 ?e2 ?e7 ?e3 ?e4 ?e8 ?e5 ?e6 (newrow ?e9)
  (case e1 => with_reducible assumption)
  (case e2 => with_reducible assumption)
  (case e7 => k_asm)
  (case e3 => k_asm)
  (case e4 => k_asm)
  (case e8 => k_mem)
  (case e5 => lcg_sub)
  (case e6 => exact off5 (by with_reducible assumption))
  (case e9 => exact ints_to (by assumption) rfl)
end Mine
namespace Mine
open PySem PySem.W PySem.Spec PySem.Calls PyProof.Rows
set_option Elab.async false
set_option maxRecDepth 100000
abbrev frs (l : List Env) : List Addr := l.filterMap (·.frame)
/-- a raise that was caught below: the frames' own notes have turned, nothing else -/
def Turned (fs : List Addr) (h h' : Heap) : Prop :=
  (∀ b o, h.get? b = some o → b ∉ fs → h'.get? b = some o) ∧ ∀ b o, h.get? b = some o → ∃ sl, h'.get? b = some { o with slots := sl }
theorem turned_of {fs : List Addr} {g g' h : Heap} {L : Addr} {m : Str → Option Value} (T : KtsTurn fs g g') (F : Fr g' L h m) : Turned fs g h :=
  ⟨fun b o e n => F.keep b o (T.other b o e n), fun b o e => by obtain ⟨sl, q⟩ := T.up e; exact ⟨sl, F.keep _ _ q⟩⟩
def EndS (fs : List Addr) (g : Heap) (R : Result → Shared → Prop) (v : Value) (s' : Shared) : Prop :=
  ∃ g' L' m', KtsTurn fs g g' ∧ Fr g' L' s'.heap m' ∧ (Turned fs g s'.heap → R (.ok (.ret v)) s')
theorem EndS.intro {fs : List Addr} {g g' : Heap} {R : Result → Shared → Prop} {v : Value} {s' : Shared} {L' : Addr} {m' : Str → Option Value} (T : KtsTurn fs g g') (F : Fr g' L' s'.heap m') (k : Turned fs g s'.heap → R (.ok (.ret v)) s') : EndS fs g R v s' := ⟨g', L', m', T, F, k⟩
theorem EndS.mk2 {fs : List Addr} {g g' : Heap} {R : Result → Shared → Prop} {v : Value} {s' : Shared} {L' : Addr} {m' : Str → Option Value} (F : Fr g' L' s'.heap m') (T : KtsTurn fs g g') (k : Turned fs g s'.heap → R (.ok (.ret v)) s') : EndS fs g R v s' := ⟨g', L', m', T, F, k⟩
theorem EndS.go {fs : List Addr} {g : Heap} {R : Result → Shared → Prop} {v : Value} {s' : Shared} : EndS fs g R v s' → R (.ok (.ret v)) s' := fun ⟨_, _, _, T, F, k⟩ => k (turned_of T F)
section
variable {prog : Program} {w : World} {A A₀ : Around} {s : Shared} {K : Frag} {L : Addr} {h₀ base : Heap} {m mg mb : Str → Option Value} {sub : Led} {p : Program} {loose : List Str} {mean : ExcName → Option Value}
  {env : Env} {outer : List Env} {R : Result → Shared → Prop} {name qual : Str} {params : Arguments} {body : List Stmt} {scope : Scope} {dV kV doc pm cdv ct oc : Value} {an od : Option Addr} {osl : Array (Option Value)} {f : Addr} {args : Args} {binds : List (Str × Value)}
theorem dicts_push (F : Fr h₀ L s.heap m) (D : KtsDicts (frs outer) h₀) (hf : env.frame = some L) : KtsDicts (frs (env :: outer)) s.heap := by
  intro b hb
  have hb' : b = L ∨ b ∈ frs outer := by
    simp only [frs, List.filterMap_cons, hf, List.mem_cons] at hb
    exact hb
  rcases hb' with e | hb
  · obtain ⟨o, es, ep, ho, hd, _⟩ := F.ns
    exact ⟨o, es, ep, by rw [e]; exact ho, hd⟩
  · obtain ⟨o, es, n, ho, hd⟩ := D b hb
    exact ⟨o, es, n, F.keep b o ho, hd⟩
/-- a def entered with no ledger, its end up to the frames' notes -/
theorem enter_S (B : Below A₀ base outer h₀) (F : Fr h₀ L s.heap m) (X₀ : K.In h₀) (T : Top p loose mean mg mb h₀) (D : KtsDicts (frs outer) h₀) (hA : A.frames = some (env :: outer)) (hf : env.frame = some L) (hke : env.scope.kind = .function)
    (ho : K.lookup f = some ⟨oc, od, .func (fnOf name qual params body scope dV kV doc pm an cdv ct), osl⟩) (hcd : codeIn K cdv qual = true) (hroom : A.depth < recursionLimit)
    (hbind : BindsTo s (fnOf name qual params body scope dV kV doc pm an cdv ct) args binds) (hloc : ∀ y ∈ binds, scope.names.lookup y.1 = some .local)
    (h : ∀ L' h₁, Fr s.heap L' h₁ (fun y => binds.reverse.lookup y) → News s.heap L' h₁ [] → Below A base (env :: outer) s.heap → K.In s.heap → Top p loose mean mg mb s.heap → KtsDicts (frs (env :: outer)) s.heap →
      wpAny (model prog w) (A.deeper (envOf qual scope L' f cdv)) (execs body (envOf qual scope L' f cdv))
        (fun fl s' => EndS (frs (env :: outer)) s.heap R (match fl with | .ret v => v | _ => .none) s')
        (fun e s' => wpAny (model prog w) (A.deeper (envOf qual scope L' f cdv)) (leaving (envOf qual scope L' f cdv) e) (fun _ s'' => R (.error e) s'') (fun e' s'' => R (.error e') s'') s')
        { s with heap := h₁, toks := s.toks + binds.length })
    (hco : scope.isCoroutine = false) (hgen : scope.isGenerator = false) (hk : scope.kind = .function)
    (hcell : ∀ x ∈ scope.names, x.2 ≠ .cell) : codeAny (model prog w) A (.call (.ref f) args) R s := by
  have X := X₀.keeps F.keep
  refine codeAny_call_def (fd := fnOf name qual params body scope dV kV doc pm an cdv ct) (body := body) (binds := binds) hroom (X _ _ ho) rfl (T.nolimit.keeps F.keep) (codeRec_of X hcd) rfl hbind hcell hloc (fun h₁ hns hk₁ => ?_) hco hgen hk
  have BG : Below A base (env :: outer) s.heap := ⟨hA, (pushX B F hf hke).stays, (pushX B F hf hke).frames⟩
  exact wpAny_mono (h s.heap.objs.size h₁ ⟨hns, hk₁, Nat.le_refl _⟩ News.nil BG X (T.keeps F.keep) (dicts_push F D hf)) (fun _ _ => EndS.go) (fun _ _ => id)
/-- the same for a def with cells -/
theorem enter_SC (B : Below A₀ base outer h₀) (F : Fr h₀ L s.heap m) (X₀ : K.In h₀) (T : Top p loose mean mg mb h₀) (D : KtsDicts (frs outer) h₀) (hA : A.frames = some (env :: outer)) (hf : env.frame = some L) (hke : env.scope.kind = .function)
    (ho : K.lookup f = some ⟨oc, od, .func (fnOf name qual params body scope dV kV doc pm an cdv ct), osl⟩) (hcd : codeIn K cdv qual = true) (hroom : A.depth < recursionLimit)
    (hbind : BindsTo s (fnOf name qual params body scope dV kV doc pm an cdv ct) args binds) (hkind : (binds.all fun y => scope.names.lookup y.1 == some .local || scope.names.lookup y.1 == some .cell) = true)
    (hnd : ((cellsFrom 0 scope.names []).map (·.1)).Nodup)
    (h : ∀ L' h₁ tk cells, Fr s.heap L' h₁ (bindL (envOfC qual scope L' f cdv).kindOf binds fun _ => none) → News s.heap L' h₁ cells →
      CellsAre (bindC (envOfC qual scope L' f cdv).kindOf binds fun _ => none) (cellsFrom (L' + 1) scope.names []) cells → Below A base (env :: outer) s.heap → K.In s.heap → Top p loose mean mg mb s.heap → KtsDicts (frs (env :: outer)) s.heap →
      wpAny (model prog w) (A.deeper (envOfC qual scope L' f cdv)) (execs body (envOfC qual scope L' f cdv))
        (fun fl s' => EndS (frs (env :: outer)) s.heap R (match fl with | .ret v => v | _ => .none) s')
        (fun e s' => wpAny (model prog w) (A.deeper (envOfC qual scope L' f cdv)) (leaving (envOfC qual scope L' f cdv) e) (fun _ s'' => R (.error e) s'') (fun e' s'' => R (.error e') s'') s')
        { s with heap := h₁, toks := tk })
    (hco : scope.isCoroutine = false) (hgen : scope.isGenerator = false) (hk : scope.kind = .function) : codeAny (model prog w) A (.call (.ref f) args) R s := by
  have X := X₀.keeps F.keep
  refine codeAny_call_function hroom (X _ _ ho) rfl hco hgen rfl (codeRec_of X hcd) (hbind _ _ _ _ (wpAny_newFunctionEnv_cells hk (kindsX hkind _) fun env' he s' x => ?_))
  subst he
  refine ⟨(T.nolimit.keeps F.keep).keeps x.toInCall.keep, codeAny_func ?_⟩
  obtain ⟨h₁, tk, rfl, _⟩ := x.done
  have nd := cellsFrom_names scope.names 0 (s.heap.objs.size + 1) [] [] rfl ▸ hnd
  obtain ⟨cells, NC, Y⟩ := Cl.news (h₀ := s.heap) (Nat.le_refl _) fun n c hm => ⟨x.cell n c (lookup_of_mem_nodup nd hm), x.above n c hm⟩
  have BG : Below A base (env :: outer) s.heap := ⟨hA, (pushX B F hf hke).stays, (pushX B F hf hke).frames⟩
  exact wpAny_mono (h s.heap.objs.size h₁ tk cells ⟨x.toInCall.ns, x.toInCall.keep, Nat.le_refl _⟩ NC Y BG X (T.keeps F.keep) (dicts_push F D hf)) (fun _ _ => EndS.go) (fun _ _ => id)
end
/-- the caller's frame behind a turn -/
theorem rebase {A₀ : Around} {base h₀ h h' : Heap} {outer : List Env} {L : Addr} {m : Str → Option Value} {env : Env} {news : Led} (B : Below A₀ base outer h₀) (F : Fr h₀ L h m) (N : News h₀ L h news) (hf : env.frame = some L) (T : Turned (frs (env :: outer)) h h') :
    ∃ h₁, KtsTurn (frs outer) h₀ h₁ ∧ Fr h₁ L h' m ∧ News h₁ L h' news ∧ Below A₀ base outer h₁ := by
  have mem : ∀ b, b ∈ frs (env :: outer) → b = L ∨ b ∈ frs outer := fun b hb => by
    simp only [frs, List.filterMap_cons, hf, List.mem_cons] at hb
    exact hb
  have fresh : h₀.get? L = none := kts_self F
  have inFr : ∀ b ∈ frs outer, ∃ o, h₀.get? b = some o := fun b hb => by
    obtain ⟨_, o, ho, _⟩ := B.frames.mem hb
    exact ⟨o, ho⟩
  obtain ⟨T₁, S₁⟩ := kts_turn_at (h := h') (fs := frs outer) (g := h₀) inFr
    (fun b o e nm => T.1 b o (F.keep b o e) fun q => by
      rcases mem b q with z | z
      · rw [z, fresh] at e; cases e
      · exact nm z)
    (fun b o e _ => T.2 b o (F.keep b o e))
  obtain ⟨oL, es, ep, hL, hd, r⟩ := F.ns
  obtain ⟨sl, hs⟩ := T.2 L oL hL
  refine ⟨_, T₁, ⟨⟨_, es, ep, hs, hd, r⟩, S₁, by rw [T₁.size]; exact F.above⟩, fun q hq => ⟨?_, (N q hq).2.1, T₁.none_ _ (N q hq).2.2⟩, ⟨B.stack, fun b o e => T₁.other b o (B.stays b o e) fun hm => ?_, B.frames.of_keeps fun b o e _ => ?_⟩⟩
  · refine T.1 _ _ (N q hq).1 fun z => ?_
    rcases mem _ z with z | z
    · exact (N q hq).2.1 z
    · obtain ⟨o, e⟩ := inFr _ z
      rw [(N q hq).2.2] at e; cases e
  · rw [(B.frames.mem hm).1] at e; cases e
  · obtain ⟨sl, hs⟩ := T₁.up e
    exact ⟨_, hs, rfl⟩
theorem turned_ns {fs : List Addr} {h h' : Heap} {L : Addr} {m : Str → Option Value} (T : Turned fs h h') (n : h.Ns L m) : h'.Ns L m := by
  obtain ⟨oL, es, ep, hL, hd, r⟩ := n
  obtain ⟨sl, hs⟩ := T.2 L oL hL
  exact ⟨_, es, ep, hs, hd, r⟩
/-- a contract up to the frames' notes, of a def that makes nothing that stays -/
def TcS (dd : Nat) (w : World) (mean : ExcName → Option Value) (mg mb : Str → Option Value) (f : Addr) (vs : List Value) (Post : Value → Prop) : Prop :=
  ∀ (dp un : Nat) (gd : Option (List Code)) (cn : Str) (cs : Scope) (a : Addr) (ccd : Value) (cl : List (Str × Addr)) (outer : List Env) (A₀ : Around) (base h₀ : Heap) (L : Addr) (m : Str → Option Value) (s : Shared) (Q E : Value → Shared → Prop),
    Below A₀ base outer h₀ → Fr h₀ L s.heap m → (hd.heap_39 w.params).In base → Top hd.view_39 (looseW hd.view_39 []) mean mg mb base → KtsDicts (frs outer) h₀ → cs.kind = .function → dp + dd < recursionLimit → un + 8 * dd + 100 < cLine →
    (∀ r h' tk', Turned (frs (envX cn cs L a ccd cl :: outer)) s.heap h' → Post r → Q r { s with heap := h', toks := tk' }) →
    wpAny (model PySem.Challenge.rw_nq0009_01.row.prog w) (ktrTop dp un gd cn cs L a ccd cl outer) (call (.ref f) vs) Q E s
theorem TcS.use {dd : Nat} {w : World} {mean : ExcName → Option Value} {mg mb : Str → Option Value} {f : Addr} {vs : List Value} {Post : Value → Prop} (C : TcS dd w mean mg mb f vs Post)
    {dp un : Nat} {gd : Option (List Code)} {cn : Str} {cs : Scope} {a : Addr} {ccd : Value} {cl : List (Str × Addr)} {outer : List Env} {A₀ : Around} {base h₀ : Heap} {L : Addr} {m : Str → Option Value} {s : Shared} {Q E : Value → Shared → Prop} {news : Led}
    (B : Below A₀ base outer h₀) (F : Fr h₀ L s.heap m) (N : News h₀ L s.heap news) (XB : (hd.heap_39 w.params).In base) (TB : Top hd.view_39 (looseW hd.view_39 []) mean mg mb base) (D : KtsDicts (frs outer) h₀) (hk : cs.kind = .function) (hdp : dp + dd < recursionLimit) (hu : un + 8 * dd + 100 < cLine)
    (ret : ∀ r h₁ h' tk', KtsTurn (frs outer) h₀ h₁ → Fr h₁ L h' m → News h₁ L h' news → Below A₀ base outer h₁ → (hd.heap_39 w.params).In h₁ → Top hd.view_39 (looseW hd.view_39 []) mean mg mb h₁ → KtsDicts (frs outer) h₁ → Post r → Q r { s with heap := h', toks := tk' }) :
    wpAny (model PySem.Challenge.rw_nq0009_01.row.prog w) (ktrTop dp un gd cn cs L a ccd cl outer) (call (.ref f) vs) Q E s := by
  refine C dp un gd cn cs a ccd cl outer A₀ base h₀ L m s Q E B F XB TB D hk hdp hu fun r h' tk' T p => ?_
  obtain ⟨h₁, T₁, F₁, N₁, B₁⟩ := rebase (env := envX cn cs L a ccd cl) B F N rfl T
  exact ret r h₁ h' tk' T₁ F₁ N₁ B₁ (XB.keeps B₁.stays) (TB.keeps B₁.stays) (D.turn T₁) p
end Mine
namespace Mine
open PySem PySem.W PySem.Spec PySem.Calls PyProof.Rows
set_option Elab.async false
set_option maxRecDepth 100000
set_option maxHeartbeats 8000000
local macro_rules | `(tactic| k_room) => `(tactic| ktr_room)
local macro_rules | `(tactic| walk_at $s:str) => `(tactic| k_extra $s)
theorem ref_c56 (w mean mg mb) (x : Int) (t : Tok) :
   TcS 4 w mean mg mb 160 [.ref 56, .int x t] (fun v => v = .bool true) := by
  k_with_none
  (k_with "enter" => (refine wpAny_call ?_; k_dflt (first | (refine' enter_fr ?k1 ?k2 ?k3 ?k4 ?k5 ?kA ?kF ?kK ?k6 ?k7 ?k8 ?k9 ?kB ?_ ?c2 ?c3 ?c4 ?c5; (case kA => exact rfl); (case kF => exact rfl); (case kK => assumption); (case k1 => k_asm); (case k2 => k_asm); (case k3 => k_asm); (case k4 => k_asm); (case k5 => k_asm); (case k6 => k_is); (case k7 => k_is); (case k8 => ktr_room); (case k9 => exact BindsTo.of_eq rfl); (case c5 => decide); (case kB => exact locs rfl); (case c2 => exact rfl); (case c3 => exact rfl); (case c4 => exact rfl); k_whole; intro g' L' h' F' N' B' X' T' kp' lq1; (try k_lt lq1); (try dsimp only); (try k_fold)) | (refine' enter_frC ?k1 ?k2 ?k3 ?k4 ?k5 ?kA ?kF ?kK ?k6 ?k7 ?k8 ?k9 ?kB ?kD ?_ ?c2 ?c3 ?c4; (case kA => exact rfl); (case kF => exact rfl); (case kK => assumption); (case k1 => k_asm); (case k2 => k_asm); (case k3 => k_asm); (case k4 => k_asm); (case k5 => k_asm); (case k6 => k_is); (case k7 => k_is); (case k8 => ktr_room); (case k9 => exact BindsTo.of_eq rfl); (case kB => exact rfl); (case kD => decide +kernel); (case c2 => exact rfl); (case c3 => exact rfl); (case c4 => exact rfl); k_whole; intro g' L' h' tk' cells' F' N' Y' B' X' T' kp' lq1; (try k_lt lq1); k_cells Y'; (try simp only [List.cons_append, List.nil_append] at N'); (try dsimp only); (try k_fold)))))
  (k_with "enterS" => (refine wpAny_call ?_; k_dflt (first | (refine' enter_S ?k1 ?k2 ?k3 ?k5 ?kd ?kA ?kF ?kK ?k6 ?k7 ?k8 ?k9 ?kB ?_ ?c2 ?c3 ?c4 ?c5; (case kA => exact rfl); (case kF => exact rfl); (case kK => assumption); (case k1 => k_asm); (case k2 => k_asm); (case k3 => k_asm); (case k5 => k_asm); (case kd => k_asm); (case k6 => k_is); (case k7 => k_is); (case k8 => ktr_room); (case k9 => exact BindsTo.of_eq rfl); (case c5 => decide); (case kB => exact locs rfl); (case c2 => exact rfl); (case c3 => exact rfl); (case c4 => exact rfl); k_whole; intro L' h' F' N' B' X' T' D'; (try dsimp only); (try k_fold)) | (refine' enter_SC ?k1 ?k2 ?k3 ?k5 ?kd ?kA ?kF ?kK ?k6 ?k7 ?k8 ?k9 ?kB ?kD ?_ ?c2 ?c3 ?c4; (case kA => exact rfl); (case kF => exact rfl); (case kK => assumption); (case k1 => k_asm); (case k2 => k_asm); (case k3 => k_asm); (case k5 => k_asm); (case kd => k_asm); (case k6 => k_is); (case k7 => k_is); (case k8 => ktr_room); (case k9 => exact BindsTo.of_eq rfl); (case kB => exact rfl); (case kD => decide +kernel); (case c2 => exact rfl); (case c3 => exact rfl); (case c4 => exact rfl); k_whole; intro L' h' tk' cells' F' N' Y' B' X' T' D'; k_cells Y'; (try simp only [List.cons_append, List.nil_append] at N'); (try dsimp only); (try k_fold)))))
  (k_with "EndS" => (refine EndS.mk2 (by k_asm) (by first | exact KtsTurn.refl | with_reducible assumption | exact KtsTurn.trans (by with_reducible assumption) (by with_reducible assumption)) ?_; intro hTu; (try dsimp only)))
  (k_with "leaving ref" => (k_here; refine leave_newS (by assumption) (by assumption) (by assumption) (by k_asm) ?_; k_whole; intro h' RS' R' U'; (try dsimp only at RS' R' U' ⊢)))
  unfold TcS
  k_fill
  intro dp un gd cn cs a ccd cl outer A₀ base h₀ L m s Q E B F XB TB D hk hd hu hret
  have X := XB.keeps B.stays
  have T := TB.keeps B.stays
  k_extra "enterS"
  k_steps
  all_goals first
    | exact hret _ _ _ (by with_reducible assumption) rfl
    | (exfalso; rename (0 : Int) ≠ 0 => h0; exact h0 rfl)
theorem ref_c77 (w mean mg mb) (x : Int) (t : Tok) :
   TcS 4 w mean mg mb 160 [.ref 77, .int x t] (fun v => v = .bool true) := by
  k_with_none
  (k_with "enter" => (refine wpAny_call ?_; k_dflt (first | (refine' enter_fr ?k1 ?k2 ?k3 ?k4 ?k5 ?kA ?kF ?kK ?k6 ?k7 ?k8 ?k9 ?kB ?_ ?c2 ?c3 ?c4 ?c5; (case kA => exact rfl); (case kF => exact rfl); (case kK => assumption); (case k1 => k_asm); (case k2 => k_asm); (case k3 => k_asm); (case k4 => k_asm); (case k5 => k_asm); (case k6 => k_is); (case k7 => k_is); (case k8 => ktr_room); (case k9 => exact BindsTo.of_eq rfl); (case c5 => decide); (case kB => exact locs rfl); (case c2 => exact rfl); (case c3 => exact rfl); (case c4 => exact rfl); k_whole; intro g' L' h' F' N' B' X' T' kp' lq1; (try k_lt lq1); (try dsimp only); (try k_fold)) | (refine' enter_frC ?k1 ?k2 ?k3 ?k4 ?k5 ?kA ?kF ?kK ?k6 ?k7 ?k8 ?k9 ?kB ?kD ?_ ?c2 ?c3 ?c4; (case kA => exact rfl); (case kF => exact rfl); (case kK => assumption); (case k1 => k_asm); (case k2 => k_asm); (case k3 => k_asm); (case k4 => k_asm); (case k5 => k_asm); (case k6 => k_is); (case k7 => k_is); (case k8 => ktr_room); (case k9 => exact BindsTo.of_eq rfl); (case kB => exact rfl); (case kD => decide +kernel); (case c2 => exact rfl); (case c3 => exact rfl); (case c4 => exact rfl); k_whole; intro g' L' h' tk' cells' F' N' Y' B' X' T' kp' lq1; (try k_lt lq1); k_cells Y'; (try simp only [List.cons_append, List.nil_append] at N'); (try dsimp only); (try k_fold)))))
  (k_with "enterS" => (refine wpAny_call ?_; k_dflt (first | (refine' enter_S ?k1 ?k2 ?k3 ?k5 ?kd ?kA ?kF ?kK ?k6 ?k7 ?k8 ?k9 ?kB ?_ ?c2 ?c3 ?c4 ?c5; (case kA => exact rfl); (case kF => exact rfl); (case kK => assumption); (case k1 => k_asm); (case k2 => k_asm); (case k3 => k_asm); (case k5 => k_asm); (case kd => k_asm); (case k6 => k_is); (case k7 => k_is); (case k8 => ktr_room); (case k9 => exact BindsTo.of_eq rfl); (case c5 => decide); (case kB => exact locs rfl); (case c2 => exact rfl); (case c3 => exact rfl); (case c4 => exact rfl); k_whole; intro L' h' F' N' B' X' T' D'; (try dsimp only); (try k_fold)) | (refine' enter_SC ?k1 ?k2 ?k3 ?k5 ?kd ?kA ?kF ?kK ?k6 ?k7 ?k8 ?k9 ?kB ?kD ?_ ?c2 ?c3 ?c4; (case kA => exact rfl); (case kF => exact rfl); (case kK => assumption); (case k1 => k_asm); (case k2 => k_asm); (case k3 => k_asm); (case k5 => k_asm); (case kd => k_asm); (case k6 => k_is); (case k7 => k_is); (case k8 => ktr_room); (case k9 => exact BindsTo.of_eq rfl); (case kB => exact rfl); (case kD => decide +kernel); (case c2 => exact rfl); (case c3 => exact rfl); (case c4 => exact rfl); k_whole; intro L' h' tk' cells' F' N' Y' B' X' T' D'; k_cells Y'; (try simp only [List.cons_append, List.nil_append] at N'); (try dsimp only); (try k_fold)))))
  (k_with "EndS" => (refine EndS.mk2 (by k_asm) (by first | exact KtsTurn.refl | with_reducible assumption | exact KtsTurn.trans (by with_reducible assumption) (by with_reducible assumption)) ?_; intro hTu; (try dsimp only)))
  (k_with "leaving ref" => (k_here; refine leave_newS (by assumption) (by assumption) (by assumption) (by k_asm) ?_; k_whole; intro h' RS' R' U'; (try dsimp only at RS' R' U' ⊢)))
  unfold TcS
  k_fill
  intro dp un gd cn cs a ccd cl outer A₀ base h₀ L m s Q E B F XB TB D hk hd hu hret
  have X := XB.keeps B.stays
  have T := TB.keeps B.stays
  k_extra "enterS"
  k_steps
  all_goals first
    | exact hret _ _ _ (by with_reducible assumption) rfl
    | (exfalso; rename (0 : Int) ≠ 0 => h0; exact h0 rfl)
theorem part_facts (x y : Int) (hy : y ≠ 0) : x.fdiv y * y + x.fmod y = x ∧ ((0 < y ∧ 0 ≤ x.fmod y ∧ x.fmod y < y) ∨ (y < 0 ∧ y < x.fmod y ∧ x.fmod y ≤ 0)) := by
  refine ⟨by rw [Int.mul_comm]; exact Int.mul_fdiv_add_fmod x y, ?_⟩
  by_cases h : 0 < y
  · exact .inl ⟨h, Int.fmod_nonneg_of_pos _ h, Int.fmod_lt_of_pos _ h⟩
  · refine .inr ⟨by omega, ?_⟩
    have e : x.fmod y = -((-x).fmod (-y)) := by rw [Int.neg_fmod_neg, Int.neg_neg]
    have a := Int.fmod_nonneg_of_pos (-x) (b := -y) (by omega)
    have b := Int.fmod_lt_of_pos (-x) (b := -y) (by omega)
    omega
theorem parted_c (w mean mg mb) (x y : Int) (t u : Tok) (hy0 : -1048576 ≤ y) (hy1 : y ≤ 1048576) :
   TcS 6 w mean mg mb 167 [.int x t, .int y u] (fun v => v = .bool true) := by
  k_with_none
  (k_with "enter" => (refine wpAny_call ?_; k_dflt (first | (refine' enter_fr ?k1 ?k2 ?k3 ?k4 ?k5 ?kA ?kF ?kK ?k6 ?k7 ?k8 ?k9 ?kB ?_ ?c2 ?c3 ?c4 ?c5; (case kA => exact rfl); (case kF => exact rfl); (case kK => assumption); (case k1 => k_asm); (case k2 => k_asm); (case k3 => k_asm); (case k4 => k_asm); (case k5 => k_asm); (case k6 => k_is); (case k7 => k_is); (case k8 => ktr_room); (case k9 => exact BindsTo.of_eq rfl); (case c5 => decide); (case kB => exact locs rfl); (case c2 => exact rfl); (case c3 => exact rfl); (case c4 => exact rfl); k_whole; intro g' L' h' F' N' B' X' T' kp' lq1; (try k_lt lq1); (try dsimp only); (try k_fold)) | (refine' enter_frC ?k1 ?k2 ?k3 ?k4 ?k5 ?kA ?kF ?kK ?k6 ?k7 ?k8 ?k9 ?kB ?kD ?_ ?c2 ?c3 ?c4; (case kA => exact rfl); (case kF => exact rfl); (case kK => assumption); (case k1 => k_asm); (case k2 => k_asm); (case k3 => k_asm); (case k4 => k_asm); (case k5 => k_asm); (case k6 => k_is); (case k7 => k_is); (case k8 => ktr_room); (case k9 => exact BindsTo.of_eq rfl); (case kB => exact rfl); (case kD => decide +kernel); (case c2 => exact rfl); (case c3 => exact rfl); (case c4 => exact rfl); k_whole; intro g' L' h' tk' cells' F' N' Y' B' X' T' kp' lq1; (try k_lt lq1); k_cells Y'; (try simp only [List.cons_append, List.nil_append] at N'); (try dsimp only); (try k_fold)))))
  (k_with "enterS" => (refine wpAny_call ?_; k_dflt (first | (refine' enter_S ?k1 ?k2 ?k3 ?k5 ?kd ?kA ?kF ?kK ?k6 ?k7 ?k8 ?k9 ?kB ?_ ?c2 ?c3 ?c4 ?c5; (case kA => exact rfl); (case kF => exact rfl); (case kK => assumption); (case k1 => k_asm); (case k2 => k_asm); (case k3 => k_asm); (case k5 => k_asm); (case kd => k_asm); (case k6 => k_is); (case k7 => k_is); (case k8 => ktr_room); (case k9 => exact BindsTo.of_eq rfl); (case c5 => decide); (case kB => exact locs rfl); (case c2 => exact rfl); (case c3 => exact rfl); (case c4 => exact rfl); k_whole; intro L' h' F' N' B' X' T' D'; (try dsimp only); (try k_fold)) | (refine' enter_SC ?k1 ?k2 ?k3 ?k5 ?kd ?kA ?kF ?kK ?k6 ?k7 ?k8 ?k9 ?kB ?kD ?_ ?c2 ?c3 ?c4; (case kA => exact rfl); (case kF => exact rfl); (case kK => assumption); (case k1 => k_asm); (case k2 => k_asm); (case k3 => k_asm); (case k5 => k_asm); (case kd => k_asm); (case k6 => k_is); (case k7 => k_is); (case k8 => ktr_room); (case k9 => exact BindsTo.of_eq rfl); (case kB => exact rfl); (case kD => decide +kernel); (case c2 => exact rfl); (case c3 => exact rfl); (case c4 => exact rfl); k_whole; intro L' h' tk' cells' F' N' Y' B' X' T' D'; k_cells Y'; (try simp only [List.cons_append, List.nil_append] at N'); (try dsimp only); (try k_fold)))))
  (k_with "EndS" => (refine EndS.mk2 (by k_asm) (by first | exact KtsTurn.refl | with_reducible assumption | exact KtsTurn.trans (by with_reducible assumption) (by with_reducible assumption)) ?_; intro hTu; (try dsimp only)))
  (k_with "leaving ref" => (k_here; refine leave_newS (by assumption) (by assumption) (by assumption) (by k_asm) ?_; k_whole; intro h' RS' R' U'; (try dsimp only at RS' R' U' ⊢)))
  (k_with "call ref" => (k_here; (with_reducible show wpAny _ _ (call (Value.ref 160) _) _ _ _); k_dflt (refine TcS.use (ref_c56 _ _ _ _ _ _) (by k_asm) (by k_asm) (by k_asm) (by k_asm) (by k_asm) (by k_asm) (by first | exact rfl | assumption) (by ktr_room) (by ktr_units) ?_; k_whole; intro r9 h1 h9 tk9 T9 F9 N9 B9 X9 P9 D9 p9; subst p9; (try dsimp only); (try k_fold))))
  (k_with "call ref" => (k_here; (with_reducible show wpAny _ _ (call (Value.ref 160) _) _ _ _); k_dflt (refine TcS.use (ref_c77 _ _ _ _ _ _) (by k_asm) (by k_asm) (by k_asm) (by k_asm) (by k_asm) (by k_asm) (by first | exact rfl | assumption) (by ktr_room) (by ktr_units) ?_; k_whole; intro r9 h1 h9 tk9 T9 F9 N9 B9 X9 P9 D9 p9; subst p9; (try dsimp only); (try k_fold))))
  unfold TcS
  k_fill
  intro dp un gd cn cs a ccd cl outer A₀ base h₀ L m s Q E B F XB TB D hk hd hu hret
  have X := XB.keeps B.stays
  have T := TB.keeps B.stays
  k_extra "enterS"
  k_steps
  all_goals first
    | exact hret _ _ _ (by with_reducible assumption) rfl
    | (by_cases hy : y = 0
       · exfalso; omega
       · obtain ⟨f1, f2⟩ := part_facts x y hy
         first
           | (exfalso; omega)
           | exact hret _ _ _ (by with_reducible assumption) (by rw [decide_eq_true (by omega)])
           | (exfalso; simp only [bne_iff_ne, ne_eq, decide_eq_true_eq] at *; omega))
end Mine
namespace Mine
open PySem PySem.W
set_option Elab.async false
set_option maxRecDepth 100000
theorem land_step (a b : Nat) : ∃ r, a &&& b = 2 * ((a / 2) &&& (b / 2)) + r ∧ r = (a % 2) &&& (b % 2) := by
  refine ⟨(a &&& b) % 2, ?_, ?_⟩
  · have h := Nat.and_div_two_pow (a := a) (b := b) (n := 1)
    rw [Nat.pow_one] at h
    rw [← h]; omega
  · have h := Nat.and_mod_two_pow (a := a) (b := b) (n := 1)
    rw [Nat.pow_one] at h
    exact h
theorem lor_step (a b : Nat) : ∃ r, a ||| b = 2 * ((a / 2) ||| (b / 2)) + r ∧ r = (a % 2) ||| (b % 2) := by
  refine ⟨(a ||| b) % 2, ?_, ?_⟩
  · have h := Nat.or_div_two_pow (a := a) (b := b) (n := 1)
    rw [Nat.pow_one] at h
    rw [← h]; omega
  · have h := Nat.or_mod_two_pow (a := a) (b := b) (n := 1)
    rw [Nat.pow_one] at h
    exact h
theorem offs (u v : Int) : (1 - u) * (1 - v) = 1 - u - v + u * v := by
  rw [Int.sub_mul, Int.one_mul, Int.mul_sub, Int.mul_one]; omega
theorem land01 {a b : Nat} (ha : a < 2) (hb : b < 2) : ((a &&& b : Nat) : Int) = (a : Int) * b := by
  have ha : a = 0 ∨ a = 1 := by omega
  have hb : b = 0 ∨ b = 1 := by omega
  rcases ha with ha | ha <;> rcases hb with hb | hb <;> subst ha <;> subst hb <;> decide
theorem lor01 {a b : Nat} (ha : a < 2) (hb : b < 2) : ((a ||| b : Nat) : Int) = (a : Int) + b - (a : Int) * b := by
  have ha : a = 0 ∨ a = 1 := by omega
  have hb : b = 0 ∨ b = 1 := by omega
  rcases ha with ha | ha <;> rcases hb with hb | hb <;> subst ha <;> subst hb <;> decide
theorem nn {x : Int} (h : 0 ≤ x) : 0 ≤ x / 2 := by omega
theorem ng {x : Int} (h : ¬ 0 ≤ x) : ¬ 0 ≤ x / 2 := by omega
theorem tn1 {x : Int} (h : 0 ≤ x) : x.toNat / 2 = (x / 2).toNat := by omega
theorem tn2 {x : Int} (h : 0 ≤ x) : ((x.toNat % 2 : Nat) : Int) = x % 2 := by omega
theorem tg1 {x : Int} (h : ¬ 0 ≤ x) : (-x - 1).toNat / 2 = (-(x / 2) - 1).toNat := by omega
theorem tg2 {x : Int} (h : ¬ 0 ≤ x) : (((-x - 1).toNat % 2 : Nat) : Int) = 1 - x % 2 := by omega
theorem l2 (n : Nat) : n % 2 < 2 := Nat.mod_lt _ (by decide)
theorem p1 {a r : Nat} {c : Int} (h : (r : Int) = c) : ((2 * a + r : Nat) : Int) = 2 * (a : Int) + c := by omega
theorem p3 {a r : Nat} {u v w : Int} (h : (r : Int) = 1 - u + (1 - v) - (1 - u - v + w)) : -((2 * a + r : Nat) : Int) - 1 = 2 * (-(a : Int) - 1) + w := by omega
theorem d4 (x : Int) : x / 2 / 2 = x / 4 := Int.ediv_ediv_of_nonneg (by decide)
theorem d8 (x : Int) : x / 4 / 2 = x / 8 := Int.ediv_ediv_of_nonneg (by decide)
theorem d16 (x : Int) : x / 8 / 2 = x / 16 := Int.ediv_ediv_of_nonneg (by decide)
theorem m1 (x : Int) : x % 16 / 1 % 2 = x % 2 := by omega
theorem m2 (x : Int) : x % 16 / 2 % 2 = x / 2 % 2 := by omega
theorem m4 (x : Int) : x % 16 / 4 % 2 = x / 4 % 2 := by omega
theorem m8 (x : Int) : x % 16 / 8 % 2 = x / 8 % 2 := by omega
theorem four {o a b c d : Int} : 2 * (2 * (2 * (2 * o + d) + c) + b) + a = 16 * o + (a + 2 * b + 4 * c + 8 * d) := by omega
theorem sixteen {o a b c d : Int} (ha : 0 ≤ a ∧ a ≤ 1) (hb : 0 ≤ b ∧ b ≤ 1) (hc : 0 ≤ c ∧ c ≤ 1) (hd : 0 ≤ d ∧ d ≤ 1) : (16 * o + (a + 2 * b + 4 * c + 8 * d)) % 16 = a + 2 * b + 4 * c + 8 * d ∧ (16 * o + (a + 2 * b + 4 * c + 8 * d)) / 16 = o := by omega
theorem neg2 (x : Int) : (-x - 1) / 2 = -(x / 2) - 1 ∧ (-x - 1) % 2 = 1 - x % 2 := by omega
theorem orA (a p q w : Int) : -(2 * a + (1 - p - q + w)) - 1 = 2 * (-a - 1) + (p + q - w) := by omega
theorem xorA (a o p q w : Int) : 2 * o + (p + q - w) - (2 * a + w) = 2 * (o - a) + (p + q - 2 * w) := by omega
/-- one bit more -/
theorem and_rec (x y : Int) : Builtin.bitAnd x y = 2 * Builtin.bitAnd (x / 2) (y / 2) + (x % 2) * (y % 2) := by
  unfold Builtin.bitAnd Builtin.bitNot
  by_cases hx : 0 ≤ x <;> by_cases hy : 0 ≤ y
  · simp only [hx, hy, nn hx, nn hy, decide_true]
    obtain ⟨r, h, e⟩ := land_step x.toNat y.toNat
    have f := land01 (l2 x.toNat) (l2 y.toNat)
    rw [← e, tn2 hx, tn2 hy] at f
    rw [h, tn1 hx, tn1 hy]
    exact p1 f
  · simp only [hx, hy, nn hx, ng hy, decide_true, decide_false]
    obtain ⟨r, h, e⟩ := land_step x.toNat (-y - 1).toNat
    have f := land01 (l2 x.toNat) (l2 (-y - 1).toNat)
    rw [← e, tn2 hx, tg2 hy, Int.mul_sub, Int.mul_one] at f
    rw [h, tn1 hx, tg1 hy]
    generalize (x % 2) * (y % 2) = w at *
    omega
  · simp only [hx, hy, ng hx, nn hy, decide_true, decide_false]
    obtain ⟨r, h, e⟩ := land_step y.toNat (-x - 1).toNat
    have f := land01 (l2 y.toNat) (l2 (-x - 1).toNat)
    rw [← e, tn2 hy, tg2 hx, Int.mul_sub, Int.mul_one, Int.mul_comm (y % 2)] at f
    rw [h, tn1 hy, tg1 hx]
    generalize (x % 2) * (y % 2) = w at *
    omega
  · simp only [hx, hy, ng hx, ng hy, decide_false]
    obtain ⟨r, h, e⟩ := lor_step (-x - 1).toNat (-y - 1).toNat
    have f := lor01 (l2 (-x - 1).toNat) (l2 (-y - 1).toNat)
    rw [← e, tg2 hx, tg2 hy, offs] at f
    rw [h, tg1 hx, tg1 hy]
    exact p3 f
theorem or_rec (x y : Int) : Builtin.bitOr x y = 2 * Builtin.bitOr (x / 2) (y / 2) + (x % 2 + y % 2 - (x % 2) * (y % 2)) := by
  unfold Builtin.bitOr
  rw [and_rec]
  unfold Builtin.bitNot
  rw [(neg2 x).1, (neg2 y).1, (neg2 x).2, (neg2 y).2, offs]
  exact orA _ _ _ _
theorem xor_rec (x y : Int) : Builtin.bitXor x y = 2 * Builtin.bitXor (x / 2) (y / 2) + (x % 2 + y % 2 - 2 * ((x % 2) * (y % 2))) := by
  unfold Builtin.bitXor
  rw [and_rec, or_rec]
  exact xorA _ _ _ _ _
theorem get01 {u v : Int} (hu : u = 0 ∨ u = 1) (hv : v = 0 ∨ v = 1) : [(0 : Int), 0, 1].getD (u + v).toNat 0 = u * v ∧ [(0 : Int), 1, 1].getD (u + v).toNat 0 = u + v - u * v ∧ [(0 : Int), 1, 0].getD (u + v).toNat 0 = u + v - 2 * (u * v) := by
  rcases hu with h | h <;> rcases hv with h' | h' <;> subst h <;> subst h' <;> decide
/-- bit by bit in each figure -/
theorem bits_law {op : Int → Int → Int} {k0 k1 k2 : Int} (t : Int → Int → Int) (hrec : ∀ x y, op x y = 2 * op (x / 2) (y / 2) + t (x % 2) (y % 2))
    (ht : ∀ u v, (u = 0 ∨ u = 1) → (v = 0 ∨ v = 1) → [k0, k1, k2].getD (u + v).toNat 0 = t u v ∧ 0 ≤ t u v ∧ t u v ≤ 1) :
    ∀ (k : Nat) (x y : Int), List.zipWith (bitsF k0 k1 k2) (digs k x) (digs k y) = digs k (op x y)
  | 0, _, _ => rfl
  | k + 1, x, y => by
    have e : op x y = 16 * op (x / 16) (y / 16) + (t (x % 2) (y % 2) + 2 * t (x / 2 % 2) (y / 2 % 2) + 4 * t (x / 4 % 2) (y / 4 % 2) + 8 * t (x / 8 % 2) (y / 8 % 2)) := by
      rw [hrec x y, hrec (x / 2), hrec (x / 2 / 2), hrec (x / 2 / 2 / 2)]
      simp only [d4, d8, d16]
      exact four
    have fb : bitsF k0 k1 k2 (x % 16) (y % 16) = t (x % 2) (y % 2) + 2 * t (x / 2 % 2) (y / 2 % 2) + 4 * t (x / 4 % 2) (y / 4 % 2) + 8 * t (x / 8 % 2) (y / 8 % 2) := by
      have q : ∀ (z b : Int), 0 ≤ b → z.fdiv b = z / b := fun z b hb => Int.fdiv_eq_ediv_of_nonneg z hb
      have q2 : ∀ z : Int, z.fmod 2 = z % 2 := fun z => Int.fmod_eq_emod_of_nonneg z (by decide)
      simp only [bitsF, List.map_cons, List.map_nil, List.sum_cons, List.sum_nil, q _ 1 (by decide), q _ 2 (by decide), q _ 4 (by decide), q _ 8 (by decide), q2, m1, m2, m4, m8]
      rw [(ht _ _ (Int.emod_two_eq _) (Int.emod_two_eq _)).1, (ht _ _ (Int.emod_two_eq _) (Int.emod_two_eq _)).1, (ht _ _ (Int.emod_two_eq _) (Int.emod_two_eq _)).1, (ht _ _ (Int.emod_two_eq _) (Int.emod_two_eq _)).1]
      omega
    obtain ⟨s1, s2⟩ := sixteen (o := op (x / 16) (y / 16)) (ht (x % 2) (y % 2) (Int.emod_two_eq _) (Int.emod_two_eq _)).2 (ht (x / 2 % 2) (y / 2 % 2) (Int.emod_two_eq _) (Int.emod_two_eq _)).2 (ht (x / 4 % 2) (y / 4 % 2) (Int.emod_two_eq _) (Int.emod_two_eq _)).2 (ht (x / 8 % 2) (y / 8 % 2) (Int.emod_two_eq _) (Int.emod_two_eq _)).2
    rw [digs, digs, digs, List.zipWith_cons_cons, bits_law t hrec ht k, fb, e, s1, s2]
theorem op_range {op : Int → Int → Int} (t : Int → Int → Int) (hrec : ∀ x y, op x y = 2 * op (x / 2) (y / 2) + t (x % 2) (y % 2))
    (ht : ∀ u v, (u = 0 ∨ u = 1) → (v = 0 ∨ v = 1) → 0 ≤ t u v ∧ t u v ≤ 1) (h0 : ∀ x y, (x = -1 ∨ x = 0) → (y = -1 ∨ y = 0) → -1 ≤ op x y ∧ op x y < 1) :
    ∀ (k : Nat) (x y : Int), -(2 ^ k) ≤ x → x < 2 ^ k → -(2 ^ k) ≤ y → y < 2 ^ k → -(2 ^ k) ≤ op x y ∧ op x y < 2 ^ k
  | 0, x, y, a, b, c, d => by
    have := h0 x y (by simp at a b; omega) (by simp at c d; omega)
    simpa using this
  | k + 1, x, y, a, b, c, d => by
    rw [Int.pow_succ] at *
    have h := op_range t hrec ht h0 k (x / 2) (y / 2)
    have f := ht (x % 2) (y % 2) (by omega) (by omega)
    rw [hrec x y]
    generalize (2 : Int) ^ k = p at *
    have h := h (by omega) (by omega) (by omega) (by omega)
    omega
theorem mul01 {u v : Int} (hu : u = 0 ∨ u = 1) (hv : v = 0 ∨ v = 1) : 0 ≤ u * v ∧ u * v ≤ u ∧ u * v ≤ v ∧ u + v - u * v ≤ 1 := by
  rcases hu with h | h <;> rcases hv with h' | h' <;> subst h <;> subst h' <;> decide
theorem and_digs (k : Nat) (x y : Int) : List.zipWith (bitsF 0 0 1) (digs k x) (digs k y) = digs k (Builtin.bitAnd x y) :=
  bits_law (fun u v => u * v) and_rec (fun u v hu hv => ⟨(get01 hu hv).1, by have := mul01 hu hv; (try dsimp only); omega⟩) k x y
theorem or_digs (k : Nat) (x y : Int) : List.zipWith (bitsF 0 1 1) (digs k x) (digs k y) = digs k (Builtin.bitOr x y) :=
  bits_law (fun u v => u + v - u * v) or_rec (fun u v hu hv => ⟨(get01 hu hv).2.1, by have := mul01 hu hv; (try dsimp only); omega⟩) k x y
theorem xor_digs (k : Nat) (x y : Int) : List.zipWith (bitsF 0 1 0) (digs k x) (digs k y) = digs k (Builtin.bitXor x y) :=
  bits_law (fun u v => u + v - 2 * (u * v)) xor_rec (fun u v hu hv => ⟨(get01 hu hv).2.2, by have := mul01 hu hv; (try dsimp only); omega⟩) k x y
theorem bit_ranges {x y : Int} (hx0 : -1048576 ≤ x) (hx1 : x < 1048576) (hy0 : -1048576 ≤ y) (hy1 : y < 1048576) :
    (-1048576 ≤ Builtin.bitAnd x y ∧ Builtin.bitAnd x y < 1048576) ∧ (-1048576 ≤ Builtin.bitOr x y ∧ Builtin.bitOr x y < 1048576) ∧ (-1048576 ≤ Builtin.bitXor x y ∧ Builtin.bitXor x y < 1048576) := by
  have a := op_range (fun u v => u * v) and_rec (fun u v hu hv => by have := mul01 hu hv; (try dsimp only); omega) (fun x y hx hy => by rcases hx with h | h <;> rcases hy with h' | h' <;> subst h <;> subst h' <;> decide) 20 x y (by omega) (by omega) (by omega) (by omega)
  have b := op_range (fun u v => u + v - u * v) or_rec (fun u v hu hv => by have := mul01 hu hv; (try dsimp only); omega) (fun x y hx hy => by rcases hx with h | h <;> rcases hy with h' | h' <;> subst h <;> subst h' <;> decide) 20 x y (by omega) (by omega) (by omega) (by omega)
  have c := op_range (fun u v => u + v - 2 * (u * v)) xor_rec (fun u v hu hv => by have := mul01 hu hv; (try dsimp only); omega) (fun x y hx hy => by rcases hx with h | h <;> rcases hy with h' | h' <;> subst h <;> subst h' <;> decide) 20 x y (by omega) (by omega) (by omega) (by omega)
  exact ⟨⟨by omega, by omega⟩, ⟨by omega, by omega⟩, by omega, by omega⟩
end Mine
namespace Mine
open PySem PySem.W
set_option Elab.async false
set_option maxRecDepth 100000
set_option maxHeartbeats 2000000
theorem fd (z b : Int) (hb : 0 ≤ b) : z.fdiv b = z / b := Int.fdiv_eq_ediv_of_nonneg z hb
theorem fm (z b : Int) (hb : 0 ≤ b) : z.fmod b = z % b := Int.fmod_eq_emod_of_nonneg z hb
theorem p16 (i : Nat) : (0 : Int) < 16 ^ i := Int.pow_pos (by decide)
theorem p2 (i : Nat) : (0 : Int) < 2 ^ i := Int.pow_pos (by decide)
/-- a row by its places -/
theorem digs_map : ∀ (k : Nat) (n : Int), digs k n = (List.range k).map (fun j => n / 16 ^ j % 16)
  | 0, _ => rfl
  | k + 1, n => by
    rw [digs, digs_map k, List.range_succ_eq_map, List.map_cons, List.map_map, Int.pow_zero, Int.ediv_one]
    congr 1
    apply List.map_congr_left
    intro j _
    show n / 16 / 16 ^ j % 16 = n / 16 ^ (j + 1) % 16
    rw [Int.ediv_ediv_of_nonneg (by decide), Int.pow_succ, Int.mul_comm]
theorem digs_get {k i : Nat} (n : Int) (h : i < k) : (digs k n).getD i 0 = n / 16 ^ i % 16 := by
  rw [digs_map, List.getD_eq_getElem?_getD, List.getElem?_map, List.getElem?_range h]
  rfl
theorem digs8 (x : Int) : digs 8 x = [x % 16, x / 16 % 16, x / 256 % 16, x / 4096 % 16, x / 65536 % 16, x / 1048576 % 16, x / 16777216 % 16, x / 268435456 % 16] := by
  rw [digs_map]
  show [x / 1 % 16, _, _, _, _, _, _, _] = _
  rw [Int.ediv_one]
  rfl
theorem rangeKs8 (f : Int → Int) : (rangeKs 0 8).map f = (List.range 8).map fun (i : Nat) => f (i : Int) := by
  rw [rangeKs, List.map_map]
  apply List.map_congr_left
  intro i _
  show f (0 + (i : Int)) = f i
  rw [Int.zero_add]
/-- the long row of moved, by its places -/
theorem far_get {x : Int} {n : Nat} (h0 : -1048576 ≤ x) (h1 : x < 1048576) (hn : n ≤ 12) : (farL (digs 8 x)).getD n 0 = x * 256 / 16 ^ n % 16 := by
  match n with
  | 0 => show (0 : Int) = x * 256 / 1 % 16; omega
  | 1 => show (0 : Int) = x * 256 / 16 % 16; omega
  | i + 2 =>
    have e : x * 256 / 16 ^ (i + 2) = x / 16 ^ i := by
      rw [Int.pow_add]
      exact Int.mul_ediv_mul_of_pos_left _ _ (by decide)
    rw [e]
    show (digs 8 x ++ [(digs 8 x).getD 7 0, (digs 8 x).getD 7 0, (digs 8 x).getD 7 0]).getD i 0 = _
    rw [List.getD_eq_getElem?_getD]
    by_cases hi : i < 8
    · rw [List.getElem?_append_left (by rw [digs_len]; exact hi), ← List.getD_eq_getElem?_getD, digs_get x hi]
    · rw [List.getElem?_append_right (by rw [digs_len]; omega), digs_len, digs_get x (by decide)]
      have g : ∀ B : Int, 1048576 ≤ B → x / B = if x < 0 then -1 else 0 := fun B hB => by
        split
        · exact (Int.ediv_eq_iff_of_pos (by omega)).mpr (by omega)
        · exact Int.ediv_eq_zero_of_lt (by omega) (by omega)
      have : i = 8 ∨ i = 9 ∨ i = 10 := by omega
      rcases this with h | h | h <;> subst h <;> rw [g _ (by decide), g _ (by decide)] <;> rfl
/-- a figure made of parts of two neighbours -/
theorem fig {k : Nat} (z : Int) (hk : k < 4) : (z % 16 + 16 * (z / 16 % 16)) / 2 ^ k % 16 = z / 2 ^ k % 16 := by
  match k with
  | 0 => show (z % 16 + 16 * (z / 16 % 16)) / 1 % 16 = z / 1 % 16; omega
  | 1 => show (z % 16 + 16 * (z / 16 % 16)) / 2 % 16 = z / 2 % 16; omega
  | 2 => show (z % 16 + 16 * (z / 16 % 16)) / 4 % 16 = z / 4 % 16; omega
  | 3 => show (z % 16 + 16 * (z / 16 % 16)) / 8 % 16 = z / 8 % 16; omega
theorem moved_digs {x b : Int} (h0 : -1048576 ≤ x) (h1 : x < 1048576) (b0 : -8 ≤ b) (b1 : b ≤ 11) : movedL (digs 8 x) b = digs 8 (x * 256 / 2 ^ (8 + b).toNat) := by
  obtain ⟨q, hq⟩ : ∃ q : Nat, 2 + b.fdiv 4 = q := ⟨(2 + b.fdiv 4).toNat, by rw [fd _ _ (by decide)]; omega⟩
  obtain ⟨k, hk⟩ : ∃ k : Nat, b.fmod 4 = k := ⟨(b.fmod 4).toNat, by rw [fm _ _ (by decide)]; omega⟩
  have hk4 : k < 4 := by rw [fm _ _ (by decide)] at hk; omega
  have hq4 : q ≤ 4 := by rw [fd _ _ (by decide)] at hq; omega
  have hs : (8 + b).toNat = 4 * q + k := by
    rw [fd _ _ (by decide)] at hq
    rw [fm _ _ (by decide)] at hk
    omega
  unfold movedL
  rw [rangeKs8, digs_map 8 (_ / _), hq, hk, hs]
  apply List.map_congr_left
  intro i hi
  have hi : i < 8 := List.mem_range.mp hi
  have e1 : ((q : Int) + (i : Int)).toNat = q + i := by omega
  have e2 : ((q : Int) + (i : Int) + 1).toNat = q + i + 1 := by omega
  rw [e1, e2, far_get h0 h1 (by omega), far_get h0 h1 (by omega), fm _ _ (by decide), fd _ _ (Int.le_of_lt (p2 _)), Int.toNat_natCast]
  have e3 : x * 256 / 16 ^ (q + i + 1) = x * 256 / 16 ^ (q + i) / 16 := by
    rw [Int.pow_succ, Int.ediv_ediv_of_nonneg (Int.le_of_lt (p16 _))]
  rw [e3, fig _ hk4, Int.ediv_ediv_of_nonneg (Int.le_of_lt (p16 _)), Int.ediv_ediv_of_nonneg (Int.le_of_lt (p2 _))]
  have e4 : (16 : Int) ^ (q + i) * 2 ^ k = 2 ^ (4 * q + k) * 16 ^ i := by
    rw [Int.pow_add, Int.pow_add, Int.pow_mul, show ((2 : Int) ^ 4) = 16 from rfl, Int.mul_assoc, Int.mul_assoc, Int.mul_comm (16 ^ i)]
  rw [e4]
theorem shr_digs {x r : Int} (h0 : -1048576 ≤ x) (h1 : x < 1048576) (r0 : 0 ≤ r) (r1 : r ≤ 11) : movedL (digs 8 x) r = digs 8 (x.fdiv (2 ^ r.toNat)) := by
  rw [moved_digs h0 h1 (by omega) r1, fd _ _ (Int.le_of_lt (p2 _)), show (8 + r).toNat = r.toNat + 8 by omega, Int.pow_add]
  congr 1
  exact Int.mul_ediv_mul_of_pos_left _ _ (by decide)
theorem shl_digs {x l : Int} (h0 : -1048576 ≤ x) (h1 : x < 1048576) (r0 : 0 ≤ l) (r1 : l ≤ 8) : movedL (digs 8 x) (-l) = digs 8 (x * 2 ^ l.toNat) := by
  rw [moved_digs h0 h1 (by omega) (by omega)]
  congr 1
  have e : (256 : Int) = 2 ^ l.toNat * 2 ^ (8 + -l).toNat := by
    rw [← Int.pow_add, show l.toNat + (8 + -l).toNat = 8 by omega]
    rfl
  rw [e, ← Int.mul_assoc]
  exact Int.mul_ediv_cancel _ (Int.ne_of_gt (p2 _))
end Mine
namespace Mine
open PySem PySem.W
set_option Elab.async false
set_option maxRecDepth 100000
set_option maxHeartbeats 2000000
theorem add_row (x y : Int) : plusL (digs 8 x) (digs 8 y) 0 = digs 8 (x + y) := by rw [plus_digs, Int.add_zero]
theorem sub_row (x y : Int) : plusL (digs 8 x) (digs 8 (-y - 1)) 1 = digs 8 (x - y) := by
  rw [plus_digs, show x + (-y - 1) + 1 = x - y by omega]
theorem neg_row {y : Int} {zs : List Int} (hz : zs = List.replicate 8 0) : plusL (digs 8 (-y - 1)) zs 1 = digs 8 (-y) := by
  rw [hz, ← digs_zero, plus_digs, show -y - 1 + 0 + 1 = -y by omega]
def modL (ds : List Int) (r : Int) : List Int := (rangeKs 0 8).map fun j => (ds.getD j.toNat 0).fmod (2 ^ (if r - 4 * j > 0 then r - 4 * j else 0).toNat)
/-- two remainders by powers of two -/
theorem mod_two (z : Int) (e : Nat) : z % 16 % 2 ^ e = z % 2 ^ e % 16 := by
  by_cases h : e ≤ 4
  · have d : (2 : Int) ^ e ∣ 16 := ⟨2 ^ (4 - e), by rw [← Int.pow_add, show e + (4 - e) = 4 by omega]; rfl⟩
    have l : (2 : Int) ^ e ≤ 16 := Int.le_of_dvd (by decide) d
    rw [Int.emod_emod_of_dvd _ d, Int.emod_eq_of_lt (Int.emod_nonneg _ (Int.ne_of_gt (p2 e))) (Int.lt_of_lt_of_le (Int.emod_lt_of_pos _ (p2 e)) l)]
  · have d : (16 : Int) ∣ 2 ^ e := ⟨2 ^ (e - 4), by rw [show (16 : Int) = 2 ^ 4 from rfl, ← Int.pow_add, show 4 + (e - 4) = e by omega]⟩
    have l : (16 : Int) ≤ 2 ^ e := Int.le_of_dvd (p2 e) d
    rw [Int.emod_emod_of_dvd _ d, Int.emod_eq_of_lt (Int.emod_nonneg _ (by decide)) (Int.lt_of_lt_of_le (Int.emod_lt_of_pos _ (by decide)) l)]
theorem mod_div (x p q : Int) (hp : 0 < p) (hq : 0 < q) : x % (p * q) / p = x / p % q := by
  rw [Int.emod_def, Int.emod_def, ← Int.ediv_ediv_of_nonneg (Int.le_of_lt hp), Int.mul_assoc, Int.sub_mul_ediv_left _ _ (Int.ne_of_gt hp)]
theorem mod_digs {x r : Int} (r0 : 0 ≤ r) (r1 : r ≤ 11) : modL (digs 8 x) r = digs 8 (x.fmod (2 ^ r.toNat)) := by
  obtain ⟨m, rfl⟩ : ∃ m : Nat, r = m := ⟨r.toNat, by omega⟩
  unfold modL
  rw [rangeKs8, digs_map 8 (x.fmod _), fm _ _ (Int.le_of_lt (p2 _)), Int.toNat_natCast]
  apply List.map_congr_left
  intro i hi
  have hi : i < 8 := List.mem_range.mp hi
  rw [fm _ _ (Int.le_of_lt (p2 _)), Int.toNat_natCast, digs_get x hi]
  have e : (if (m : Int) - 4 * (i : Int) > 0 then (m : Int) - 4 * (i : Int) else 0).toNat = m - 4 * i := by split <;> omega
  rw [e, mod_two]
  have e16 : (16 : Int) ^ i = 2 ^ (4 * i) := by rw [Int.pow_mul]; rfl
  by_cases h : 4 * i ≤ m
  · have e2 : (2 : Int) ^ m = 16 ^ i * 2 ^ (m - 4 * i) := by rw [e16, ← Int.pow_add, show 4 * i + (m - 4 * i) = m by omega]
    rw [e2, mod_div _ _ _ (p16 _) (p2 _)]
  · have e3 : m - 4 * i = 0 := by omega
    rw [e3, Int.pow_zero, Int.emod_one]
    have l : (2 : Int) ^ m ≤ 16 ^ i := by
      have e4 : (2 : Int) ^ (4 * i) = 2 ^ m * 2 ^ (4 * i - m) := by rw [← Int.pow_add, show m + (4 * i - m) = 4 * i by omega]
      rw [e16]
      exact Int.le_of_dvd (p2 _) ⟨_, e4⟩
    rw [Int.ediv_eq_zero_of_lt (Int.emod_nonneg _ (Int.ne_of_gt (p2 m))) (Int.lt_of_lt_of_le (Int.emod_lt_of_pos _ (p2 m)) l)]
theorem pow_le {r : Int} {k : Nat} (r0 : 0 ≤ r) (r1 : r ≤ k) : 1 ≤ (2 : Int) ^ r.toNat ∧ (2 : Int) ^ r.toNat ≤ 2 ^ k := by
  refine ⟨p2 _, ?_⟩
  have e : (2 : Int) ^ k = 2 ^ r.toNat * 2 ^ (k - r.toNat) := by rw [← Int.pow_add, show r.toNat + (k - r.toNat) = k by omega]
  exact Int.le_of_dvd (p2 _) ⟨_, e⟩
theorem shl_range {x l : Int} (h0 : -1048576 < x) (h1 : x < 1048576) (r0 : 0 ≤ l) (r1 : l ≤ 8) : -268435456 ≤ x * 2 ^ l.toNat ∧ x * 2 ^ l.toNat < 268435456 := by
  obtain ⟨a, b⟩ := pow_le (k := 8) r0 r1
  have b : (2 : Int) ^ l.toNat ≤ 256 := b
  generalize (2 : Int) ^ l.toNat = p at *
  have c := Nat.mul_le_mul (show x.natAbs ≤ 1048575 by omega) (show p.natAbs ≤ 256 by omega)
  rw [← Int.natAbs_mul] at c
  omega
theorem shr_range {x r : Int} (h0 : -1048576 < x) (h1 : x < 1048576) (r0 : 0 ≤ r) (r1 : r ≤ 11) : -268435456 ≤ x.fdiv (2 ^ r.toNat) ∧ x.fdiv (2 ^ r.toNat) < 268435456 := by
  obtain ⟨a, _⟩ := pow_le (k := 11) r0 r1
  rw [fd _ _ (Int.le_of_lt (p2 _))]
  generalize (2 : Int) ^ r.toNat = p at *
  exact ⟨Int.le_ediv_of_mul_le (by omega) (by omega), Int.ediv_lt_of_lt_mul (by omega) (by omega)⟩
theorem mod_range {x r : Int} (r0 : 0 ≤ r) (r1 : r ≤ 11) : -268435456 ≤ x.fmod (2 ^ r.toNat) ∧ x.fmod (2 ^ r.toNat) < 268435456 := by
  obtain ⟨_, b⟩ := pow_le (k := 11) r0 r1
  have b : (2 : Int) ^ r.toNat ≤ 2048 := b
  rw [fm _ _ (Int.le_of_lt (p2 _))]
  have c := Int.emod_nonneg x (Int.ne_of_gt (p2 r.toNat))
  have d := Int.emod_lt_of_pos x (p2 r.toNat)
  omega
end Mine
namespace Mine
open PySem PySem.W PySem.Spec PySem.Calls PyProof.Rows
set_option Elab.async false
set_option maxRecDepth 100000
/-- two rows compared from their first place on -/
def lexB (eqv : Bool) : List Int → List Int → Bool
  | a :: r, b :: q => if a = b then lexB eqv r q else decide (a < b)
  | _, _ => eqv
section
open AutoSeq1 (wpAny_loadPart')
open MeetsSeq MeetsSeq3
theorem lt_loop (l b : Addr) (vs us : List Value) (ns ms : List Int) (n n2 : Nat) (hv : IntsAre vs ns) (hu : IntsAre us ms) (hsz : ns.length = ms.length) (k : Nat) :
    ∀ i : Nat, vs.length - i = k → Meets (Builtin.«list.__eq__.loop» ⟨[.ref l, .ref b, rawInt i, rawInt 0], []⟩)
      (fun _ R s => s.heap.get? l = some { cls := .type "list", dict := none, data := .seq vs.toArray n, slots := #[] } ∧ s.heap.get? b = some { cls := .type "list", dict := none, data := .seq us.toArray n2, slots := #[] } ∧
        R (.ok (.ret (.bool (lexB false (ns.drop i) (ms.drop i))))) s) := by
  have lv := hv.length
  have lu := hu.length
  induction k with
  | zero =>
    intro i hk prog w A R s h
    obtain ⟨hp, g, d, tk, os⟩ := s; obtain ⟨hl, hb, h⟩ := h
    wp_walk using wpAny_loadPart' hl, wpAny_loadPart' hb
    have hi1 : vs.toArray[((i : Nat) : Int).toNat]? = none := by simp; omega
    have hi2 : us.toArray[((i : Nat) : Int).toNat]? = none := by simp; omega
    have hd1 : ns.drop i = [] := by simp; omega
    have hd2 : ms.drop i = [] := by simp; omega
    rw [hd1, hd2] at h
    rw [hi1, hi2]
    wp_walk using wpAny_loadPart' hl, wpAny_loadPart' hb
    show R (.ok (.ret (.bool (decide (vs.toArray.size < us.toArray.size))))) _
    have : decide (vs.toArray.size < us.toArray.size) = false := by simp; omega
    rw [this]
    exact h
  | succ k ih =>
    intro i hk prog w A R s h
    obtain ⟨hp, g, d, tk, os⟩ := s; obtain ⟨hl, hb, h⟩ := h
    wp_walk using wpAny_loadPart' hl, wpAny_loadPart' hb
    have h1 : i < ns.length := by omega
    have h2 : i < ms.length := by omega
    obtain ⟨t, et⟩ := hv.get i _ (List.getElem?_eq_getElem h1)
    obtain ⟨u, eu⟩ := hu.get i _ (List.getElem?_eq_getElem h2)
    have hi1 : vs.toArray[((i : Nat) : Int).toNat]? = some (.int ns[i] t) := by simpa using et
    have hi2 : us.toArray[((i : Nat) : Int).toNat]? = some (.int ms[i] u) := by simpa using eu
    have hc : ((i : Int) + 1) = ((i + 1 : Nat) : Int) := by push_cast; rfl
    rw [List.drop_eq_getElem_cons h1, List.drop_eq_getElem_cons h2] at h
    rw [hi1, hi2]
    refine wpAny_bind (EqGives.int _ _ t u prog w _ _ _ _ ?_)
    cases hb' : (ns[i] == ms[i]) with
    | true =>
      have e : ns[i] = ms[i] := by simpa using hb'
      rw [lexB, if_pos e] at h
      wp_walk
      rw [hc]
      exact ⟨plainId_quiet plain_eq_loop _, codeAny_builtin entry_eq_loop (by
        rw [Around.under_plainId plain_eq_loop _]
        exact ih (i + 1) (by omega) prog w A R _ ⟨hl, hb, h⟩)⟩
    | false =>
      have e : ¬ ns[i] = ms[i] := by simpa using hb'
      rw [lexB, if_neg e] at h
      wp_walk using wpAny_loadPart' hl, wpAny_loadPart' hb
      rw [hi1, hi2]
      refine wpAny_bind (m := richCompare .Lt (.int ns[i] t) (.int ms[i] u)) ?_
      refine (show wpAny _ _ (compareOp .Lt (.int ns[i] t) (.int ms[i] u)) _ _ _ from PyProof.Rows.lt_int ?_)
      wp_walk
      exact h
theorem le_loop (l b : Addr) (vs us : List Value) (ns ms : List Int) (n n2 : Nat) (hv : IntsAre vs ns) (hu : IntsAre us ms) (hsz : ns.length = ms.length) (k : Nat) :
    ∀ i : Nat, vs.length - i = k → Meets (Builtin.«list.__eq__.loop» ⟨[.ref l, .ref b, rawInt i, rawInt 1], []⟩)
      (fun _ R s => s.heap.get? l = some { cls := .type "list", dict := none, data := .seq vs.toArray n, slots := #[] } ∧ s.heap.get? b = some { cls := .type "list", dict := none, data := .seq us.toArray n2, slots := #[] } ∧
        R (.ok (.ret (.bool (lexB true (ns.drop i) (ms.drop i))))) s) := by
  have lv := hv.length
  have lu := hu.length
  induction k with
  | zero =>
    intro i hk prog w A R s h
    obtain ⟨hp, g, d, tk, os⟩ := s; obtain ⟨hl, hb, h⟩ := h
    wp_walk using wpAny_loadPart' hl, wpAny_loadPart' hb
    have hi1 : vs.toArray[((i : Nat) : Int).toNat]? = none := by simp; omega
    have hi2 : us.toArray[((i : Nat) : Int).toNat]? = none := by simp; omega
    have hd1 : ns.drop i = [] := by simp; omega
    have hd2 : ms.drop i = [] := by simp; omega
    rw [hd1, hd2] at h
    rw [hi1, hi2]
    wp_walk using wpAny_loadPart' hl, wpAny_loadPart' hb
    show R (.ok (.ret (.bool (decide (vs.toArray.size ≤ us.toArray.size))))) _
    have : decide (vs.toArray.size ≤ us.toArray.size) = true := by simp; omega
    rw [this]
    exact h
  | succ k ih =>
    intro i hk prog w A R s h
    obtain ⟨hp, g, d, tk, os⟩ := s; obtain ⟨hl, hb, h⟩ := h
    wp_walk using wpAny_loadPart' hl, wpAny_loadPart' hb
    have h1 : i < ns.length := by omega
    have h2 : i < ms.length := by omega
    obtain ⟨t, et⟩ := hv.get i _ (List.getElem?_eq_getElem h1)
    obtain ⟨u, eu⟩ := hu.get i _ (List.getElem?_eq_getElem h2)
    have hi1 : vs.toArray[((i : Nat) : Int).toNat]? = some (.int ns[i] t) := by simpa using et
    have hi2 : us.toArray[((i : Nat) : Int).toNat]? = some (.int ms[i] u) := by simpa using eu
    have hc : ((i : Int) + 1) = ((i + 1 : Nat) : Int) := by push_cast; rfl
    rw [List.drop_eq_getElem_cons h1, List.drop_eq_getElem_cons h2] at h
    rw [hi1, hi2]
    refine wpAny_bind (EqGives.int _ _ t u prog w _ _ _ _ ?_)
    cases hb' : (ns[i] == ms[i]) with
    | true =>
      have e : ns[i] = ms[i] := by simpa using hb'
      rw [lexB, if_pos e] at h
      wp_walk
      rw [hc]
      exact ⟨plainId_quiet plain_eq_loop _, codeAny_builtin entry_eq_loop (by
        rw [Around.under_plainId plain_eq_loop _]
        exact ih (i + 1) (by omega) prog w A R _ ⟨hl, hb, h⟩)⟩
    | false =>
      have e : ¬ ns[i] = ms[i] := by simpa using hb'
      rw [lexB, if_neg e] at h
      wp_walk using wpAny_loadPart' hl, wpAny_loadPart' hb
      rw [hi1, hi2]
      refine wpAny_bind (m := richCompare .LtE (.int ns[i] t) (.int ms[i] u)) ?_
      refine (show wpAny _ _ (compareOp .LtE (.int ns[i] t) (.int ms[i] u)) _ _ _ from PyProof.Rows.le_int ?_)
      have e3 : decide (ns[i] ≤ ms[i]) = decide (ns[i] < ms[i]) := by simp only [decide_eq_decide]; omega
      rw [e3]
      wp_walk
      exact h
theorem list_lt (l b : Addr) (vs us : List Value) (ns ms : List Int) (n n2 : Nat) (hv : IntsAre vs ns) (hu : IntsAre us ms) (hsz : ns.length = ms.length) :
    Meets (Builtin.«list.__lt__» ⟨[.ref l, .ref b], []⟩)
      (fun _ R s => s.heap.get? l = some { cls := .type "list", dict := none, data := .seq vs.toArray n, slots := #[] } ∧ s.heap.get? b = some { cls := .type "list", dict := none, data := .seq us.toArray n2, slots := #[] } ∧
        R (.ok (.ret (.bool (lexB false ns ms)))) s) := by
  intro prog w A R s h
  obtain ⟨hp, g, d, tk, os⟩ := s; obtain ⟨hl, hb, h⟩ := h
  have f3 := AutoSeq1.sub_list_list
  wp_walk using wpAny_loadPart' hl, wpAny_loadPart' hb
  exact ⟨plainId_quiet plain_eq_loop _, codeAny_builtin entry_eq_loop (by
    rw [Around.under_plainId plain_eq_loop _]
    exact lt_loop l b vs us ns ms n n2 hv hu hsz _ 0 rfl prog w A R _ ⟨hl, hb, h⟩)⟩
theorem list_le (l b : Addr) (vs us : List Value) (ns ms : List Int) (n n2 : Nat) (hv : IntsAre vs ns) (hu : IntsAre us ms) (hsz : ns.length = ms.length) :
    Meets (Builtin.«list.__le__» ⟨[.ref l, .ref b], []⟩)
      (fun _ R s => s.heap.get? l = some { cls := .type "list", dict := none, data := .seq vs.toArray n, slots := #[] } ∧ s.heap.get? b = some { cls := .type "list", dict := none, data := .seq us.toArray n2, slots := #[] } ∧
        R (.ok (.ret (.bool (lexB true ns ms)))) s) := by
  intro prog w A R s h
  obtain ⟨hp, g, d, tk, os⟩ := s; obtain ⟨hl, hb, h⟩ := h
  have f3 := AutoSeq1.sub_list_list
  wp_walk using wpAny_loadPart' hl, wpAny_loadPart' hb
  exact ⟨plainId_quiet plain_eq_loop _, codeAny_builtin entry_eq_loop (by
    rw [Around.under_plainId plain_eq_loop _]
    exact le_loop l b vs us ns ms n n2 hv hu hsz _ 0 rfl prog w A R _ ⟨hl, hb, h⟩)⟩
end
section
variable {prog : Program} {w : World} {A : Around} {E : Value → Shared → Prop} {s : Shared} {h₀ : Heap} {L a b : Addr} {news : Led} {vs us : List Value} {ns ms : List Int} {n n2 : Nat} {Q : Value → Shared → Prop}
theorem lt_rows (N : News h₀ L s.heap news) (ha : (a, listOf vs.toArray n) ∈ news) (hb : (b, listOf us.toArray n2) ∈ news) (hv : IntsAre vs ns) (hu : IntsAre us ms) (hsz : ns.length = ms.length) (hr : A.units < cLine) (h : Q (.bool (lexB false ns ms)) s) :
    wpAny (model prog w) A (compareOp .Lt (.ref a) (.ref b)) Q E s :=
  richCompare_meets_room (op := .Lt) (T := "list") ⟨_, (N _ ha).1, rfl⟩ ⟨_, (N _ hb).1, rfl⟩ PySem.F.slot_list_lt PySem.F.entry_list_lt (PySem.F.args_list_lt_2 _ _) (list_lt a b vs us ns ms n n2 hv hu hsz) ⟨(N _ ha).1, (N _ hb).1, (fun x => nomatch x), h⟩ hr
theorem le_rows (N : News h₀ L s.heap news) (ha : (a, listOf vs.toArray n) ∈ news) (hb : (b, listOf us.toArray n2) ∈ news) (hv : IntsAre vs ns) (hu : IntsAre us ms) (hsz : ns.length = ms.length) (hr : A.units < cLine) (h : Q (.bool (lexB true ns ms)) s) :
    wpAny (model prog w) A (compareOp .LtE (.ref a) (.ref b)) Q E s :=
  richCompare_meets_room (op := .LtE) (T := "list") ⟨_, (N _ ha).1, rfl⟩ ⟨_, (N _ hb).1, rfl⟩ PySem.F.slot_list_le PySem.F.entry_list_le (PySem.F.args_list_le_2 _ _) (list_le a b vs us ns ms n n2 hv hu hsz) ⟨(N _ ha).1, (N _ hb).1, (fun x => nomatch x), h⟩ hr
end
end Mine
namespace Mine
open PySem PySem.W
set_option Elab.async false
set_option maxRecDepth 100000
set_option maxHeartbeats 2000000
/-- the row from its last figure on, that one turned -/
def keyL (x : Int) : List Int := -(x / 268435456 % 16) :: (digs 7 x).reverse
def cmpB (e : Bool) (u v : Int) : Bool := if u = v then e else decide (u < v)
theorem cmp_of {e : Bool} {u v x y : Int} (h1 : u = v → x = y) (h2 : u < v → x < y) (h3 : v < u → y < x) : cmpB e u v = cmpB e x y := by
  unfold cmpB
  by_cases h : u = v
  · rw [if_pos h, if_pos (h1 h)]
  · by_cases hl : u < v
    · have := h2 hl
      rw [if_neg h, if_neg (by omega), decide_eq_true hl, decide_eq_true this]
    · have := h3 (by omega)
      rw [if_neg h, if_neg (by omega), decide_eq_false hl, decide_eq_false (by omega)]
theorem cmp_two {e : Bool} {u v a b x y : Int} (h1 : u = v → cmpB e a b = cmpB e x y) (h2 : u < v → x < y) (h3 : v < u → y < x) : cmpB (cmpB e a b) u v = cmpB e x y := by
  by_cases h : u = v
  · rw [← h1 h, cmpB, if_pos h]
  · by_cases hl : u < v
    · have := h2 hl
      rw [cmpB, if_neg h, cmpB, if_neg (by omega), decide_eq_true hl, decide_eq_true this]
    · have := h3 (by omega)
      rw [cmpB, if_neg h, cmpB, if_neg (by omega), decide_eq_false hl, decide_eq_false (by omega)]
theorem lexB_app (e : Bool) (a b : Int) : ∀ {A B : List Int}, A.length = B.length → lexB e (A ++ [a]) (B ++ [b]) = lexB (cmpB e a b) A B
  | [], [], _ => rfl
  | c :: A, d :: B, h => by
    show (if c = d then lexB e (A ++ [a]) (B ++ [b]) else decide (c < d)) = if c = d then lexB _ A B else decide (c < d)
    rw [lexB_app e a b (Nat.succ.inj h)]
theorem lex_digs : ∀ (k : Nat) (e : Bool) (x y : Int), lexB e (digs k x).reverse (digs k y).reverse = cmpB e (x % 16 ^ k) (y % 16 ^ k)
  | 0, e, x, y => by rw [Int.pow_zero, Int.emod_one, Int.emod_one]; rfl
  | k + 1, e, x, y => by
    rw [digs, digs, List.reverse_cons, List.reverse_cons, lexB_app _ _ _ (by rw [List.length_reverse, List.length_reverse, digs_len, digs_len]), lex_digs k]
    have s : ∀ z : Int, z % 16 ^ (k + 1) = 16 * (z / 16 % 16 ^ k) + z % 16 := fun z => by
      rw [Int.pow_succ, Int.mul_comm, Int.emod_def z (16 * _), Int.emod_def (z / 16), ← Int.ediv_ediv_of_nonneg (by decide), Int.mul_assoc]
      generalize 16 ^ k * (z / 16 / 16 ^ k) = q
      omega
    rw [s x, s y]
    have a := Int.emod_nonneg x (b := 16) (by decide)
    have b := Int.emod_lt_of_pos x (b := 16) (by decide)
    have c := Int.emod_nonneg y (b := 16) (by decide)
    have d := Int.emod_lt_of_pos y (b := 16) (by decide)
    generalize x % 16 = a at *
    generalize y % 16 = b at *
    generalize x / 16 % 16 ^ k = u at *
    generalize y / 16 % 16 ^ k = v at *
    exact cmp_two (fun h => cmp_of (by omega) (by omega) (by omega)) (by omega) (by omega)
theorem lex_key (e : Bool) {x y : Int} (h0 : -1048576 < x) (h1 : x < 1048576) (g0 : -1048576 < y) (g1 : y < 1048576) : lexB e (keyL x) (keyL y) = cmpB e x y := by
  have sp : ∀ {z : Int}, -1048576 < z → z < 1048576 → ∃ s u, z / 268435456 % 16 = s ∧ z % 16 ^ 7 = u ∧ 0 ≤ u ∧ u < 268435456 ∧ ((s = 0 ∧ z = u) ∨ (s = 15 ∧ z = u - 268435456)) := fun {z} a b => ⟨_, z % 268435456, rfl, rfl, by omega, by omega, by omega⟩
  obtain ⟨s, u, es, eu, u0, u1, hs⟩ := sp h0 h1
  obtain ⟨t, v, et, ev, v0, v1, ht⟩ := sp g0 g1
  unfold keyL
  show (if _ then lexB e (digs 7 x).reverse (digs 7 y).reverse else _) = _
  rw [lex_digs, es, et, eu, ev]
  show cmpB (cmpB e u v) (-s) (-t) = _
  exact cmp_two (fun h => cmp_of (by omega) (by omega) (by omega)) (by omega) (by omega)
theorem lt_key {x y : Int} (h0 : -1048576 < x) (h1 : x < 1048576) (g0 : -1048576 < y) (g1 : y < 1048576) : lexB false (keyL x) (keyL y) = decide (x < y) := by
  rw [lex_key false h0 h1 g0 g1, cmpB]
  split
  · rw [decide_eq_false (by omega)]
  · rfl
theorem le_key {x y : Int} (h0 : -1048576 < x) (h1 : x < 1048576) (g0 : -1048576 < y) (g1 : y < 1048576) : lexB true (keyL x) (keyL y) = decide (x ≤ y) := by
  rw [lex_key true h0 h1 g0 g1, cmpB]
  split
  · rw [decide_eq_true (by omega)]
  · rw [decide_eq_decide]; omega
theorem eq_key {x y : Int} (h0 : -1048576 < x) (h1 : x < 1048576) (g0 : -1048576 < y) (g1 : y < 1048576) : decide (keyL x = keyL y) = decide (x = y) := by
  rw [decide_eq_decide]
  constructor
  · intro h
    have a := lt_key h0 h1 g0 g1
    have b := lt_key g0 g1 h0 h1
    rw [h] at a b
    have c := lex_key false g0 g1 g0 g1
    rw [cmpB, if_pos rfl] at c
    rw [c] at a b
    have := of_decide_eq_false a.symm
    have := of_decide_eq_false b.symm
    omega
  · intro h; rw [h]
end Mine
namespace Mine
open PySem PySem.W PySem.Spec PySem.Calls PyProof.Rows
set_option Elab.async false
set_option maxRecDepth 100000
theorem key_len (x y : Int) : (keyL x).length = (keyL y).length := rfl
theorem pq_key (x : Int) : [-(digs 8 x).getD (Int.toNat 7) 0] ++ (List.take 7 (digs 8 x)).reverse = keyL x := by
  rw [digs_get x (show Int.toNat 7 < 8 by decide)]; rfl
section
variable {prog : Program} {w : World} {A : Around} {E : Value → Shared → Prop} {s : Shared} {h₀ : Heap} {L a b : Addr} {news : Led} {vs us : List Value} {x y : Int} {n n2 : Nat} {Q : Value → Shared → Prop}
theorem lt_pq (N : News h₀ L s.heap news) (ha : (a, listOf vs.toArray n) ∈ news) (hb : (b, listOf us.toArray n2) ∈ news) (hv : IntsAre vs ([-(digs 8 x).getD (Int.toNat 7) 0] ++ (List.take 7 (digs 8 x)).reverse)) (hu : IntsAre us ([-(digs 8 y).getD (Int.toNat 7) 0] ++ (List.take 7 (digs 8 y)).reverse))
    (hx0 : -1048576 < x) (hx1 : x < 1048576) (hy0 : -1048576 < y) (hy1 : y < 1048576) (hr : A.units < cLine) (h : Q (.bool (decide (x < y))) s) :
    wpAny (model prog w) A (compareOp .Lt (.ref a) (.ref b)) Q E s := by
  rw [pq_key] at hv hu
  refine lt_rows N ha hb hv hu (key_len x y) hr ?_
  rw [lt_key hx0 hx1 hy0 hy1]
  exact h
theorem le_pq (N : News h₀ L s.heap news) (ha : (a, listOf vs.toArray n) ∈ news) (hb : (b, listOf us.toArray n2) ∈ news) (hv : IntsAre vs ([-(digs 8 x).getD (Int.toNat 7) 0] ++ (List.take 7 (digs 8 x)).reverse)) (hu : IntsAre us ([-(digs 8 y).getD (Int.toNat 7) 0] ++ (List.take 7 (digs 8 y)).reverse))
    (hx0 : -1048576 < x) (hx1 : x < 1048576) (hy0 : -1048576 < y) (hy1 : y < 1048576) (hr : A.units < cLine) (h : Q (.bool (decide (x ≤ y))) s) :
    wpAny (model prog w) A (compareOp .LtE (.ref a) (.ref b)) Q E s := by
  rw [pq_key] at hv hu
  refine le_rows N ha hb hv hu (key_len x y) hr ?_
  rw [le_key hx0 hx1 hy0 hy1]
  exact h
theorem eq_pq (N : News h₀ L s.heap news) (ha : (a, listOf vs.toArray n) ∈ news) (hb : (b, listOf us.toArray n2) ∈ news) (hv : IntsAre vs ([-(digs 8 x).getD (Int.toNat 7) 0] ++ (List.take 7 (digs 8 x)).reverse)) (hu : IntsAre us ([-(digs 8 y).getD (Int.toNat 7) 0] ++ (List.take 7 (digs 8 y)).reverse))
    (hx0 : -1048576 < x) (hx1 : x < 1048576) (hy0 : -1048576 < y) (hy1 : y < 1048576) (hr : A.units + 64 < cLine) (h : Q (.bool (x == y)) s) :
    wpAny (model prog w) A (compareOp .Eq (.ref a) (.ref b)) Q E s := by
  rw [pq_key] at hv hu
  refine ke_eq_ints (News.isList N ha) (News.isList N hb) hv hu hr ?_
  rw [eq_key hx0 hx1 hy0 hy1]
  exact h
end
end Mine
namespace Mine
open PySem PySem.W PySem.Spec PySem.Calls PyProof.Rows
set_option Elab.async false
set_option maxRecDepth 100000
section
variable {prog : Program} {w : World} {A : Around} {E : Value → Shared → Prop} {s : Shared} {env : Env} {h₀ : Heap} {target : Expr} {body : List Stmt} {Q : Flow → Shared → Prop}
/-- one pair of a number and its row, on the ledger -/
def Due (news : Led) (v : Value) : Prop := ∃ D n t d ys c, v = .ref D ∧ (D, ({ cls := .type "tuple", data := .seq #[.int n t, .ref d] } : Obj)) ∈ news ∧ (∀ p ∈ [(d, listOf (List.toArray ys) c)], p ∈ news) ∧ IntsAre ys (digs 8 n) ∧ -268435456 ≤ n ∧ n < 268435456
def Like (m₀ m : Str → Option Value) : Prop := ∀ y, y ≠ Str.ofString "row" → y ≠ Str.ofString "number" → m y = m₀ y
theorem Like.eq {m₀ m : Str → Option Value} (h : Like m₀ m) : m = fun y => if y = Str.ofString "row" then m (Str.ofString "row") else if y = Str.ofString "number" then m (Str.ofString "number") else m₀ y := by
  funext y
  by_cases a : y = Str.ofString "row"
  · rw [if_pos a, a]
  · by_cases b : y = Str.ofString "number"
    · rw [if_neg a, if_pos b, b]
    · rw [if_neg a, if_neg b, h y a b]
theorem due_rest {I : Addr} {news keep : Led} {m₀ : Str → Option Value} (hI : ∀ p ∈ news, p.1 < I) (hk : SubL keep news)
    (turn : ∀ (news : Led) (m : Str → Option Value) (I : Addr) (o : Obj) (D : Addr) (n : Int) (t : Tok) (d : Addr) (ys : List Value) (c : Nat) (h : Heap) (tk : Nat), IsTup h D #[.int n t, .ref d] → (d, listOf ys.toArray c) ∈ ((I, o) :: news) → IntsAre ys (digs 8 n) → -268435456 ≤ n → n < 268435456 → (∀ p ∈ news, p.1 < I) → Fr h₀ env.locals h m → News h₀ env.locals h ((I, o) :: news) →
      wpAny (model prog w) A (assign target env (.ref D)) (fun _ s₂ => wpAny (model prog w) A (execs body env) (UnrPostW h₀ env.locals { s with heap := h, toks := tk } [(I, o)] (fun m' n' => n' = news ∧ Like m m') Q) E s₂) E { s with heap := h, toks := tk })
    (fin : ∀ (u v : Option Value) h tk, Fr h₀ env.locals h (fun y => if y = Str.ofString "row" then u else if y = Str.ofString "number" then v else m₀ y) → News h₀ env.locals h news → Q .next { s with heap := h, toks := tk }) :
    ∀ (vs : List Value) (m : Str → Option Value), Like m₀ m → (∀ v ∈ vs, Due news v) → ItemsRest prog w A E h₀ env target body Q s [(I, "list_iterator")] keep (vs.map .val) m news
  | [], m, hl, _ => ItemsRest.zero fun h tk F N => fin (m (Str.ofString "row")) (m (Str.ofString "number")) h tk (hl.eq ▸ F) N
  | v :: r, m, hl, g => ItemsRest.val fun h tk F => AllObj.cons fun o _ => AllObj.nil fun N => by
    obtain ⟨D, n, t, d, ys, c, rfl, hD, hd, hi, a, b⟩ := g v (.head _)
    refine wpAny_mono (turn news m I o D n t d ys c h tk ⟨_, (N _ (.tail _ hD)).1, rfl, _, rfl⟩ (.tail _ (hd _ (List.mem_singleton.mpr rfl))) hi a b hI F N) (fun _ s₂ h₂ => wpAny_mono h₂ (fun f s₃ p => unrPost_mono (fun m' n' x => ?_) p) fun _ _ e => e) fun _ _ e => e
    obtain ⟨e, l⟩ := x
    subst e
    exact ⟨hk, due_rest hI hk turn fin r m' (fun y a b => (l y a b).trans (hl y a b)) fun v hv => g v (.tail _ hv)⟩
theorem due_iter {ax : Addr} {n0 : Nat} {vs : List Value} {news : Led} {m₀ : Str → Option Value} (hh : A.handled = none) (F : Fr h₀ env.locals s.heap m₀) (N : News h₀ env.locals s.heap news) (hm : (ax, listOf vs.toArray n0) ∈ news) (good : ∀ v ∈ vs, Due news v)
    (turn : ∀ (news : Led) (m : Str → Option Value) (I : Addr) (o : Obj) (D : Addr) (n : Int) (t : Tok) (d : Addr) (ys : List Value) (c : Nat) (h : Heap) (tk : Nat), IsTup h D #[.int n t, .ref d] → (d, listOf ys.toArray c) ∈ ((I, o) :: news) → IntsAre ys (digs 8 n) → -268435456 ≤ n → n < 268435456 → (∀ p ∈ news, p.1 < I) → Fr h₀ env.locals h m → News h₀ env.locals h ((I, o) :: news) →
      wpAny (model prog w) A (assign target env (.ref D)) (fun _ s₂ => wpAny (model prog w) A (execs body env) (UnrPostW h₀ env.locals { s with heap := h, toks := tk } [(I, o)] (fun m' n' => n' = news ∧ Like m m') Q) E s₂) E { s with heap := h, toks := tk })
    (fin : ∀ (u v : Option Value) h tk, Fr h₀ env.locals h (fun y => if y = Str.ofString "row" then u else if y = Str.ofString "number" then v else m₀ y) → News h₀ env.locals h news → Q .next { s with heap := h, toks := tk }) :
    wpAny (model prog w) A (pyIter (.ref ax)) (fun it s₂ => TurnsAt prog w A h₀ env target body Q E it s₂) E s :=
  iter_listTurns hh F N hm rfl rfl fun _ hI => due_rest (keep := [(ax, listOf vs.toArray n0)]) hI (And.intro hm trivial) turn fin vs m₀ (fun _ _ _ => rfl) good
/-- a turn's end -/
theorem due_end {L I : Addr} {o : Obj} {news : Led} {m : Str → Option Value} {s₁ : Shared} {h' : Heap} {tk : Nat} {u v : Option Value} (F : Fr h₀ L h' (fun y => if y = Str.ofString "row" then u else if y = Str.ofString "number" then v else m y)) (N : News h₀ L h' ((I, o) :: news)) (hI : ∀ p ∈ news, p.1 < I) :
    UnrEndW h₀ L s₁ [(I, o)] (fun m' n' => n' = news ∧ Like m m') { s₁ with heap := h', toks := tk } :=
  ⟨h', tk, _, news, rfl, F, N, fun p hp q hq e => by
    rw [List.mem_singleton.mp hq] at e
    exact Nat.lt_irrefl _ (e ▸ hI p hp), rfl, fun y a b => by
    show (if _ then _ else if _ then _ else m y) = m y
    rw [if_neg a, if_neg b]⟩
end
end Mine
namespace Mine
open PySem PySem.W PySem.Spec PySem.Calls PyProof.Rows
set_option Elab.async false
set_option maxRecDepth 100000
set_option maxHeartbeats 8000000
local macro_rules | `(tactic| k_room) => `(tactic| ktr_room)
theorem val_digs {x : Int} (h0 : -268435456 ≤ x) (h1 : x < 268435456) : ∃ d0 d1 d2 d3 d4 d5 d6 d7, digs 8 x = [d0, d1, d2, d3, d4, d5, d6, d7] ∧ valOf d0 d1 d2 d3 d4 d5 d6 d7 = x := by
  refine ⟨_, _, _, _, _, _, _, _, digs8 x, ?_⟩
  unfold valOf
  have hs : x / 268435456 = -1 ∨ x / 268435456 = 0 := by omega
  rcases hs with hs | hs <;> simp only [hs] <;> simp <;> omega
theorem value_g (w mean mg mb) {r : Addr} {n : Nat} {vs : List Value} {x : Int} (hv : IntsAre vs (digs 8 x)) (h0 : -268435456 ≤ x) (h1 : x < 268435456) :
   Tc 3 w mean mg mb [(r, listOf vs.toArray n)] 146 [.ref r] (fun v tl => tl = [] ∧ ∃ t, v = .int x t) := by
  obtain ⟨d0, d1, d2, d3, d4, d5, d6, d7, hd, he⟩ := val_digs h0 h1
  rw [hd] at hv
  obtain ⟨t0, t1, t2, t3, t4, t5, t6, t7, rfl⟩ := ints8 hv
  have := value_c w mean mg mb r n d0 d1 d2 d3 d4 d5 d6 d7 t0 t1 t2 t3 t4 t5 t6 t7
  rw [he] at this
  exact this
theorem ints_not {vs : List Value} {y : Int} (h : IntsAre vs (digs 8 (-y - 1))) : IntsAre vs (digs 8 (Builtin.bitNot y)) := h
theorem news_last {h₀ h : Heap} {L : Addr} {news : Led} (k : Nat) (N : News h₀ L h news) : News h₀ L h (news.drop (news.length - k)) := fun p hp => N p (List.mem_of_mem_drop hp)
theorem bits_g (w mean mg mb) {r r2 r3 : Addr} {n n2 n3 : Nat} {vs vs2 : List Value} {as bs : List Int} {k0 k1 k2 : Int} {u0 u1 u2 : Tok} (h1 : IntsAre vs as) (h2 : IntsAre vs2 bs) (l1 : as.length = 8) (l2 : bs.length = 8) :
   Tc 3 w mean mg mb [(r, listOf vs.toArray n), (r2, listOf vs2.toArray n2), (r3, listOf #[.int k0 u0, .int k1 u1, .int k2 u2] n3)] 136 [.ref r, .ref r2, .ref r3] (NewRow (List.zipWith (bitsF k0 k1 k2) as bs)) :=
  bits_c w mean mg mb r r2 r3 n n2 n3 vs vs2 as bs k0 k1 k2 u0 u1 u2 h1 h2 l1 l2
theorem news_skip {h₀ h : Heap} {L : Addr} {news : Led} {a b : Addr × Obj} (N : News h₀ L h (a :: b :: news)) : News h₀ L h (a :: news) := fun p hp => N p (by rcases List.mem_cons.mp hp with h | h; exact h ▸ .head _; exact .tail _ (.tail _ h))
theorem no_self {x : Int} {X Y : Prop} (h : Y) : if (x != x) = true then X else Y := by
  rw [if_neg (by simp)]; exact h
theorem no_self' {x : Int} {X Y : Prop} (h : Y) : if (!(x == x)) = true then X else Y := by
  rw [if_neg (by simp)]; exact h
theorem no_self'' {x : Int} {X Y : Prop} (h : Y) : if decide (x ≠ x) = true then X else Y := by
  rw [if_neg (by simp)]; exact h
def MarkA : Prop := True
def MarkB : Prop := True
theorem news_second {h₀ h : Heap} {L : Addr} {news : Led} {a b : Addr × Obj} (N : News h₀ L h (a :: b :: news)) : News h₀ L h [b] := fun p hp => N p (by rw [List.mem_singleton.mp hp]; exact .tail _ (.head _))
local macro_rules | `(tactic| walk_at $s:str) => `(tactic| k_extra $s)
theorem pair_c (w mean mg mb) (x y : Int) (t u : Tok) (hx0 : -1048576 < x) (hx1 : x < 1048576) (hy0 : -1048576 < y) (hy1 : y < 1048576) :
   TcS 8 w mean mg mb 172 [.int x t, .int y u] (fun v => v = .bool true) := by
  have q1 : y.fmod 12 = y % 12 := Int.fmod_eq_emod_of_nonneg _ (by omega)
  have q2 : y.fmod 9 = y % 9 := Int.fmod_eq_emod_of_nonneg _ (by omega)
  have r0 : 0 ≤ y.fmod 12 := by omega
  have r1 : y.fmod 12 ≤ 11 := by omega
  have l0 : 0 ≤ y.fmod 9 := by omega
  have l1 : y.fmod 9 ≤ 8 := by omega
  clear q1 q2
  obtain ⟨⟨ba0, ba1⟩, ⟨bo0, bo1⟩, bx0, bx1⟩ := bit_ranges (x := x) (y := y) (by omega) (by omega) (by omega) (by omega)
  have bn0 : -268435456 ≤ Builtin.bitNot y := by show _ ≤ -y - 1; omega
  have bn1 : Builtin.bitNot y < 268435456 := by show -y - 1 < _; omega
  obtain ⟨sl0, sl1⟩ := shl_range hx0 hx1 l0 l1
  obtain ⟨sr0, sr1⟩ := shr_range hx0 hx1 r0 r1
  obtain ⟨sm0, sm1⟩ := mod_range (x := x) r0 r1
  k_with_none
  (k_with "enter" => (refine wpAny_call ?_; k_dflt (first | (refine' enter_fr ?k1 ?k2 ?k3 ?k4 ?k5 ?kA ?kF ?kK ?k6 ?k7 ?k8 ?k9 ?kB ?_ ?c2 ?c3 ?c4 ?c5; (case kA => exact rfl); (case kF => exact rfl); (case kK => assumption); (case k1 => k_asm); (case k2 => k_asm); (case k3 => k_asm); (case k4 => k_asm); (case k5 => k_asm); (case k6 => k_is); (case k7 => k_is); (case k8 => ktr_room); (case k9 => exact BindsTo.of_eq rfl); (case c5 => decide); (case kB => exact locs rfl); (case c2 => exact rfl); (case c3 => exact rfl); (case c4 => exact rfl); k_whole; intro g' L' h' F' N' B' X' T' kp' lq1; (try k_lt lq1); (try dsimp only); (try k_fold)) | (refine' enter_frC ?k1 ?k2 ?k3 ?k4 ?k5 ?kA ?kF ?kK ?k6 ?k7 ?k8 ?k9 ?kB ?kD ?_ ?c2 ?c3 ?c4; (case kA => exact rfl); (case kF => exact rfl); (case kK => assumption); (case k1 => k_asm); (case k2 => k_asm); (case k3 => k_asm); (case k4 => k_asm); (case k5 => k_asm); (case k6 => k_is); (case k7 => k_is); (case k8 => ktr_room); (case k9 => exact BindsTo.of_eq rfl); (case kB => exact rfl); (case kD => decide +kernel); (case c2 => exact rfl); (case c3 => exact rfl); (case c4 => exact rfl); k_whole; intro g' L' h' tk' cells' F' N' Y' B' X' T' kp' lq1; (try k_lt lq1); k_cells Y'; (try simp only [List.cons_append, List.nil_append] at N'); (try dsimp only); (try k_fold)))))
  (k_with "enterS" => (refine wpAny_call ?_; k_dflt (first | (refine' enter_S ?k1 ?k2 ?k3 ?k5 ?kd ?kA ?kF ?kK ?k6 ?k7 ?k8 ?k9 ?kB ?_ ?c2 ?c3 ?c4 ?c5; (case kA => exact rfl); (case kF => exact rfl); (case kK => assumption); (case k1 => k_asm); (case k2 => k_asm); (case k3 => k_asm); (case k5 => k_asm); (case kd => k_asm); (case k6 => k_is); (case k7 => k_is); (case k8 => ktr_room); (case k9 => exact BindsTo.of_eq rfl); (case c5 => decide); (case kB => exact locs rfl); (case c2 => exact rfl); (case c3 => exact rfl); (case c4 => exact rfl); k_whole; intro L' h' F' N' B' X' T' D'; (try dsimp only); (try k_fold)) | (refine' enter_SC ?k1 ?k2 ?k3 ?k5 ?kd ?kA ?kF ?kK ?k6 ?k7 ?k8 ?k9 ?kB ?kD ?_ ?c2 ?c3 ?c4; (case kA => exact rfl); (case kF => exact rfl); (case kK => assumption); (case k1 => k_asm); (case k2 => k_asm); (case k3 => k_asm); (case k5 => k_asm); (case kd => k_asm); (case k6 => k_is); (case k7 => k_is); (case k8 => ktr_room); (case k9 => exact BindsTo.of_eq rfl); (case kB => exact rfl); (case kD => decide +kernel); (case c2 => exact rfl); (case c3 => exact rfl); (case c4 => exact rfl); k_whole; intro L' h' tk' cells' F' N' Y' B' X' T' D'; k_cells Y'; (try simp only [List.cons_append, List.nil_append] at N'); (try dsimp only); (try k_fold)))))
  (k_with "EndS" => (refine EndS.mk2 (by k_asm) (by first | exact KtsTurn.refl | with_reducible assumption | exact KtsTurn.trans (by with_reducible assumption) (by with_reducible assumption)) ?_; intro hTu; (try dsimp only)))
  (k_with "call ref" => (k_here; (with_reducible show wpAny _ _ (call (Value.ref 131) _) _ _ _); k_dflt (refine Tc.go (by k_asm) (by k_asm) (by k_asm) (by k_asm) (by k_asm) (by first | exact rfl | assumption) (by ktr_room) (by ktr_units) (by lcg_sub) (row_c _ _ _ _ _ _ (by omega)) ?_; k_whole; intro r9 tl9 h9 tk9 F9 N9 o9 p9; obtain ⟨d9, ys9, n9, e8, e9, hi9⟩ := p9; subst e8; subst e9; (try simp only [List.nil_append, List.cons_append] at N9); (have hL9 := (IntsAre.length hi9).trans (digs_len 8 _)); (replace o9 := off_of o9); (try simp only [LCg.Off1, and_true] at o9); (try dsimp only); (try k_fold))))
  (k_with "call ref" => (k_here; (with_reducible show wpAny _ _ (call (Value.ref 146) _) _ _ _); k_dflt (refine Tc.go (by k_asm) (by k_asm) (by k_asm) (by k_asm) (by k_asm) (by first | exact rfl | assumption) (by ktr_room) (by ktr_units) (by lcg_sub) (value_g _ _ _ _ (by with_reducible assumption) (by omega) (by omega)) ?_; k_whole; intro r9 tl9 h9 tk9 F9 N9 o9 p9; obtain ⟨e9, t9, e8⟩ := p9; subst e9; subst e8; (try simp only [List.nil_append] at N9); clear o9; (try dsimp only); (try k_fold))))
  (k_with "call ref" => (k_here; (with_reducible show wpAny _ _ (call (Value.ref 141) _) _ _ _); k_dflt (refine Tc.go (by k_asm) (by k_asm) (by k_asm) (by k_asm) (by k_asm) (by first | exact rfl | assumption) (by ktr_room) (by ktr_units) (by lcg_sub) (moved_c _ _ _ _ _ _ _ _ _ _ (by with_reducible assumption) (by exact digs_len 8 _) (by omega) (by omega)) ?_; k_whole; intro r9 tl9 h9 tk9 F9 N9 o9 p9; obtain ⟨d9, ys9, n9, e8, e9, hi9⟩ := p9; subst e8; subst e9; (try simp only [List.nil_append, List.cons_append] at N9); clear o9; (repeat (with_reducible rename (@Ne Nat _ _) ∧ _ => hne; clear hne)); (first | (replace hi9 := ints_to hi9 (shr_digs (by omega) (by omega) (by omega) (by omega))) | (replace hi9 := ints_to hi9 (shl_digs (by omega) (by omega) (by omega) (by omega)))); (try (with_reducible rename IntsAre _ (List.map _ _) => hT; rw [inv_digs] at hT)); (try dsimp only); (try k_fold))))
  (k_with "call ref" => (k_here; (with_reducible show wpAny _ _ (call (Value.ref 136) _) _ _ _); k_dflt (refine Tc.go (by k_asm) (by k_asm) (by k_asm) (by k_asm) (by k_asm) (by first | exact rfl | assumption) (by ktr_room) (by ktr_units) (by lcg_sub) (bits_g _ _ _ _ (by with_reducible assumption) (by with_reducible assumption) (by exact digs_len 8 _) (by exact digs_len 8 _)) ?_; k_whole; intro r9 tl9 h9 tk9 F9 N9 o9 p9; obtain ⟨d9, ys9, n9, e8, e9, hi9⟩ := p9; subst e8; subst e9; (try simp only [List.nil_append, List.cons_append] at N9); clear o9; (replace N9 := news_skip N9); (first | (replace hi9 := ints_to hi9 (and_digs 8 _ _)) | (replace hi9 := ints_to hi9 (or_digs 8 _ _)) | (replace hi9 := ints_to hi9 (xor_digs 8 _ _))); (try dsimp only); (try k_fold))))
  (k_with "call ref" => (k_here; (with_reducible show wpAny _ _ (call (Value.ref 126) _) _ _ _); k_dflt (refine Tc.go (by k_asm) (by k_asm) (by k_asm) (by k_asm) (by k_asm) (by first | exact rfl | assumption) (by ktr_room) (by ktr_units) (by lcg_sub) (plus_g _ _ _ _ (by with_reducible assumption) (by with_reducible assumption) (by exact digs_len 8 _) (by first | exact digs_len 8 _ | exact rfl | simp)) ?_; k_whole; intro r9 tl9 h9 tk9 F9 N9 o9 p9; obtain ⟨d9, ys9, n9, e8, e9, hi9⟩ := p9; subst e8; subst e9; (try simp only [List.nil_append, List.cons_append] at N9); clear o9; (first | (replace hi9 := ints_to hi9 (neg_row (by first | rfl | simp))) | (replace hi9 := ints_to hi9 (sub_row _ _)) | (replace hi9 := ints_to hi9 (add_row _ _))); (try dsimp only); (try k_fold))))
  (k_with "call ref" => (k_here; (with_reducible show wpAny _ _ (call (Value.ref 153) _) _ _ _); k_dflt (refine Tc.go (by k_asm) (by k_asm) (by k_asm) (by k_asm) (by k_asm) (by first | exact rfl | assumption) (by ktr_room) (by ktr_units) (by first | lcg_sub | exact List.forall_mem_singleton.mpr (by with_reducible assumption)) (told_c _ _ _ _ (by first | with_reducible assumption | exact ints_not (by with_reducible assumption) | exact ints_to (ns := modL _ _) (by assumption) (mod_digs (by omega) (by omega))) (by first | with_reducible assumption | omega) (by first | with_reducible assumption | omega)) ?_; k_whole; intro r9 tl9 h9 tk9 F9 N9 o9 p9; obtain ⟨e9, e8⟩ := p9; subst e9; subst e8; (try simp only [List.nil_append] at N9); clear o9; (try dsimp only); (try k_fold))))
  (k_with "call builtin:len" => (k_here; (with_reducible show wpAny _ _ (call (Value.builtin "len") [Value.ref _]) _ _ _); k_dflt (refine KM.len_K (by k_asm) (by k_mem) (by exact List.size_toArray.trans (by with_reducible assumption)) (by decide) ?_; k_whole)))
  (k_with "ite" => first | refine no_self ?_ | refine no_self' ?_ | refine no_self'' ?_)
  (k_with "newList" => (k_here; k_dflt (refine newList_K (by k_asm) (by k_asm) ?_; k_whole); intro l' h' F' N' l1; clear l1; (try k_sweep)))
  (k_with "newTuple" => (k_here; k_dflt (refine kup_newTuple (by k_asm) (by k_asm) ?_ (by kmk_size)); intro D' h' F' N' l1; clear l1; (try k_sweep)))
  (k_with "CompSrc" => (k_here; k_dflt (refine LCg.CompSrc.range (by rfl) (by k_asm) (by k_asm) (by assumption) (by decide) (by first | exact rangeSize_nat _ _ | rfl) (by exact Nat.le_of_ble_eq_true rfl) ?_; intro g'; (refine' kcf_range _ (fun k' t' I' oI' C' oC' D' m' ys' h' tk' E' hlo' hhi' hC' hx' F' N' off' ne' hMark' => ?_) ?_); kcf_last)))
  (k_with "FinE" => ((unfold LCg.FinE); intro D' h' tk' F' N' o1'; clear o1'; (try simp only [List.nil_append, List.cons_append] at N'); (try dsimp only)))
  (k_with "subscriptTail" => (k_here; (with_reducible show wpAny _ _ (subscriptTail _ _ (Value.ref _) (Value.int _ _)) _ _ _); k_dflt (refine item_anyK (by exact News.isList (by k_asm) (by k_mem)) (by with_reducible assumption) (by first | decide | omega) (by (rw [digs_len]; first | decide | omega)) (by first | decide | omega) ?_; k_whole); intro _))
  (k_with "call ref" => (k_here; (with_reducible show wpAny _ _ (call (Value.ref 167) _) _ _ _); k_dflt (refine TcS.use (parted_c _ _ _ _ _ _ _ _ (by omega) (by omega)) (by k_asm) (by k_asm) (by k_asm) (by k_asm) (by k_asm) (by k_asm) (by first | exact rfl | assumption) (by ktr_room) (by ktr_units) ?_; k_whole; intro r9 h1 h9 tk9 T9 F9 N9 B9 X9 P9 D9 p9; subst p9; (replace N9 := news_last 4 N9); (try simp only [List.length_cons, List.length_nil, Nat.reduceAdd, Nat.reduceSub, List.drop_succ_cons, List.drop_zero] at N9); (try dsimp only); (try k_fold))))
  (k_with "compareOp Lt ref" => (k_here; (with_reducible show wpAny _ _ (compareOp CmpOp.Lt (Value.ref _) (Value.ref _)) _ _ _); k_dflt (refine lt_pq (by k_asm) (by k_mem) (by k_mem) (by with_reducible assumption) (by with_reducible assumption) (by with_reducible assumption) (by with_reducible assumption) (by with_reducible assumption) (by with_reducible assumption) (by ktr_units) ?_; k_whole)))
  (k_with "compareOp LtE ref" => (k_here; (with_reducible show wpAny _ _ (compareOp CmpOp.LtE (Value.ref _) (Value.ref _)) _ _ _); k_dflt (refine le_pq (by k_asm) (by k_mem) (by k_mem) (by with_reducible assumption) (by with_reducible assumption) (by with_reducible assumption) (by with_reducible assumption) (by with_reducible assumption) (by with_reducible assumption) (by ktr_units) ?_; k_whole)))
  (k_with "compareOp Eq ref ref" => (k_here; (with_reducible show wpAny _ _ (compareOp CmpOp.Eq (Value.ref _) (Value.ref _)) _ _ _); k_dflt (refine eq_pq (by k_asm) (by k_mem) (by k_mem) (by with_reducible assumption) (by with_reducible assumption) (by with_reducible assumption) (by with_reducible assumption) (by with_reducible assumption) (by with_reducible assumption) (by ktr_units) ?_; k_whole)))
  (k_with "exec Assign cons BinOp" => (k_here; (with_reducible show wpAny _ _ (exec (Stmt.Assign [Expr.Name _ _] (Expr.BinOp (Expr.List _ _) _ _ _) _) _) _ _ _); (with_reducible rename MarkA => zz); clear zz; (with_reducible rename Fr _ _ _ _ => zF); (with_reducible rename News _ _ _ _ => zN); revert zF zN; (repeat (with_reducible rename Fr _ _ _ _ => zz; clear zz)); (repeat (with_reducible rename News _ _ _ _ => zz; clear zz)); (repeat (with_reducible rename _ ∧ _ => zz; clear zz)); intro zF zN))
  (k_with "eval Compare" => (k_here; (with_reducible show wpAny _ _ (eval (Expr.Compare (Expr.ListComp _ _ _ _) _ _ _) _) _ _ _); (with_reducible rename MarkB => zz); clear zz; (with_reducible rename Fr _ _ _ _ => zF); (with_reducible rename News _ _ _ _ => zN); (replace zN := news_second zN); revert zF zN; (repeat (with_reducible rename Fr _ _ _ _ => zz; clear zz)); (repeat (with_reducible rename News _ _ _ _ => zz; clear zz)); (repeat (with_reducible rename _ ∧ _ => zz; clear zz)); intro zF zN))
  (k_with "pyIter ref" => ((with_reducible show wpAny _ _ (pyIter (Value.ref _)) (fun it s₂ => TurnsAt _ _ _ _ _ _ _ _ _ it s₂) _ _); refine Hold.of ?_))
  (k_with "UnrEndW" => refine Hold.of ?_)
  unfold TcS
  k_fill
  intro dp un gd cn cs a ccd cl outer A₀ base h₀ L m s Q E B F XB TB D hk hd hu hret
  have X := XB.keeps B.stays
  have T := TB.keeps B.stays
  have mkA : MarkA := trivial
  have mkB : MarkB := trivial
  k_extra "enterS"
  k_steps
  refine Hold.of' ?_
  rename Fr _ _ _ _ => lF9
  rename News _ _ _ _ => lN9
  refine' due_iter ?hh lF9 lN9 ?hm ?good ?turn ?fin
  (case hh => rfl)
  (case hm => k_mem)
  case good =>
    repeat' first
      | exact List.forall_mem_nil _
      | refine List.forall_mem_cons.mpr ⟨⟨_, _, _, _, _, _, rfl, by k_mem, by lcg_sub, by first | with_reducible assumption | exact ints_not (by with_reducible assumption) | exact ints_to (ns := modL _ _) (by assumption) (mod_digs (by omega) (by omega)), by first | with_reducible assumption | omega, by first | with_reducible assumption | omega⟩, ?_⟩
  case turn =>
    clear lF9 lN9
    intro news9 m9 I9 o9 D9 n9 t9 d9 ys9 c9 h9 tk9 hT9 hd9 hi9 a9 b9 hI9 F9 N9
    k_steps
    refine Hold.of' ?_
    exact due_end (by k_asm) (by k_asm) hI9
  case fin =>
    clear lF9 lN9
    intro u9 v9 h9 tk9 F9 N9
    k_steps
    all_goals exact hret _ _ _ (by with_reducible assumption) rfl
end Mine
namespace Mine
open PySem PySem.W PySem.Spec PySem.Calls PyProof.Rows
set_option Elab.async false
set_option maxRecDepth 100000
set_option maxHeartbeats 8000000
theorem TcS.use0 {dd : Nat} {w : World} {mean : ExcName → Option Value} {mg mb : Str → Option Value} {f : Addr} {vs : List Value} {Post : Value → Prop} (C : TcS dd w mean mg mb f vs Post)
    {dp un : Nat} {gd : Option (List Code)} {cn : Str} {cs : Scope} {a : Addr} {ccd : Value} {cl : List (Str × Addr)} {A₀ : Around} {base h₀ : Heap} {L : Addr} {m : Str → Option Value} {s : Shared} {Q E : Value → Shared → Prop} {news : Led}
    (B : Below A₀ base [] h₀) (F : Fr h₀ L s.heap m) (N : News h₀ L s.heap news) (XB : (hd.heap_39 w.params).In base) (TB : Top hd.view_39 (looseW hd.view_39 []) mean mg mb base) (hk : cs.kind = .function) (hdp : dp + dd < recursionLimit) (hu : un + 8 * dd + 100 < cLine)
    (ret : ∀ r h' tk', Fr h₀ L h' m → News h₀ L h' news → Post r → Q r { s with heap := h', toks := tk' }) :
    wpAny (model PySem.Challenge.rw_nq0009_01.row.prog w) (ktrTop dp un gd cn cs L a ccd cl []) (call (.ref f) vs) Q E s := by
  refine TcS.use C B F N XB TB (fun _ h => nomatch h) hk hdp hu fun r h₁ h' tk' T F' N' _ _ _ _ p => ?_
  have old : ∀ b o, h₀.get? b = some o → h₁.get? b = some o := fun b o e => T.other b o e (fun h => nomatch h)
  refine ret r h' tk' ⟨F'.ns, fun b o e => F'.keep b o (old b o e), by rw [← T.size]; exact F'.above⟩ (fun q hq => ⟨(N' q hq).1, (N' q hq).2.1, ?_⟩) p
  exact Option.eq_none_iff_forall_ne_some.mpr fun o e => by
    have := old _ _ e
    rw [(N' q hq).2.2] at this
    cases this
theorem nums_range (ns : List Int) (i : Nat) : -1048576 < (List.map (fun k' => Int.fmod k' 2097151 - 1048575) (List.take 8 ns) ++ [-35, 172]).getD i 0 ∧ (List.map (fun k' => Int.fmod k' 2097151 - 1048575) (List.take 8 ns) ++ [-35, 172]).getD i 0 < 1048576 := by
  generalize hl : List.map (fun k' => Int.fmod k' 2097151 - 1048575) (List.take 8 ns) ++ [-35, 172] = l
  have hm : ∀ z ∈ l, -1048576 < z ∧ z < 1048576 := by
    subst hl
    intro z hz
    rcases List.mem_append.mp hz with hz | hz
    · obtain ⟨k, _, rfl⟩ := List.mem_map.mp hz
      have q : k.fmod 2097151 = k % 2097151 := Int.fmod_eq_emod_of_nonneg _ (by omega)
      rw [q]; omega
    · simp only [List.mem_cons, List.not_mem_nil, or_false] at hz
      omega
  rw [List.getD_eq_getElem?_getD]
  cases h : l[i]? with
  | none => simp
  | some z => exact hm z (List.mem_of_getElem? h)
theorem law_iter {prog : Program} {w : World} {A : Around} {E : Value → Shared → Prop} {s : Shared} {env : Env} {h₀ : Heap} {x : Str} {body : List Stmt} {Q : Flow → Shared → Prop} {r : Addr} {t₀ u₀ v₀ : Tok} {m₀ : Str → Option Value} {news : List (Addr × Obj)} {ns : List Int}
    (hh : A.handled = none) (hr : IsRange s.heap r 1 (((List.map (fun k' => Int.fmod k' 2097151 - 1048575) (List.take 8 ns)).length + (1 + 1) : Nat) : Int) 1 t₀ u₀ v₀) (F : Fr h₀ env.locals s.heap m₀) (N : News h₀ env.locals s.heap news)
    (turn : ∀ (k : Int) t (u : Str → Option Value) h tk o, (∀ p ∈ news, p.1 < s.heap.objs.size) → 1 ≤ k → k ≤ ((List.map (fun k' => Int.fmod k' 2097151 - 1048575) (List.take 8 ns)).length : Int) + 1 → Fr h₀ env.locals h (fun y => if y = x then some (.int k t) else if ([] : List Str).contains y then u y else m₀ y) → News h₀ env.locals h ((s.heap.objs.size, o) :: news) →
      wpAny (model prog w) A (execs body env) (TurnPost h₀ env.locals x [] m₀ ((s.heap.objs.size, o) :: news) { s with heap := h, toks := tk } Q) E { s with heap := h, toks := tk })
    (done : ∀ (u : Str → Option Value) h tk, Fr h₀ env.locals h (fun y => if y = x then u y else if ([] : List Str).contains y then u y else m₀ y) → News h₀ env.locals h news → Q .next { s with heap := h, toks := tk }) :
    wpAny (model prog w) A (pyIter (.ref r)) (fun it s₂ => LoopAtV prog w A h₀ env x body Q E it s₂) E s := by
  have hl8 : (List.map (fun k' => Int.fmod k' 2097151 - 1048575) (List.take 8 ns)).length ≤ 8 := by simp; omega
  refine iter_rangeLawO (n := (List.map (fun k' => Int.fmod k' 2097151 - 1048575) (List.take 8 ns)).length + 1) [] hh hr (small_one (by decide) (by decide) (by omega) (by omega)) ((rangeSize_nat _ _).trans (by omega)) F N (fun k t u h tk o hl h1 h2 F' N' => turn k t u h tk o hl h1 (by omega) F' N') done
theorem items_law {prog : Program} {w : World} {A : Around} {E : Value → Shared → Prop} {s : Shared} {value slice : PySem.Expr} {l : Addr} {vs : List Value} {ns : List Int} {k : Int} {u : Tok} {Q : Value → Shared → Prop} (hl : s.heap.IsList l vs.toArray)
    (hi : IntsAre vs (List.map (fun k' => Int.fmod k' 2097151 - 1048575) (List.take 8 ns) ++ [-35, 172]))
    (h0 : 0 ≤ k) (h1 : k ≤ ((List.map (fun k' => Int.fmod k' 2097151 - 1048575) (List.take 8 ns)).length : Int) + 1) (h : ∀ t, Q (.int ((List.map (fun k' => Int.fmod k' 2097151 - 1048575) (List.take 8 ns) ++ [-35, 172]).getD k.toNat 0) t) s)
    (hs : subscripted slice false (.ref l) (.int k u) = operate [.ref l, .int k u] (getItem (.ref l) (.int k u)) := by with_unfolding_all rfl) :
    wpAny (model prog w) A (subscriptTail value slice (.ref l) (.int k u)) Q E s := by
  have hl8 : (List.map (fun k' => Int.fmod k' 2097151 - 1048575) (List.take 8 ns)).length ≤ 8 := by simp; omega
  refine item_anyK hl hi h0 ?_ ?_ h hs
  · rw [List.length_append]; simp only [List.length_cons, List.length_nil]; omega
  · omega
end Mine
open Mine PySem PySem.W PySem.Spec PySem.Calls PyProof.Rows
local macro_rules | `(tactic| walk_at $s:str) => `(tactic| k_extra $s)
theorem PySem.Challenge.cw_nq0009_01_holds : PySem.Challenge.rw_nq0009_01.Holds :=
  hd (by
    k_with_none
    (k_with "subscriptTail" => (k_here; (with_reducible show wpAny _ _ (subscriptTail _ _ (Value.ref _) (Value.int _ _)) _ _ _); k_dflt (refine items_law (by exact News.isList (by k_asm) (by k_mem)) (by with_reducible assumption) (by omega) (by omega) ?_; k_whole); intro _))
    (k_with "pyIter ref" => ((with_reducible show wpAny _ _ (pyIter (Value.ref _)) (fun it s₂ => LoopAtV _ _ _ _ _ _ _ _ _ it s₂) _ _); (rename Fr _ _ _ _ => lF'); (rename News _ _ _ _ => lN'); (rename IsRange _ _ _ _ _ _ _ _ => rgX); (with_unfolding_all refine law_iter (by rfl) (by exact rgX) lF' lN' (fun n' t' u' h' tk' o' hlt' hlo' hhi' F' N' => ?_) (fun u' h' tk' F' N' => ?_)) <;> (clear lF' lN'; (try dsimp only at N'); (try (first | k_lt hlt' | clear hlt')))))
    (k_with "call ref" => (k_here; (with_reducible show wpAny _ _ (call (Value.ref 172) _) _ _ _); k_dflt (refine TcS.use0 (pair_c _ _ _ _ _ _ _ _ (nums_range _ _).1 (nums_range _ _).2 (nums_range _ _).1 (nums_range _ _).2) (by k_asm) (by k_asm) (by k_asm) (by k_asm) (by k_asm) (by first | exact rfl | assumption) (by ktr_room) (by ktr_units) ?_; k_whole; intro r9 h9 tk9 F9 N9 p9; subst p9; (try dsimp only); (try k_fold))))
    k_go0
    (all_goals try k_fold)
    k_steps)
