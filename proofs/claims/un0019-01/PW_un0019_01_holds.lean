import PyProof.Rows.All
import Wide.All
import OpenK.AllK
import Wide.FinOn
import PySem.Challenge.RW_un0019_01
set_option Elab.async false
set_option rowWalk.seconds 0
section
set_option linter.unusedVariables false
set_option linter.unusedSimpArgs false
open PySem PySem.W PyProof.Rows
namespace Mine
set_option maxRecDepth 100000
noncomputable def view : Program := { PySem.Challenge.pw_un0019_01 with main := { PySem.Challenge.pw_un0019_01.main with body := PySem.Challenge.pw_un0019_01.main.body.drop 29 } }
noncomputable def loose : List Str := ["_DIV_LIMIT", "_div2n1n", "_div3n2n", "_int2digits", "_digits2int", "_divmod_pos", "int_divmod", "COMPILER_FLAG_NAMES", "pretty_flags", "add", "and_", "inv", "lshift", "mul", "neg", "or_", "xor", "countOf", "indexOf", "_law_words", "_law_step", "_law_choices", "_law_rank", "_law_parted", "_law_told"]
set_option maxHeartbeats 8000000
theorem said_law : OpenLaw.wellSaid PySem.Challenge.rw_un0019_01 = true := by
  unfold OpenLaw.wellSaid
  repeat' with_reducible (refine look_both ?_ ?_)
  all_goals try unfold OpenRow.wellSaid OpenRow.partSaid looksOpen
  repeat' with_reducible (refine look_both ?_ ?_)
  all_goals first | rw [PySem.W.Fast.te8377067652309620493] | rw [PySem.W.Fast.te8326940854005059898] | rw [PySem.W.Fast.te17119622794617984870] | skip
  all_goals decide +kernel
noncomputable def Xt (s : Shared) : Bool := xlAt Mine.view [] s && recOk (RowW.records (OpenRow.toRowW PySem.Challenge.rw_un0019_01.row)) s
theorem okv : (chainsOk view && opensWell PySem.Challenge.pw_un0019_01 && (frees PySem.Challenge.rw_un0019_01.row.toRowW && PySem.Challenge.rw_un0019_01.row.within.isEmpty)) = true := by
  repeat' with_reducible (refine look_both ?_ ?_)
  all_goals decide +kernel
local macro_rules | `(tactic| o_law) => `(tactic| refine holds_law Mine.said_law fun said => ?_)
/-- the hook is named, so the written part stands under a name; the row is asked as it was -/
theorem named {R W : Prop} (_H : Hook) (_hw : W) (h : R) : R := h
local macro_rules | `(tactic| o_head $H) => `(tactic| refine Mine.named (W := (OpenRow.toRowW PySem.Challenge.rw_un0019_01.row).promised) $H ?hw ?hc)
open_top hk for PySem.Challenge.rw_un0019_01
/-- the addresses of the written part -/
noncomputable def asL : List Addr := [2, 3, 15, 17, 18, 20, 21, 22, 24, 25, 27, 28, 29, 31, 32, 34, 35, 36, 38, 39, 41, 42, 43, 45, 46, 48, 49, 50, 52, 53, 55, 56, 57, 58, 60, 61, 63, 64, 65, 67, 68, 70, 71, 72, 74, 75, 77, 78, 79, 81, 82, 84, 85, 86, 88, 89, 91, 92, 93, 95, 96, 98, 99, 100, 102, 103, 105, 106, 107, 109, 110, 112, 113, 114, 116, 117, 119, 120, 121, 123, 124, 126, 127, 128, 130, 131, 133, 134, 135, 137, 138, 140, 141, 142, 144, 145, 147, 148, 149, 151, 152, 154, 155, 156, 159, 160, 161, 163, 164, 166, 167, 168, 171, 172, 173, 176, 177]
noncomputable def hook : Hook := kmHook hk.heap_1 asL (fun _ => by kernel_rfl) [30, 37]
def RunTo (b : Bool) : Prop := ∀ w : World, (openEnds treeTable PySem.Challenge.pw_un0019_01 (w.withFollow "special-get-raises" b) 1998).map (fun s => (openSeen Mine.view Mine.loose (importedModules PySem.Challenge.pw_un0019_01.main.body) Mine.Xt true s, hook.obs s)) = some (openGood Mine.view Mine.loose, hook.val (w.withFollow "special-get-raises" b))
theorem run_f : RunTo false := by
  unfold RunTo openEnds topFrom fencedOpening
  rw [PySem.W.Fast.te14082659384304107361, PySem.W.Fast.te10274390034422433532, PySem.W.Fast.te14289696077712309145, PySem.W.Fast.te1435165496053646825, PySem.W.Fast.te14364793385576792824, PySem.W.Fast.te4187177175401517315]
  intro w
  kernel_rfl
theorem run_t : RunTo true := by
  unfold RunTo openEnds topFrom fencedOpening
  rw [PySem.W.Fast.te14082659384304107361, PySem.W.Fast.te10274390034422433532, PySem.W.Fast.te14289696077712309145, PySem.W.Fast.te1435165496053646825, PySem.W.Fast.te14364793385576792824, PySem.W.Fast.te4187177175401517315]
  intro w
  kernel_rfl
theorem left : LeftO PySem.Challenge.pw_un0019_01 Mine.view Mine.loose Mine.Xt hook.obs hook.val 1998 :=
  byRow2 "special-get-raises" run_f run_t
end Mine
end
section
set_option linter.unusedVariables false
set_option linter.unusedSimpArgs false
open PySem PySem.W PySem.Spec PySem.Calls PyProof.Rows
namespace Mine
theorem subT {α : Type} {t r : List α} {a : α} (h : ∀ z ∈ t, z ∈ r) : ∀ z ∈ t, z ∈ a :: r := fun z hz => .tail _ (h z hz)
theorem subL {α : Type} {t l r : List α} (h : ∀ z ∈ t, z ∈ l) : ∀ z ∈ t, z ∈ l ++ r := fun z hz => List.mem_append_left _ (h z hz)
theorem subR {α : Type} {t l r : List α} (h : ∀ z ∈ t, z ∈ r) : ∀ z ∈ t, z ∈ l ++ r := fun z hz => List.mem_append_right _ (h z hz)
theorem subC {α : Type} {t r : List α} {a : α} (h0 : a ∈ r) (h : ∀ z ∈ t, z ∈ r) : ∀ z ∈ a :: t, z ∈ r := List.forall_mem_cons.mpr ⟨h0, h⟩
theorem subA {α : Type} {t l r : List α} (h0 : ∀ z ∈ t, z ∈ r) (h : ∀ z ∈ l, z ∈ r) : ∀ z ∈ t ++ l, z ∈ r := List.forall_mem_append.mpr ⟨h0, h⟩
theorem subN {α : Type} {r : List α} : ∀ z ∈ ([] : List α), z ∈ r := fun _ h => nomatch h
theorem subI {α : Type} {r : List α} : ∀ z ∈ r, z ∈ r := fun _ h => h
theorem memL {α : Type} {l r : List α} {a : α} (h : a ∈ l) : a ∈ l ++ r := List.mem_append_left _ h
theorem memR {α : Type} {l r : List α} {a : α} (h : a ∈ r) : a ∈ l ++ r := List.mem_append_right _ h

/-- an int comes back, the ledger is X -/
inductive PostI (n : Int) (X : List (Addr × Obj)) : Value → List (Addr × Obj) → Prop
  | mk (t : Tok) : PostI n X (.int n t) X
theorem PostI.of {n : Int} {X : List (Addr × Obj)} {v : Value} {t : Tok} (h : v = .int n t) : PostI n X v X := h ▸ .mk t
/-- a text comes back, the ledger is X -/
inductive PostS (x : Str) (X : List (Addr × Obj)) : Value → List (Addr × Obj) → Prop
  | mk (t : Tok) : PostS x X (.str x t) X
theorem PostS.of {x : Str} {X : List (Addr × Obj)} {v : Value} {t : Tok} (h : v = .str x t) : PostS x X v X := h ▸ .mk t
/-- what a call of the def at `f` with the values `vs` does: from any frame of a def, above any ledger, it comes back with a value of which `Post` holds, the ledger grown by `more` -/
def Claim0 (w : World) (loose : List Str) (mean : ExcName → Option Value) (mg mb : Str → Option Value) (f : Addr) (d u : Nat) (led : List (Addr × Obj)) (vs : List Value) (Post : Nat → Nat → Value → List (Addr × Obj) → Prop) : Prop :=
  ∀ (dp un : Nat) (gd : Option (List Code)) (cn : Str) (cs : Scope) (a : Addr) (ccd : Value) (cl : List (Str × Addr)) (outer : List Env) (A₀ : Around) (base h₀ : Heap) (L : Addr) (m : Str → Option Value) (s : Shared) (Q E : Value → Shared → Prop),
    Below A₀ base outer h₀ → Fr h₀ L s.heap m → (hk.heap_1 w.params).In h₀ → News h₀ L s.heap led → Top topProg loose mean mg mb h₀ → cs.kind = .function →
    dp + d < recursionLimit → un + u < cLine →
    (∀ (v : Value) (led' : List (Addr × Obj)) (h' : Heap) (tk' : Nat), Fr h₀ L h' m → News h₀ L h' led' → Post s.toks tk' v led' → Q v { s with heap := h', toks := tk' }) →
    wpAny (model PySem.Challenge.rw_un0019_01.row.prog w) (ktrTop dp un gd cn cs L a ccd cl outer) (call (.ref f) vs) Q E s

/-- the same, and the counter of tokens has not fallen -/
def Claim (w : World) (loose : List Str) (mean : ExcName → Option Value) (mg mb : Str → Option Value) (f : Addr) (d u : Nat) (led : List (Addr × Obj)) (vs : List Value) (Post : Nat → Nat → Value → List (Addr × Obj) → Prop) : Prop :=
  ∀ (dp un : Nat) (gd : Option (List Code)) (cn : Str) (cs : Scope) (a : Addr) (ccd : Value) (cl : List (Str × Addr)) (outer : List Env) (A₀ : Around) (base h₀ : Heap) (L : Addr) (m : Str → Option Value) (s : Shared) (Q E : Value → Shared → Prop),
    Below A₀ base outer h₀ → Fr h₀ L s.heap m → (hk.heap_1 w.params).In h₀ → News h₀ L s.heap led → Top topProg loose mean mg mb h₀ → cs.kind = .function →
    dp + d < recursionLimit → un + u < cLine →
    (∀ (v : Value) (led' : List (Addr × Obj)) (h' : Heap) (tk' : Nat), s.toks ≤ tk' → Fr h₀ L h' m → News h₀ L h' led' → Post s.toks tk' v led' → Q v { s with heap := h', toks := tk' }) →
    wpAny (model PySem.Challenge.rw_un0019_01.row.prog w) (ktrTop dp un gd cn cs L a ccd cl outer) (call (.ref f) vs) Q E s

theorem Claim0.toks {w : World} {loose : List Str} {mean : ExcName → Option Value} {mg mb : Str → Option Value} {f : Addr} {d u : Nat} {led : List (Addr × Obj)} {vs : List Value} {Post : Nat → Nat → Value → List (Addr × Obj) → Prop}
    (C : Claim0 w loose mean mg mb f d u led vs Post) : Claim w loose mean mg mb f d u led vs Post := by
  intro dp un gd cn cs a ccd cl outer A₀ base h₀ L m s Q E B F X N T hk hd hu hret
  refine wpAny_with_toks (Nat.le_refl s.toks) ?_
  exact C dp un gd cn cs a ccd cl outer A₀ base h₀ L m s (fun a s' => s.toks ≤ s'.toks → Q a s') (fun e s' => s.toks ≤ s'.toks → E e s') B F X N T hk hd hu
    (fun v led' h' tk' F' N' P ht => hret v led' h' tk' ht F' N' P)
end Mine
end
section
set_option linter.unusedVariables false
set_option linter.unusedSimpArgs false
open PySem PySem.W PySem.Spec PySem.Calls PyProof.Rows
namespace Mine
set_option maxRecDepth 100000

section
variable {prog : Program} {w : World} {A₀ A : Around} {s : Shared} {base h₀ : Heap} {outer : List Env} {L : Addr} {m : Str → Option Value} {env : Env} {led rest : List (Addr × Obj)} {K : Frag}
  {R : Result → Shared → Prop} {name qual : Str} {params : Arguments} {body : List Stmt} {scope : Scope} {dV kV doc pm cdv ct oc : Value} {an od : Option Addr} {osl : Array (Option Value)} {f : Addr} {args : Args} {binds : List (Str × Value)}
  {p : Program} {loose : List Str} {mean : ExcName → Option Value} {mg mb : Str → Option Value} {cl : List (Str × Addr)}

/-- what is not laid open in the callee's ledger stays: it is in the callee's ground -/
structure RestIn (h₀ : Heap) (L : Addr) (g : Heap) (rest : List (Addr × Obj)) : Prop where
  inG : ∀ q ∈ rest, g.get? q.1 = some q.2
  off : ∀ q ∈ rest, q.1 ≠ L ∧ h₀.get? q.1 = none
theorem rest_back (N : News h₀ L s.heap (led ++ rest)) (hoff : ∀ q ∈ rest, q.1 ∉ led.map (·.1)) : RestIn h₀ L (hideAll s.heap (led.map (·.1))) rest :=
  ⟨fun q hq => hideAll_get _ (N q (List.mem_append_right _ hq)).1 (hoff q hq), fun q hq => (N q (List.mem_append_right _ hq)).2⟩
theorem led_of (N : News h₀ L s.heap (led ++ rest)) : News h₀ L s.heap led := fun q hq => N q (List.mem_append_left _ hq)

/-- entering a def of the written heap: the callee's ledger is `led`, the rest of the caller's stands still -/
theorem code_defR (B : Below A₀ base outer h₀) (F : Fr h₀ L s.heap m) (X₀ : K.In h₀) (N : News h₀ L s.heap (led ++ rest)) (hoff : ∀ q ∈ rest, q.1 ∉ led.map (·.1)) (T : Top p loose mean mg mb h₀) (hA : A.frames = some (env :: outer)) (hf : env.frame = some L) (hke : env.scope.kind = .function)
    (ho : K.lookup f = some ⟨oc, od, .func (fnOf name qual params body scope dV kV doc pm an cdv ct), osl⟩) (hcd : codeIn K cdv qual = true) (hroom : A.depth < recursionLimit)
    (hbind : BindsTo s (fnOf name qual params body scope dV kV doc pm an cdv ct) args binds) (hloc : ∀ y ∈ binds, scope.names.lookup y.1 = some .local)
    (h : ∀ g L' h₁, Fr h₀ L g m → Fr g L' h₁ (fun y => binds.reverse.lookup y) → News g L' h₁ led → Below A base (env :: outer) g → K.In g → Top p loose mean mg mb g → RestIn h₀ L g rest → (∀ p ∈ led, p.1 < L') →
      wpAny (model prog w) (A.deeper (envOf qual scope L' f cdv)) (execs body (envOf qual scope L' f cdv))
        (fun fl s' => LeaveK h₀ L m g R (match fl with | .ret v => v | _ => .none) s')
        (fun e s' => wpAny (model prog w) (A.deeper (envOf qual scope L' f cdv)) (leaving (envOf qual scope L' f cdv) e) (fun _ s'' => R (.error e) s'') (fun e' s'' => R (.error e') s'') s')
        { s with heap := h₁, toks := s.toks + binds.length })
    (hco : scope.isCoroutine = false) (hgen : scope.isGenerator = false) (hk : scope.kind = .function)
    (hcell : ∀ x ∈ scope.names, x.2 ≠ .cell) : codeAny (model prog w) A (.call (.ref f) args) R s := by
  have N1 := led_of N
  have RB := rest_back N hoff
  obtain ⟨FG, BG, st, lv⟩ := groundX (R := R) B F N1 hA hf hke
  refine codeAny_call_def (fd := fnOf name qual params body scope dV kV doc pm an cdv ct) (body := body) (binds := binds) hroom ((X₀.keeps F.keep) _ _ ho) rfl (T.nolimit.keeps F.keep) (codeRec_of (X₀.keeps F.keep) hcd) rfl hbind hcell hloc (fun h₁ hns hk₁ => ?_) hco hgen hk
  exact wpAny_mono (h _ s.heap.objs.size h₁ FG ⟨hns, fun b o e => hk₁ b o (of_hideAll _ e), Nat.le_of_eq (hideAll_size _ _)⟩
    (fun p hp => ⟨hk₁ _ _ (N1 p hp).1, Nat.ne_of_lt (Heap.lt_size (N1 p hp).1), hideAll_none _ (List.mem_map_of_mem hp)⟩) BG (X₀.keeps st) (T.keeps st) RB (fun p hp => Heap.lt_size (N1 p hp).1)) (fun fl s' hl => lv _ _ hl) fun _ _ y => y

/-- the same for a def whose names are captured -/
theorem code_defCR (B : Below A₀ base outer h₀) (F : Fr h₀ L s.heap m) (X₀ : K.In h₀) (N : News h₀ L s.heap (led ++ rest)) (hoff : ∀ q ∈ rest, q.1 ∉ led.map (·.1)) (T : Top p loose mean mg mb h₀) (hA : A.frames = some (env :: outer)) (hf : env.frame = some L) (hke : env.scope.kind = .function)
    (ho : K.lookup f = some ⟨oc, od, .func (fnOf name qual params body scope dV kV doc pm an cdv ct), osl⟩) (hcd : codeIn K cdv qual = true) (hroom : A.depth < recursionLimit)
    (hbind : BindsTo s (fnOf name qual params body scope dV kV doc pm an cdv ct) args binds) (hkind : (binds.all fun y => scope.names.lookup y.1 == some .local || scope.names.lookup y.1 == some .cell) = true)
    (hnd : ((cellsFrom 0 scope.names []).map (·.1)).Nodup)
    (h : ∀ g L' h₁ tk cells, Fr h₀ L g m → Fr g L' h₁ (bindL (envOfC qual scope L' f cdv).kindOf binds fun _ => none) → News g L' h₁ (cells ++ led) →
      CellsAre (bindC (envOfC qual scope L' f cdv).kindOf binds fun _ => none) (cellsFrom (L' + 1) scope.names []) cells → Below A base (env :: outer) g → K.In g → Top p loose mean mg mb g → RestIn h₀ L g rest → (∀ p ∈ led, p.1 < L') →
      wpAny (model prog w) (A.deeper (envOfC qual scope L' f cdv)) (execs body (envOfC qual scope L' f cdv))
        (fun fl s' => LeaveK h₀ L m g R (match fl with | .ret v => v | _ => .none) s')
        (fun e s' => wpAny (model prog w) (A.deeper (envOfC qual scope L' f cdv)) (leaving (envOfC qual scope L' f cdv) e) (fun _ s'' => R (.error e) s'') (fun e' s'' => R (.error e') s'') s')
        { s with heap := h₁, toks := tk })
    (hco : scope.isCoroutine = false) (hgen : scope.isGenerator = false) (hk : scope.kind = .function) : codeAny (model prog w) A (.call (.ref f) args) R s := by
  have N1 := led_of N
  have RB := rest_back N hoff
  have hkind' := kindsX hkind
  obtain ⟨FG, BG, st, lv⟩ := groundX (R := R) B F N1 hA hf hke
  refine codeAny_call_function hroom ((X₀.keeps F.keep) _ _ ho) rfl hco hgen rfl (codeRec_of (X₀.keeps F.keep) hcd) (hbind _ _ _ _ ?_)
  refine wpAny_newFunctionEnv_cells hk (hkind' _) fun env' he s' x => ?_
  subst he
  refine ⟨(T.nolimit.keeps F.keep).keeps x.toInCall.keep, codeAny_func ?_⟩
  obtain ⟨h₁, tk, rfl, _⟩ := x.done
  have hk₁ := x.toInCall.keep
  obtain ⟨cells, NC, Y⟩ := Cl.news (h₀ := s.heap) (Nat.le_refl _) fun n c hm => ⟨x.cell n c (lookup_of_mem_nodup (cellsFrom_names scope.names 0 (s.heap.objs.size + 1) [] [] rfl ▸ hnd) hm), x.above n c hm⟩
  refine wpAny_mono (h _ s.heap.objs.size h₁ tk cells FG ⟨x.toInCall.ns, fun b o e => hk₁ b o (of_hideAll _ e), Nat.le_of_eq (hideAll_size _ _)⟩ (fun p hp => ?_) Y BG (X₀.keeps st) (T.keeps st) RB (fun p hp => Heap.lt_size (N1 p hp).1)) (fun fl s' hl => lv _ _ hl) fun _ _ y => y
  rcases List.mem_append.mp hp with hp | hp
  · refine ⟨(NC p hp).1, (NC p hp).2.1, ?_⟩
    cases q : (hideAll s.heap (led.map (·.1))).get? p.1 with
    | none => rfl
    | some o => have := of_hideAll _ q; rw [(NC p hp).2.2] at this; cases this
  · exact ⟨hk₁ _ _ (N1 p hp).1, Nat.ne_of_lt (Heap.lt_size (N1 p hp).1), hideAll_none _ (List.mem_map_of_mem hp)⟩

/-- and for a def made in a call -/
theorem code_nestR {ctv : Value} {c' : Addr} (B : Below A₀ base outer h₀) (F : Fr h₀ L s.heap m) (X₀ : K.In h₀) (N : News h₀ L s.heap (led ++ rest)) (hoff : ∀ q ∈ rest, q.1 ∉ led.map (·.1)) (T : Top p loose mean mg mb h₀) (hA : A.frames = some (env :: outer)) (hf : env.frame = some L) (hke : env.scope.kind = .function)
    (ho : (f, fnMade name qual params body scope cl doc pm c' ctv) ∈ led) (hcd : s.heap.CodeRec (.ref c') qual) (hroom : A.depth < recursionLimit)
    (hbind : BindsTo s (fnX name qual params body scope cl .none .none doc pm none (.ref c') ctv) args binds) (hloc : ∀ y ∈ binds, scope.names.lookup y.1 = some .local)
    (h : ∀ g L' h₁, Fr h₀ L g m → Fr g L' h₁ (fun y => binds.reverse.lookup y) → News g L' h₁ led → Below A base (env :: outer) g → K.In g → Top p loose mean mg mb g → RestIn h₀ L g rest → (∀ p ∈ led, p.1 < L') →
      wpAny (model prog w) (A.deeper (envX qual scope L' f (.ref c') cl)) (execs body (envX qual scope L' f (.ref c') cl))
        (fun fl s' => LeaveK h₀ L m g R (match fl with | .ret v => v | _ => .none) s')
        (fun e s' => wpAny (model prog w) (A.deeper (envX qual scope L' f (.ref c') cl)) (leaving (envX qual scope L' f (.ref c') cl) e) (fun _ s'' => R (.error e) s'') (fun e' s'' => R (.error e') s'') s')
        { s with heap := h₁, toks := s.toks + binds.length })
    (hco : scope.isCoroutine = false) (hgen : scope.isGenerator = false) (hk : scope.kind = .function)
    (hcell : ∀ x ∈ scope.names, x.2 ≠ .cell) : codeAny (model prog w) A (.call (.ref f) args) R s := by
  have N1 := led_of N
  have RB := rest_back N hoff
  obtain ⟨FG, BG, st, lv⟩ := groundX (R := R) B F N1 hA hf hke
  refine codeAny_call_def (fd := fnX name qual params body scope cl .none .none doc pm none (.ref c') ctv) (body := body) (binds := binds) hroom (N1 _ ho).1 rfl (T.nolimit.keeps F.keep) hcd rfl hbind hcell hloc (fun h₁ hns hk₁ => ?_) hco hgen hk
  exact wpAny_mono (h _ s.heap.objs.size h₁ FG ⟨hns, fun b o e => hk₁ b o (of_hideAll _ e), Nat.le_of_eq (hideAll_size _ _)⟩
    (fun p hp => ⟨hk₁ _ _ (N1 p hp).1, Nat.ne_of_lt (Heap.lt_size (N1 p hp).1), hideAll_none _ (List.mem_map_of_mem hp)⟩) BG (X₀.keeps st) (T.keeps st) RB (fun p hp => Heap.lt_size (N1 p hp).1)) (fun fl s' hl => lv _ _ hl) fun _ _ y => y
end
theorem back_news {g h₀ h' : Heap} {L L' : Addr} {m' : Str → Option Value} {led' rest : List (Addr × Obj)} (F : Fr g L' h' m') (N : News h₀ L h' led') (RB : RestIn h₀ L g rest) : News h₀ L h' (led' ++ rest) :=
  fun p hp => (List.mem_append.mp hp).elim (N p) (fun hq => ⟨F.keep _ _ (RB.inG p hq), RB.off p hq⟩)
theorem RestIn.lt {g h₀ h' : Heap} {L L' : Addr} {m' : Str → Option Value} {rest : List (Addr × Obj)} (RB : RestIn h₀ L g rest) (F : Fr g L' h' m') : ∀ p ∈ rest, p.1 < h'.objs.size := fun p hp => Heap.lt_size (F.keep _ _ (RB.inG p hp))
theorem RestIn.apart {g h₀ h' : Heap} {L L' : Addr} {led rest : List (Addr × Obj)} (RB : RestIn h₀ L g rest) (N : News g L' h' led) : ∀ q ∈ rest, q.1 ∉ led.map (·.1) := fun q hq hm => by
  obtain ⟨p, hp, e⟩ := List.mem_map.mp hm
  have h1 := RB.inG q hq
  rw [← e, (N p hp).2.2] at h1
  cases h1
theorem off_nil {rest : List (Addr × Obj)} : ∀ q ∈ rest, q.1 ∉ ([] : List (Addr × Obj)).map (·.1) := fun _ _ => List.not_mem_nil
end Mine
end
section
set_option linter.unusedVariables false
set_option linter.unusedSimpArgs false
open PySem PySem.W PySem.Spec PySem.Calls PyProof.Rows
namespace Mine
set_option maxRecDepth 100000

/-- how a turn of a loop ends, the counter of tokens in sight -/
def EndM (h₀ : Heap) (L I : Addr) (own : List (Addr × Obj)) (J : Nat → (Str → Option Value) → List (Addr × Obj) → Prop) (s₁ s₂ : Shared) : Prop :=
  ∃ h' tk m' led', s₂ = { s₁ with heap := h', toks := tk } ∧ Fr h₀ L h' m' ∧ News h₀ L h' (led' ++ own) ∧ (∀ p ∈ led', p.1 ≠ I) ∧ J tk m' led'
def PostM (h₀ : Heap) (L I : Addr) (own : List (Addr × Obj)) (J : Nat → (Str → Option Value) → List (Addr × Obj) → Prop) (s₁ : Shared) (Q : Flow → Shared → Prop) (f : Flow) (s₂ : Shared) : Prop :=
  match f with
  | .ret v => Q (.ret v) s₂
  | .brk => Q .next s₂
  | .next => EndM h₀ L I own J s₁ s₂
  | .cont => EndM h₀ L I own J s₁ s₂
theorem EndM.intro {h₀ : Heap} {L I : Addr} {own led' led'' : List (Addr × Obj)} {J : Nat → (Str → Option Value) → List (Addr × Obj) → Prop} {s₁ : Shared} {h' : Heap} {tk : Nat} {m' : Str → Option Value}
    (F : Fr h₀ L h' m') (N : News h₀ L h' led'') (hs : ∀ p ∈ led', p ∈ led'') (ho : ∀ p ∈ own, p ∈ led'') (hI : ∀ p ∈ led', p.1 ≠ I) (hj : J tk m' led') : EndM h₀ L I own J s₁ { s₁ with heap := h', toks := tk } :=
  ⟨h', tk, m', led', rfl, F, fun p hp => N p ((List.mem_append.mp hp).elim (hs p) (ho p)), hI, hj⟩

section
variable {prog : Program} {w : World} {A : Around} {E : Value → Shared → Prop} {Q : Flow → Shared → Prop} {s : Shared} {env : Env} {h₀ : Heap} {x : Str} {px : Pos} {body orelse : List Stmt}

theorem loopM {I : Addr} {fp : List Addr} {n : Nat} {P : Nat → Value → Prop} {St : Nat → Heap → Prop} {m : Str → Option Value} {led : List (Addr × Obj)}
    (W : Walks prog w A I fp [I] n P St) (hLf : env.locals ∉ fp) (hI : h₀.get? I = none) (hnw : ∀ p ∈ led, p.1 ≠ I) (hlive : ∀ i h, St i h → ∃ o, h.get? I = some o)
    (hst : St 0 s.heap) (F : Fr h₀ env.locals s.heap m) (N : News h₀ env.locals s.heap led)
    (J : Nat → Nat → (Str → Option Value) → List (Addr × Obj) → Prop) (h0 : J 0 s.toks m led)
    (turn : ∀ i v tk₀ m₁ led₁ h tk own, i < n → P i v → tk₀ ≤ tk → J i tk₀ m₁ led₁ → (∀ p ∈ led₁, p.1 ≠ I) → (∃ it, (I, it) ∈ own) → (∀ p ∈ own, p.1 ∈ fp) →
      Fr h₀ env.locals h (fun y => if y = x then some v else m₁ y) → News h₀ env.locals h (led₁ ++ own) →
      wpAny (model prog w) A (execs body env) (PostM h₀ env.locals I own (J (i + 1)) { s with heap := h, toks := tk } Q) E { s with heap := h, toks := tk })
    (done : ∀ h tk₀ tk m₁ led₁, tk₀ ≤ tk → J n tk₀ m₁ led₁ → Fr h₀ env.locals h m₁ → News h₀ env.locals h led₁ → wpAny (model prog w) A (execs orelse env) Q E { s with heap := h, toks := tk })
    (hx : env.kindOf x = some .local) (hp : (env.scope.kind == .class || (env.scope.kind == .module && env.locals != env.globals)) = false)
    (hE : PassesOwn (model prog w) A env E) :
    codeAny (model prog w) A (.forLoop (.Name x px) (.ref I) body orelse env) (fun r s' => match r with | .ok f => Q f s' | .error e => cameBackBy (model prog w) A env E e s') s := by
  have hL : env.locals ≠ I := fun h => hLf (h ▸ W.sub I (by simp))
  refine codeAny_forLoop (R := fun r s' => match r with | .ok f => Q f s' | .error e => cameBackBy (model prog w) A env E e s')
    (fun k s' => ∃ h' tk₀ tk m' led' i, s' = { s with heap := h', toks := tk } ∧ tk₀ ≤ tk ∧ St i h' ∧ Fr h₀ env.locals h' m' ∧ News h₀ env.locals h' led' ∧ (∀ p ∈ led', p.1 ≠ I) ∧ J i tk₀ m' led' ∧ i ≤ n ∧ k = n + 1 - i) ?_ (n + 1)
    ⟨s.heap, s.toks, s.toks, m, led, 0, rfl, Nat.le_refl _, hst, F, N, hnw, h0, Nat.zero_le _, rfl⟩
  rintro k s' ⟨h', tk₀, tk, m', led', i, rfl, htk, hst', F', N', hnw', hJ, hi, rfl⟩
  have old : ∀ b o, h₀.get? b = some o → b ∉ [I] := fun b o e hb => by rw [List.mem_singleton.mp hb, hI] at e; cases e
  have next : ∀ h₁ : Heap, (∀ b o, b ∉ [I] → h'.get? b = some o → h₁.get? b = some o) → Fr h₀ env.locals h₁ m' ∧ News h₀ env.locals h₁ led' := fun h₁ hk₁ =>
    ⟨⟨F'.ns.at' fun o e => hk₁ _ o (by simpa using hL) e, fun b o e => hk₁ b o (old b o e) (F'.keep b o e), F'.above⟩, fun p hp => ⟨hk₁ _ _ (by simpa using hnw' p hp) (N' p hp).1, (N' p hp).2⟩⟩
  by_cases hlt : i < n
  · refine wpAny_with_toks (n := tk) (Nat.le_refl _) (W.item i _ _ _ hlt hst' fun v h₁ tk₁ hP hst₁ hk₁ htk₁ => ?_)
    obtain ⟨F₁, N₁⟩ := next h₁ hk₁
    refine wpAny_assign_Name (wpAny_storeName_local hx F₁.ns (fun h₂ hn₂ hs₂ => ?_) hp)
    have F₂ := F₁.set hn₂ hs₂
    have Nown : News h₀ env.locals h₂ (ownOf h₀ fp h₂) := news_ownOf hLf
    have hst₂ : St (i + 1) h₂ := W.frame _ _ _ hst₁ fun b hb o e => (hs₂.2 b fun q => hLf (q ▸ hb)).trans e
    have hIn : I ∈ fp := W.sub I (by simp)
    obtain ⟨oI, hoI⟩ := hlive _ _ hst₂
    refine wpAny_mono (wpAny_passesOwn hE (turn i v tk₀ m' led' h₂ _ (ownOf h₀ fp h₂) hlt hP (Nat.le_trans htk (Nat.le_succ_of_le htk₁)) hJ hnw' ⟨oI, mem_ownOf hIn hI hoI⟩ ownOf_sub F₂ ((N₁.set hs₂).append Nown))) (fun f s₃ h₃ => ?_) fun _ _ e => e
    have fin : EndM h₀ env.locals I (ownOf h₀ fp h₂) (J (i + 1)) { s with heap := h₂, toks := tk₁ + 1 } s₃ →
        ∃ k', k' < n + 1 - i ∧ ∃ h' tk₀ tk m' led' i, s₃ = { s with heap := h', toks := tk } ∧ tk₀ ≤ tk ∧ St i h' ∧ Fr h₀ env.locals h' m' ∧ News h₀ env.locals h' led' ∧ (∀ p ∈ led', p.1 ≠ I) ∧ J i tk₀ m' led' ∧ i ≤ n ∧ k' = n + 1 - i := by
      rintro ⟨h₃', tk₃, m₂, led₂, rfl, F₃, N₃, ha₃, hJ₃⟩
      refine ⟨n + 1 - (i + 1), by lia, h₃', tk₃, tk₃, m₂, led₂, i + 1, rfl, Nat.le_refl _, ?_, F₃, fun p hp => N₃ p (List.mem_append_left _ hp), ha₃, hJ₃, hlt, rfl⟩
      refine W.frame _ _ _ hst₁ fun b hb o e => ?_
      have e₂ : h₂.get? b = some o := (hs₂.2 b fun q => hLf (q ▸ hb)).trans e
      cases hn : h₀.get? b with
      | some o₀ =>
        have : o₀ = o := by have := F₂.keep b o₀ hn; rw [e₂] at this; exact (Option.some.inj this).symm
        exact this ▸ F₃.keep b o₀ hn
      | none => exact (N₃ _ (List.mem_append_right _ (mem_ownOf hb hn e₂))).1
    cases f with
    | ret v => exact h₃
    | brk => exact h₃
    | next => exact fin h₃
    | cont => exact fin h₃
  · have hin : i = n := by lia
    subst hin
    refine wpAny_with_toks (n := tk) (Nat.le_refl _) (W.done _ _ _ hst' fun h₁ tk₁ hk₁ htk₁ => ?_)
    obtain ⟨F₁, N₁⟩ := next h₁ hk₁
    refine wpAny_mono (wpAny_passesOwn hE (done h₁ tk₀ tk₁ m' led' (Nat.le_trans htk htk₁) hJ F₁ N₁)) (fun f s₃ h₃ => h₃) fun _ _ e => e
end

section
variable {prog : Program} {w : World} {A : Around} {E : Value → Shared → Prop} {Q : Flow → Shared → Prop} {s : Shared} {env : Env} {h₀ : Heap} {x : Str} {px : Pos} {body orelse : List Stmt}
/-- a loop over a list of the ledger, its values in sight -/
theorem loopM_list {l : Addr} {vs : List Value} {c : Nat} {m : Str → Option Value} {led : List (Addr × Obj)}
    (hh : A.handled = none) (hl : (l, listOf vs.toArray c) ∈ led) (F : Fr h₀ env.locals s.heap m) (N : News h₀ env.locals s.heap led)
    (J : (Str → Option Value) → Nat → Nat → (Str → Option Value) → List (Addr × Obj) → Prop) (h0 : J m 0 s.toks m led)
    (turn : ∀ i v tk₀ m₁ led₁ h tk I own, vs[i]? = some v → tk₀ ≤ tk → J m i tk₀ m₁ led₁ → (∀ p ∈ led₁, p.1 ≠ I) → (∃ it, (I, it) ∈ own) → (∀ p ∈ own, p.1 = I ∨ p.1 = l) →
      Fr h₀ env.locals h (fun y => if y = x then some v else m₁ y) → News h₀ env.locals h (led₁ ++ own) →
      wpAny (model prog w) A (execs body env) (PostM h₀ env.locals I own (J m (i + 1)) { s with heap := h, toks := tk } Q) E { s with heap := h, toks := tk })
    (done : ∀ h tk₀ tk m₁ led₁, tk₀ ≤ tk → J m vs.length tk₀ m₁ led₁ → Fr h₀ env.locals h m₁ → News h₀ env.locals h led₁ → wpAny (model prog w) A (execs orelse env) Q E { s with heap := h, toks := tk })
    (hx : env.kindOf x = some .local) (hp : (env.scope.kind == .class || (env.scope.kind == .module && env.locals != env.globals)) = false)
    (hE : PassesOwn (model prog w) A env E) :
    wpAny (model prog w) A (pyIter (.ref l)) (fun it s₂ => codeAny (model prog w) A (.forLoop (.Name x px) it body orelse env) (fun r s' => match r with | .ok f => Q f s' | .error e => cameBackBy (model prog w) A env E e s') s₂) E s := by
  have hls : s.heap.IsList l vs.toArray := ⟨_, (N _ hl).1, rfl, c, rfl⟩
  have hlt := Heap.lt_size (N _ hl).1
  refine wpAny_pyIter_list hls ?_
  have W := Walks.list (prog := prog) (w := w) hh s.heap.objs.size l (Nat.ne_of_lt hlt) vs.toArray
  rw [List.size_toArray] at W
  refine loopM W ?_ (next_is_new F) (fun p hp => Nat.ne_of_lt (Heap.lt_size (N p hp).1)) (fun i h st => ⟨_, st.1.choose_spec.1⟩) ⟨⟨_, Heap.get?_push_size _ rfl, rfl, rfl⟩, hls.at fun o e => Heap.get?_push_of_some _ e⟩ (F.push _) (fun p hp => ⟨Heap.get?_push_of_some _ (N p hp).1, (N p hp).2⟩) (J m) h0 ?_ done hx hp hE
  · intro hm
    rcases List.mem_cons.mp hm with e | hm
    · exact absurd F.ns.lt (e ▸ Nat.lt_irrefl _)
    · exact (N _ hl).2.1 (List.mem_singleton.mp hm).symm
  · intro i v tk₀ m₁ led₁ h tk own hi hP htk hJ hnw hlive hown F₁ N₁
    exact turn i v tk₀ m₁ led₁ h tk _ own (by simpa using hP) htk hJ hnw hlive (fun p hp => by simpa using hown p hp) F₁ N₁

/-- a loop over a range by ones -/
theorem loopM_range {r : Addr} {a₀ b₀ : Int} {t₀ u₀ v₀ : Tok} {n : Nat} {m : Str → Option Value} {led : List (Addr × Obj)}
    (hh : A.handled = none) (hr : IsRange s.heap r a₀ b₀ 1 t₀ u₀ v₀) (hsmall : Builtin.Range.small a₀ b₀ 1 = true) (hn : Builtin.Range.rangeSize a₀ b₀ 1 = (n : Int)) (F : Fr h₀ env.locals s.heap m) (N : News h₀ env.locals s.heap led)
    (J : (Str → Option Value) → Nat → Nat → (Str → Option Value) → List (Addr × Obj) → Prop) (h0 : J m 0 s.toks m led)
    (turn : ∀ (i : Nat) t tk₀ m₁ led₁ h tk I own, i < n → tk₀ ≤ tk → J m i tk₀ m₁ led₁ → (∀ p ∈ led₁, p.1 ≠ I) → (∃ it, (I, it) ∈ own) → (∀ p ∈ own, p.1 = I) →
      Fr h₀ env.locals h (fun y => if y = x then some (.int (a₀ + (i : Int)) t) else m₁ y) → News h₀ env.locals h (led₁ ++ own) →
      wpAny (model prog w) A (execs body env) (PostM h₀ env.locals I own (J m (i + 1)) { s with heap := h, toks := tk } Q) E { s with heap := h, toks := tk })
    (done : ∀ h tk₀ tk m₁ led₁, tk₀ ≤ tk → J m n tk₀ m₁ led₁ → Fr h₀ env.locals h m₁ → News h₀ env.locals h led₁ → wpAny (model prog w) A (execs orelse env) Q E { s with heap := h, toks := tk })
    (hx : env.kindOf x = some .local) (hp : (env.scope.kind == .class || (env.scope.kind == .module && env.locals != env.globals)) = false)
    (hE : PassesOwn (model prog w) A env E) :
    wpAny (model prog w) A (pyIter (.ref r)) (fun it s₂ => codeAny (model prog w) A (.forLoop (.Name x px) it body orelse env) (fun r s' => match r with | .ok f => Q f s' | .error e => cameBackBy (model prog w) A env E e s') s₂) E s := by
  refine wpAny_pyIter_range hr hsmall ?_
  have W := Walks.range (prog := prog) (w := w) hh s.heap.objs.size a₀ 1 n
  refine loopM W ?_ (next_is_new F) (fun p hp => Nat.ne_of_lt (Heap.lt_size (N p hp).1)) (fun i h st => ⟨_, st⟩) (by show IsRangeIter _ _ _ _ _; rw [hn]; simpa using Heap.get?_push_size _ rfl) (F.push _) (fun p hp => ⟨Heap.get?_push_of_some _ (N p hp).1, (N p hp).2⟩) (J m) h0 ?_ done hx hp hE
  · intro hm
    exact absurd F.ns.lt ((List.mem_singleton.mp hm) ▸ Nat.lt_irrefl _)
  · rintro i v tk₀ m₁ led₁ h tk own hi ⟨t, rfl⟩ htk hJ hnw hlive hown F₁ N₁
    have e1 : a₀ + (i : Int) * 1 = a₀ + (i : Int) := by lia
    rw [e1] at F₁
    exact turn i t tk₀ m₁ led₁ h tk _ own hi htk hJ hnw hlive (fun p hp => by simpa using hown p hp) F₁ N₁

/-- a loop over a list from behind -/
theorem loopM_rev {l I : Addr} {vs : List Value} {c : Nat} {m : Str → Option Value} {led : List (Addr × Obj)}
    (hh : A.handled = none) (hl : (l, listOf vs.toArray c) ∈ led) (hI : ∀ p ∈ led, p.1 ≠ I) (F : Fr h₀ env.locals s.heap m) (N : News h₀ env.locals s.heap ((I, revObj l ((vs.length : Int) - 1)) :: led))
    (J : (Str → Option Value) → Nat → Nat → (Str → Option Value) → List (Addr × Obj) → Prop) (h0 : J m 0 s.toks m led)
    (turn : ∀ i v tk₀ m₁ led₁ h tk own, i < vs.length → vs[vs.length - 1 - i]? = some v → tk₀ ≤ tk → J m i tk₀ m₁ led₁ → (∀ p ∈ led₁, p.1 ≠ I) → (∃ it, (I, it) ∈ own) → (∀ p ∈ own, p.1 = I ∨ p.1 = l) →
      Fr h₀ env.locals h (fun y => if y = x then some v else m₁ y) → News h₀ env.locals h (led₁ ++ own) →
      wpAny (model prog w) A (execs body env) (PostM h₀ env.locals I own (J m (i + 1)) { s with heap := h, toks := tk } Q) E { s with heap := h, toks := tk })
    (done : ∀ h tk₀ tk m₁ led₁, tk₀ ≤ tk → J m vs.length tk₀ m₁ led₁ → Fr h₀ env.locals h m₁ → News h₀ env.locals h led₁ → wpAny (model prog w) A (execs orelse env) Q E { s with heap := h, toks := tk })
    (hx : env.kindOf x = some .local) (hp : (env.scope.kind == .class || (env.scope.kind == .module && env.locals != env.globals)) = false)
    (hE : PassesOwn (model prog w) A env E) :
    wpAny (model prog w) A (pyIter (.ref I)) (fun it s₂ => codeAny (model prog w) A (.forLoop (.Name x px) it body orelse env) (fun r s' => match r with | .ok f => Q f s' | .error e => cameBackBy (model prog w) A env E e s') s₂) E s := by
  have NI := N _ List.mem_cons_self
  have hit : PySem.Heap.IsRevIter s.heap I l ((vs.length : Int) - 1) := ⟨_, NI.1, rfl, rfl⟩
  refine wpAny_pyIter_revIter hit ?_
  have N1 : News h₀ env.locals s.heap led := fun p hp => N p (List.mem_cons_of_mem _ hp)
  have hls : s.heap.IsList l vs.toArray := ⟨_, (N1 _ hl).1, rfl, c, rfl⟩
  have W := Walks.listRev (prog := prog) (w := w) hh I l (hI _ hl) vs.toArray
  rw [List.size_toArray] at W
  refine loopM W ?_ NI.2.2 hI (fun i h st => ⟨_, st.2.1.choose_spec.1⟩) ⟨Nat.zero_le _, by simpa using hit, hls⟩ F N1 (J m) h0 ?_ done hx hp hE
  · intro hm
    rcases List.mem_cons.mp hm with e | hm
    · exact NI.2.1 e.symm
    · exact (N1 _ hl).2.1 (List.mem_singleton.mp hm).symm
  · intro i v tk₀ m₁ led₁ h tk own hi hP htk hJ hnw hlive hown F₁ N₁
    exact turn i v tk₀ m₁ led₁ h tk own hi (by simpa using hP) htk hJ hnw hlive (fun p hp => by simpa using hown p hp) F₁ N₁
end

/-- the walk stops here -/
def Halt (P : Prop) : Prop := P
theorem Halt.out {P : Prop} (h : Halt P) : P := h
def valOf : Value → Int
  | .int n _ => n
  | _ => 0
def tokOfV : Value → Nat
  | .int _ t => t
  | .str _ t => t
  | _ => 0
end Mine
end
section
set_option linter.unusedVariables false
set_option linter.unusedSimpArgs false
open PySem PySem.W PySem.Spec PySem.Calls PyProof.Rows
namespace Mine
set_option maxRecDepth 100000
section
variable {M : Model} {A : Around} {E : Value → Shared → Prop} {s : Shared}
theorem is_int {a b : Int} {t u : Tok} {Q : Value → Shared → Prop} (ht : t ≠ 0) (hu : u ≠ 0) (hsm : smallInt b = true) (hne : a ≠ b → t ≠ u) (h : Q (.bool (decide (a = b))) s) :
    wpAny M A (compareOp .Is (.int a t) (.int b u)) Q E s := by
  have h0 : (t == 0 || u == 0) = false := by simp [ht, hu]
  show wpAny M A (isSame (.int a t) (.int b u) >>= fun r => pure (Value.bool r)) Q E s
  refine wpAny_bind ?_
  show wpAny M A (if (a == b && smallInt a) = true then isSame.cachedInt t u else isSame.created (a == b) t u) _ E s
  by_cases hab : a = b
  · subst hab
    rw [if_pos (by simp [hsm])]
    unfold isSame.cachedInt
    rw [if_neg (by simp [h0])]
    refine wpAny_bind (wpAny_rule (wpAny_pure (wpAny_pure ?_)))
    simpa using h
  · rw [if_neg (by simp [hab])]
    unfold isSame.created
    refine wpAny_ite ?_
    rw [if_neg (by simp [h0])]
    have hne' := hne hab
    have e1 : (t == u) = false := by simpa using hne'
    have e2 : (a == b) = false := by simpa using hab
    simp only [e1, e2, Bool.false_eq_true, if_false, Bool.not_false, if_true]
    exact wpAny_pure (wpAny_pure (by simpa [hab] using h))

theorem is_str {a b : Str} {t u : Tok} {Q : Value → Shared → Prop} (ht : t ≠ 0) (hu : u ≠ 0) (hb : NoneBooked s.heap) (hne : a ≠ b → t ≠ u) (h : ∀ r : Bool, (r = true → a = b) → Q (.bool r) s) :
    wpAny M A (compareOp .Is (.str a t) (.str b u)) Q E s := by
  have h0 : (t == 0 || u == 0) = false := by simp [ht, hu]
  show wpAny M A (isSame (.str a t) (.str b u) >>= fun r => pure (Value.bool r)) Q E s
  refine wpAny_bind ?_
  by_cases hab : a = b
  · exact wpAny_isSame_str h0 hb fun r => wpAny_pure (h r fun _ => hab)
  · show wpAny M A (isSame.created (a == b) t u) _ E s
    unfold isSame.created
    refine wpAny_ite ?_
    rw [if_neg (by simp [h0])]
    have e1 : (t == u) = false := by simpa using hne hab
    have e2 : (a == b) = false := by simpa using hab
    simp only [e1, e2, Bool.false_eq_true, if_false, Bool.not_false, if_true]
    exact wpAny_pure (wpAny_pure (h false (fun q => by cases q)))
end

theorem start1 {M : Str → Option Value} {x₁ x₂ : Str} {v : Value} (h : M x₁ = some v) : M = fun y => if y = x₁ then some v else if y = x₂ then M x₂ else M y := by
  funext y
  by_cases h1 : y = x₁
  · rw [if_pos h1, h1, h]
  · rw [if_neg h1]
    by_cases h2 : y = x₂
    · rw [if_pos h2, h2]
    · rw [if_neg h2]
/-- a turn that stored two names of the loop's map -/
theorem step2 {M : Str → Option Value} {x₁ x₂ : Str} {v w : Value} {a u : Option Value} : (fun y => if y = x₁ then some v else if y = x₂ then some w else if y = x₁ then a else if y = x₂ then u else M y) = fun y => if y = x₁ then some v else if y = x₂ then some w else M y := by
  funext y
  by_cases h1 : y = x₁
  · simp only [if_pos h1]
  · by_cases h2 : y = x₂
    · simp only [if_neg h1, if_pos h2]
    · simp only [if_neg h1, if_neg h2]
/-- a turn that stored its own name alone -/
theorem step0 {M : Str → Option Value} {x₁ x₂ : Str} {w : Value} {a u : Option Value} (hne : x₁ ≠ x₂) : (fun y => if y = x₂ then some w else if y = x₁ then a else if y = x₂ then u else M y) = fun y => if y = x₁ then a else if y = x₂ then some w else M y := by
  funext y
  by_cases h1 : y = x₁
  · have h2 : y ≠ x₂ := fun h => hne (h1.symm.trans h)
    simp only [if_neg h2, if_pos h1]
  · by_cases h2 : y = x₂
    · simp only [if_neg h1, if_pos h2]
    · simp only [if_neg h1, if_neg h2]
theorem mem_own {l own : List (Addr × Obj)} {p : Addr × Obj} : ∀ q ∈ own, q ∈ p :: own := fun _ hq => List.mem_cons_of_mem _ hq
theorem mem_one {own : List (Addr × Obj)} {p : Addr × Obj} : ∀ q ∈ [p], q ∈ p :: own := fun _ hq => by rw [List.mem_singleton.mp hq]; exact List.mem_cons_self
end Mine
end
section
set_option linter.unusedVariables false
set_option linter.unusedSimpArgs false
open PySem PySem.W PySem.Spec PySem.Calls PyProof.Rows
namespace Mine
theorem Claim0.use {w : World} {loose : List Str} {mean : ExcName → Option Value} {mg mb : Str → Option Value} {f : Addr} {d u : Nat} {led : List (Addr × Obj)} {vs : List Value} {Post : Nat → Nat → Value → List (Addr × Obj) → Prop}
    (C : Claim0 w loose mean mg mb f d u led vs Post) {dp un : Nat} {gd : Option (List Code)} {cn : Str} {cs : Scope} {a : Addr} {ccd : Value} {cl : List (Str × Addr)} {outer : List Env} {A₀ : Around} {base h₀ : Heap} {L : Addr} {m : Str → Option Value} {s : Shared} {Q E : Value → Shared → Prop}
    (B : Below A₀ base outer h₀) (F : Fr h₀ L s.heap m) (X : (hk.heap_1 w.params).In h₀) (N : News h₀ L s.heap led) (T : Top topProg loose mean mg mb h₀) (hk : cs.kind = .function) (hd : dp + d < recursionLimit) (hu : un + u < cLine)
    (ret : ∀ (v : Value) (led' : List (Addr × Obj)) (h' : Heap) (tk' : Nat), Fr h₀ L h' m → News h₀ L h' led' → Post s.toks tk' v led' → Q v { s with heap := h', toks := tk' }) :
    wpAny (model PySem.Challenge.rw_un0019_01.row.prog w) (ktrTop dp un gd cn cs L a ccd cl outer) (call (.ref f) vs) Q E s :=
  C dp un gd cn cs a ccd cl outer A₀ base h₀ L m s Q E B F X N T hk hd hu ret
theorem Claim0.mono {w : World} {loose : List Str} {mean : ExcName → Option Value} {mg mb : Str → Option Value} {f : Addr} {d d' u u' : Nat} {led : List (Addr × Obj)} {vs : List Value} {Post : Nat → Nat → Value → List (Addr × Obj) → Prop}
    (C : Claim0 w loose mean mg mb f d u led vs Post) (hd' : d ≤ d') (hu' : u ≤ u') : Claim0 w loose mean mg mb f d' u' led vs Post := by
  intro dp un gd cn cs a ccd cl outer A₀ base h₀ L m s Q E B F X N T hk hd hu hret
  exact C dp un gd cn cs a ccd cl outer A₀ base h₀ L m s Q E B F X N T hk (by lia) (by lia) hret
theorem Claim.use {w : World} {loose : List Str} {mean : ExcName → Option Value} {mg mb : Str → Option Value} {f : Addr} {d u : Nat} {led : List (Addr × Obj)} {vs : List Value} {Post : Nat → Nat → Value → List (Addr × Obj) → Prop}
    (C : Claim w loose mean mg mb f d u led vs Post) {dp un : Nat} {gd : Option (List Code)} {cn : Str} {cs : Scope} {a : Addr} {ccd : Value} {cl : List (Str × Addr)} {outer : List Env} {A₀ : Around} {base h₀ : Heap} {L : Addr} {m : Str → Option Value} {s : Shared} {Q E : Value → Shared → Prop}
    (B : Below A₀ base outer h₀) (F : Fr h₀ L s.heap m) (X : (hk.heap_1 w.params).In h₀) (N : News h₀ L s.heap led) (T : Top topProg loose mean mg mb h₀) (hk : cs.kind = .function) (hd : dp + d < recursionLimit) (hu : un + u < cLine)
    (ret : ∀ (v : Value) (led' : List (Addr × Obj)) (h' : Heap) (tk' : Nat), s.toks ≤ tk' → Fr h₀ L h' m → News h₀ L h' led' → Post s.toks tk' v led' → Q v { s with heap := h', toks := tk' }) :
    wpAny (model PySem.Challenge.rw_un0019_01.row.prog w) (ktrTop dp un gd cn cs L a ccd cl outer) (call (.ref f) vs) Q E s :=
  C dp un gd cn cs a ccd cl outer A₀ base h₀ L m s Q E B F X N T hk hd hu ret

/-- the number that a row of digits makes -/
def d2i (n : Nat) (ns : List Int) : Int := ns.foldr (fun d acc => d + acc * 2 ^ n) 0
theorem d2i_append (n : Nat) (xs ys : List Int) : d2i n (xs ++ ys) = d2i n xs + d2i n ys * 2 ^ (n * xs.length) := by
  induction xs with
  | nil => simp [d2i]
  | cons x xs ih =>
    have h1 : d2i n (x :: xs ++ ys) = x + d2i n (xs ++ ys) * 2 ^ n := rfl
    have h2 : d2i n (x :: xs) = x + d2i n xs * 2 ^ n := rfl
    rw [h1, h2, ih, List.length_cons, Nat.mul_add, Nat.mul_one, Int.pow_add, Int.add_mul, Int.add_assoc, Int.mul_assoc]
theorem d2i_bound (n : Nat) (ns : List Int) (h : ∀ x ∈ ns, 0 ≤ x ∧ x < 2 ^ n) : 0 ≤ d2i n ns ∧ d2i n ns < 2 ^ (n * ns.length) := by
  induction ns with
  | nil => simp [d2i]
  | cons x xs ih =>
    obtain ⟨i1, i2⟩ := ih fun y hy => h y (List.mem_cons_of_mem _ hy)
    obtain ⟨x1, x2⟩ := h x List.mem_cons_self
    have h2 : d2i n (x :: xs) = x + d2i n xs * 2 ^ n := rfl
    have hp : (0 : Int) < 2 ^ n := Int.pow_pos (by decide)
    rw [h2, List.length_cons, Nat.mul_add, Nat.mul_one, Int.pow_add]
    refine ⟨Int.add_nonneg x1 (Int.mul_nonneg i1 (Int.le_of_lt hp)), ?_⟩
    have h3 : d2i n xs + 1 ≤ 2 ^ (n * xs.length) := by lia
    have h4 := Int.mul_le_mul_of_nonneg_right h3 (Int.le_of_lt hp)
    rw [Int.add_mul, Int.one_mul] at h4
    lia
theorem intBits_le {x : Int} {k : Nat} (h0 : 0 ≤ x) (h : x < 2 ^ k) : Builtin.Int.intBits x ≤ k := by
  unfold Builtin.Int.intBits
  by_cases hx : x = 0
  · simp [hx]
  · rw [if_neg (by simpa using hx)]
    have h1 : x.natAbs ≠ 0 := by lia
    have h2 : x.natAbs < 2 ^ k := by
      have : ((x.natAbs : Nat) : Int) < ((2 ^ k : Nat) : Int) := by
        rw [Int.natAbs_of_nonneg h0]; simpa using h
      exact_mod_cast this
    have := (Nat.log2_lt h1).mpr h2
    lia
theorem take_drop_split {ns : List Int} {a m b : Nat} (h1 : a ≤ m) (h2 : m ≤ b) (h3 : b ≤ ns.length) : (ns.take b).drop a = (ns.take m).drop a ++ (ns.take b).drop m := by
  have e1 : ns.take b = ns.take m ++ (ns.take b).drop m := by
    have := List.take_append_drop m (ns.take b)
    rw [List.take_take, Nat.min_eq_left h2] at this
    exact this.symm
  conv => lhs; rw [e1]
  rw [List.drop_append_of_le_length (by simp; lia)]
theorem take_drop_one {ns : List Int} {a : Nat} (h : a < ns.length) : (ns.take (a + 1)).drop a = [ns.getD a 0] := by
  rw [List.take_add_one, List.drop_append_of_le_length (by simp; lia)]
  simp [h]
theorem d2i_one (n : Nat) (x : Int) : d2i n [x] = x := by simp [d2i]
theorem sum_bound {ns : List Int} {n : Nat} {a b : Nat} (hb : ∀ x ∈ ns, 0 ≤ x ∧ x < 2 ^ n) : 0 ≤ d2i n ((ns.take b).drop a) ∧ Builtin.Int.intBits (d2i n ((ns.take b).drop a)) ≤ n * ns.length := by
  have h1 := d2i_bound n ((ns.take b).drop a) fun x hx => hb x (List.mem_of_mem_take (List.mem_of_mem_drop hx))
  refine ⟨h1.1, Nat.le_trans (intBits_le h1.1 h1.2) (Nat.mul_le_mul_left _ ?_)⟩
  simp only [List.length_drop, List.length_take]
  lia
theorem d2i_split {ns : List Int} {n : Nat} {a m b : Int} (h0 : 0 ≤ a) (h1 : a ≤ m) (h2 : m ≤ b) (h3 : b ≤ ns.length) :
    d2i n ((ns.take b.toNat).drop a.toNat) = d2i n ((ns.take b.toNat).drop m.toNat) * 2 ^ ((m - a) * n).toNat + d2i n ((ns.take m.toNat).drop a.toNat) := by
  have e := take_drop_split (ns := ns) (a := a.toNat) (m := m.toNat) (b := b.toNat) (by lia) (by lia) (by lia)
  have el : ((ns.take m.toNat).drop a.toNat).length = m.toNat - a.toNat := by simp only [List.length_drop, List.length_take]; lia
  have ex : ((m - a) * n).toNat = n * (m.toNat - a.toNat) := by
    have : (m - a) * (n : Int) = ((n * (m.toNat - a.toNat) : Nat) : Int) := by
      rw [Int.natCast_mul, Int.mul_comm]
      congr 1
      lia
    rw [this]; exact Int.toNat_natCast _
  rw [e, d2i_append, el, ex, Int.add_comm]
theorem halve (a b : Int) : Int.fdiv (a + b) (2 ^ Int.toNat 1) = (a + b) / 2 := by
  show Int.fdiv (a + b) 2 = _
  exact Int.fdiv_eq_ediv_of_nonneg _ (by decide)
end Mine
end
section
set_option linter.unusedVariables false
set_option linter.unusedSimpArgs false
open PySem PySem.W PySem.Spec PySem.Calls PyProof.Rows
namespace Mine
set_option maxRecDepth 100000
theorem allLt_mem {d : Nat} {l : List (Addr × Obj)} : AllLt d l → ∀ p ∈ l, @LT.lt Nat _ p.1 d := by
  induction l with
  | nil => intro _ p hp; cases hp
  | cons q r ih =>
    intro h p hp
    rcases List.mem_cons.mp hp with rfl | hp
    · exact h.1
    · exact ih h.2 p hp
/-- the table of a def that makes one def: empty, or the made code is in it -/
def TabSt (P : Addr) (line col : Nat) (qual : Str) (tb : List (Addr × Obj)) : Prop :=
  tb = [(P, tabObj #[])] ∨ ∃ (c' : Addr) (oc : Obj) (vs : Array Value) (t : Tok), tb = [(P, tabObj #[rawInt (line : Int), rawInt (col : Int), .ref c']), (c', oc)] ∧ oc.data = .fields vs ∧ vs[1]? = some (.str qual t) ∧ c' ≠ P
theorem news_drop1 {h₀ h : Heap} {L : Addr} {x y : Addr × Obj} {r : List (Addr × Obj)} (N : News h₀ L h (x :: y :: r)) : News h₀ L h (x :: r) := fun p hp => N p (by
  rcases List.mem_cons.mp hp with rfl | hp
  · exact List.mem_cons_self
  · exact List.mem_cons_of_mem _ (List.mem_cons_of_mem _ hp))
theorem news_rot {h₀ h : Heap} {L : Addr} {x y : Addr × Obj} {r : List (Addr × Obj)} (N : News h₀ L h (x :: y :: r)) : News h₀ L h ((x :: r) ++ [y]) := fun p hp => N p (by
  rcases List.mem_append.mp hp with hp | hp
  · rcases List.mem_cons.mp hp with rfl | hp
    · exact List.mem_cons_self
    · exact List.mem_cons_of_mem _ (List.mem_cons_of_mem _ hp)
  · rw [List.mem_singleton.mp hp]; exact List.mem_cons_of_mem _ List.mem_cons_self)
theorem TabSt.mem {P : Addr} {line col : Nat} {qual : Str} {tb : List (Addr × Obj)} (S : TabSt P line col qual tb) : ∃ o, (P, o) ∈ tb := by
  rcases S with rfl | ⟨c', oc, vs, t, rfl, _⟩
  · exact ⟨_, List.mem_cons_self⟩
  · exact ⟨_, List.mem_cons_self⟩
section
variable {M : Model} {A : Around} {E : Value → Shared → Prop} {s : Shared} {h₀ : Heap} {L a c P : Addr} {m mg mb : Str → Option Value} {cn : Str} {cs : Scope} {ccd : Value} {cl : List (Str × Addr)} {led tb : List (Addr × Obj)}
  {p : Program} {loose : List Str} {mean : ExcName → Option Value} {name qual : Str} {params : Arguments} {body : List Stmt} {scope : Scope} {ps : Array Value} {pos : Pos} {firstLine : Nat} {clos : List (Str × Addr)}
theorem nestAny {Q : Value → Shared → Prop} (F : Fr h₀ L s.heap m) (N : News h₀ L s.heap (tb ++ led)) (T : Top p loose mean mg mb h₀) (C : CodeHd h₀ c P) (hcd : ccd = .ref c) (S : TabSt P pos.line pos.col qual tb)
    (hoff : ∀ q ∈ led, q.1 ∉ tb.map (·.1)) (hcl : closureFor scope (envX cn cs L a ccd cl) = pure clos)
    (h : ∀ f c' oc vs t ctv doc h' tk, Fr h₀ L h' m →
      News h₀ L h' ((f, fnMade name qual params body scope clos doc ((mg "__name__").getD .none) c' ctv) :: ([(P, tabObj #[rawInt (pos.line : Int), rawInt (pos.col : Int), .ref c']), (c', oc)] ++ led)) →
      oc.data = .fields vs → vs[1]? = some (.str qual t) → c' ≠ P → (∀ q ∈ led, q.1 ≠ c') → (∀ q ∈ led, q.1 < f) → c' < f → P < f → Q (.ref f) { s with heap := h', toks := tk }) :
    wpAny M A (makeFunction name qual params (.stmts body) scope (envX cn cs L a ccd cl) [] [] [] pos firstLine) Q E s := by
  rcases S with rfl | ⟨c', oc, vs, t, rfl, e1, e2, e3⟩
  · have hP : ∀ q ∈ led, q.1 ≠ P := fun q hq => by simpa using hoff q hq
    refine nest_K F N T C hcd (UpdF.head hP) True.intro rfl hcl ?_
    intro f c' oc vs t ctv doc h' tk F' N' d1 d2 l1 l2
    have hPc : P < c' := l1 _ List.mem_cons_self
    refine h f c' oc vs t ctv doc h' tk F' (fun q hq => N' q ?_) d1 d2 (Nat.ne_of_gt hPc) (fun q hq => Nat.ne_of_lt (l1 q (List.mem_cons_of_mem _ hq))) (fun q hq => Nat.lt_trans (l1 q (List.mem_cons_of_mem _ hq)) l2) l2 (Nat.lt_trans hPc l2)
    simp only [List.cons_append, List.nil_append, List.mem_cons] at hq ⊢
    rcases hq with h | h | h | h
    · exact .inl h
    · exact .inr (.inr (.inl h))
    · exact .inr (.inl h)
    · exact .inr (.inr (.inr h))
  · refine nestHit_K (c' := c') F N T C hcd List.mem_cons_self (by simp [TriplesOk, rawInt]) (by simp [codeAmong, rawInt]) hcl ?_
    intro f ctv doc h' tk F' N' l1
    exact h f c' oc vs t ctv doc h' tk F' N' e1 e2 e3 (fun q hq hc => hoff q hq (by simp [hc])) (fun q hq => l1 q (List.mem_append_right _ hq)) (l1 (c', oc) (by simp)) (l1 (P, _) List.mem_cons_self)
end
end Mine
end
section
set_option linter.unusedVariables false
set_option linter.unusedSimpArgs false
open PySem PySem.W PySem.Spec PySem.Calls PyProof.Rows
namespace Mine
theorem foldl_rep (v : Value) (n : Nat) : ∀ acc : Array Value, List.foldl (fun x1 x2 => x1 ++ x2) acc (List.replicate n #[v]) = acc ++ (List.replicate n v).toArray := by
  induction n with
  | zero => intro acc; simp
  | succ n ih =>
    intro acc
    rw [List.replicate_succ, List.foldl_cons, ih, List.replicate_succ]
    apply Array.ext'
    simp
theorem mul_one {prog : Program} {w : World} {A : Around} {E : Value → Shared → Prop} {s : Shared} {h₀ : Heap} {L : Addr} {m : Str → Option Value} {news : List (Addr × Obj)} {l : Addr} {v : Value} {k : Nat} {x : Int} {u : Tok} {Q : Value → Shared → Prop}
    (F : Fr h₀ L s.heap m) (N : News h₀ L s.heap news) (hl : (l, W.listOf #[v] k) ∈ news) (h0 : 0 ≤ x) (h1 : x ≤ 100000)
    (h : ∀ D h', Fr h₀ L h' m → News h₀ L h' ((D, W.listOf (List.replicate x.toNat v).toArray 0) :: news) → (∀ p ∈ news, p.1 < D) → Q (.ref D) { s with heap := h' }) :
    wpAny (model prog w) A (binaryOp .Mult (.ref l) (.int x u)) Q E s := by
  refine mul_list F N (N _ hl).1 (by omega) (by omega) (by simp; omega) ?_
  intro h' F' N'
  refine h _ h' F' ?_ (fun p hp => Heap.lt_size (N p hp).1)
  have e : List.foldl (fun x1 x2 => x1 ++ x2) #[] (List.replicate (if (#[v] : Array Value).isEmpty = true then 0 else x.toNat) #[v]) = (List.replicate x.toNat v).toArray := by
    rw [show (if (#[v] : Array Value).isEmpty = true then 0 else x.toNat) = x.toNat from rfl, foldl_rep]
    simp
  rw [e] at N'
  exact N'
end Mine
end
section
set_option linter.unusedVariables false
set_option linter.unusedSimpArgs false
open PySem PySem.W PySem.Spec PySem.Calls PyProof.Rows
namespace Mine
/-- the lowest k digits of x, of n bits each, the lowest first -/
def digsN (n : Nat) : Nat → Nat → List Nat
  | 0, _ => []
  | k + 1, x => x % 2 ^ n :: digsN n k (x / 2 ^ n)
theorem digsN_length (n k x : Nat) : (digsN n k x).length = k := by
  induction k generalizing x with
  | zero => rfl
  | succ k ih => simp [digsN, ih]
theorem digsN_split (n j k x : Nat) : digsN n (j + k) x = digsN n j (x % 2 ^ (n * j)) ++ digsN n k (x / 2 ^ (n * j)) := by
  induction j generalizing x with
  | zero => simp [digsN]
  | succ j ih =>
    have e1 : j + 1 + k = (j + k) + 1 := by lia
    have e2 : 2 ^ (n * (j + 1)) = 2 ^ n * 2 ^ (n * j) := by rw [Nat.mul_succ, Nat.add_comm, Nat.pow_add]
    rw [e1]
    simp only [digsN]
    rw [ih, e2, Nat.mod_mul_right_div_self, Nat.mod_mul_right_mod, ← Nat.div_div_eq_div_mul]
    rfl
theorem digsN_lt (n k x : Nat) : ∀ d ∈ digsN n k x, d < 2 ^ n := by
  induction k generalizing x with
  | zero => intro d hd; cases hd
  | succ k ih =>
    intro d hd
    rcases List.mem_cons.mp hd with rfl | hd
    · exact Nat.mod_lt _ (Nat.two_pow_pos n)
    · exact ih _ d hd
def digs (n k : Nat) (x : Int) : List Int := (digsN n k x.toNat).map fun (d : Nat) => (d : Int)
theorem digs_length (n k : Nat) (x : Int) : (digs n k x).length = k := by simp [digs, digsN_length]
theorem digs_bound (n k : Nat) (x : Int) : ∀ d ∈ digs n k x, 0 ≤ d ∧ d < 2 ^ n := by
  intro d hd
  obtain ⟨e, he, rfl⟩ := List.mem_map.mp hd
  have := digsN_lt n k _ e he
  refine ⟨Int.natCast_nonneg e, ?_⟩
  have h : ((e : Nat) : Int) < ((2 ^ n : Nat) : Int) := Int.ofNat_lt.mpr this
  simpa using h
theorem digs_zero (n k : Nat) : digs n k 0 = List.replicate k 0 := by
  have h : digsN n k 0 = List.replicate k 0 := by
    induction k with
    | zero => rfl
    | succ k ih => simp [digsN, ih, List.replicate_succ]
  simp [digs, h]
theorem toNat_pow2 (n : Nat) : ((2 : Int) ^ n).toNat = 2 ^ n := by
  have : (2 : Int) ^ n = ((2 ^ n : Nat) : Int) := by simp
  rw [this]; exact Int.toNat_natCast _
theorem digs_split {n j k : Nat} {x : Int} (h : 0 ≤ x) : digs n (j + k) x = digs n j (x % 2 ^ (n * j)) ++ digs n k (x / 2 ^ (n * j)) := by
  unfold digs
  rw [digsN_split, List.map_append]
  obtain ⟨X, rfl⟩ := Int.eq_ofNat_of_zero_le h
  have e1 : ((X : Int) % 2 ^ (n * j)).toNat = X % 2 ^ (n * j) := by
    have : (X : Int) % 2 ^ (n * j) = ((X % 2 ^ (n * j) : Nat) : Int) := by simp
    rw [this]; exact Int.toNat_natCast _
  have e2 : ((X : Int) / 2 ^ (n * j)).toNat = X / 2 ^ (n * j) := by
    have : (X : Int) / 2 ^ (n * j) = ((X / 2 ^ (n * j) : Nat) : Int) := by simp
    rw [this]; exact Int.toNat_natCast _
  rw [e1, e2, Int.toNat_natCast]
theorem digs_one {n : Nat} {x : Int} (h0 : 0 ≤ x) (h1 : x < 2 ^ n) : digs n 1 x = [x] := by
  have e : x.toNat % 2 ^ n = x.toNat := Nat.mod_eq_of_lt (by
    have h2 : x.toNat < ((2 : Int) ^ n).toNat := by
      have hp : (0 : Int) < 2 ^ n := Int.pow_pos (by decide)
      lia
    rwa [toNat_pow2] at h2)
  simp only [digs, digsN, e, List.map_cons, List.map_nil]
  rw [Int.toNat_of_nonneg h0]
theorem d2i_digs {n k : Nat} (x : Nat) (h : x < 2 ^ (n * k)) : d2i n ((digsN n k x).map fun (d : Nat) => (d : Int)) = x := by
  induction k generalizing x with
  | zero =>
    have : x = 0 := by simpa using h
    subst this; rfl
  | succ k ih =>
    have e : x / 2 ^ n < 2 ^ (n * k) := by
      rw [Nat.div_lt_iff_lt_mul (Nat.two_pow_pos n), ← Nat.pow_add]
      rwa [Nat.mul_succ] at h
    have h2 : d2i n ((digsN n (k + 1) x).map fun (d : Nat) => (d : Int)) = ((x % 2 ^ n : Nat) : Int) + d2i n ((digsN n k (x / 2 ^ n)).map fun (d : Nat) => (d : Int)) * 2 ^ n := rfl
    rw [h2, ih _ e]
    have h3 := Nat.mod_add_div x (2 ^ n)
    have h4 : ((x % 2 ^ n + 2 ^ n * (x / 2 ^ n) : Nat) : Int) = (x : Int) := by rw [h3]
    rw [Int.natCast_add, Int.natCast_mul] at h4
    rw [← h4, Int.mul_comm]
    congr 1

theorem intsAre_replicate (k : Nat) (x : Int) (t : Tok) : IntsAre (List.replicate k (Value.int x t)) (List.replicate k x) := by
  induction k with
  | zero => exact .nil
  | succ k ih => rw [List.replicate_succ, List.replicate_succ]; exact .cons x t ih
theorem lt_intBits {x : Int} (h0 : 0 ≤ x) : x < 2 ^ Builtin.Int.intBits x := by
  obtain ⟨X, rfl⟩ := Int.eq_ofNat_of_zero_le h0
  have h := (intBits_le_iff (m := Builtin.Int.intBits (X : Int)) (x := (X : Int))).mp (Nat.le_refl _)
  rw [Int.natAbs_natCast] at h
  have h2 : ((X : Nat) : Int) < ((2 ^ Builtin.Int.intBits (X : Int) : Nat) : Int) := Int.ofNat_lt.mpr h
  simpa using h2
theorem len_enough {x : Int} {n : Nat} (h0 : 0 ≤ x) (hn : 1 ≤ n) : x < 2 ^ (n * (Int.fdiv (↑(Builtin.Int.intBits x) + ↑n - 1) ↑n).toNat) := by
  refine Int.lt_of_lt_of_le (lt_intBits h0) ?_
  have e : (Int.fdiv (↑(Builtin.Int.intBits x) + ↑n - 1) ↑n).toNat = (Builtin.Int.intBits x + n - 1) / n := by
    have : (↑(Builtin.Int.intBits x) + ↑n - 1 : Int) = ((Builtin.Int.intBits x + n - 1 : Nat) : Int) := by lia
    rw [this, Int.fdiv_eq_ediv_of_nonneg _ (by lia), ← Int.natCast_ediv]
    exact Int.toNat_natCast _
  rw [e]
  have h1 : Builtin.Int.intBits x ≤ n * ((Builtin.Int.intBits x + n - 1) / n) := by
    have := Nat.div_add_mod (Builtin.Int.intBits x + n - 1) n
    have h2 := Nat.mod_lt (Builtin.Int.intBits x + n - 1) (show 0 < n by lia)
    lia
  have h3 := Nat.pow_le_pow_right (show 0 < 2 by decide) h1
  have h4 : ((2 ^ Builtin.Int.intBits x : Nat) : Int) ≤ ((2 ^ (n * ((Builtin.Int.intBits x + n - 1) / n)) : Nat) : Int) := Int.ofNat_le.mpr h3
  simpa using h4
theorem news_pick {h₀ h : Heap} {L : Addr} {a b c d e1 e2 e3 : Addr × Obj} {r : List (Addr × Obj)} (N : News h₀ L h (a :: b :: c :: d :: e1 :: e2 :: e3 :: r)) : News h₀ L h ((d :: [a, c, e1, e2, e3]) ++ [b]) := fun p hp => N p (by
  simp only [List.cons_append, List.nil_append, List.mem_cons, List.not_mem_nil, or_false] at hp ⊢
  rcases hp with h | h | h | h | h | h | h <;> simp [h])
/-- a list with a stretch written over -/
def fill (ds : List Int) (a : Nat) (ys : List Int) : List Int := ds.take a ++ ys ++ ds.drop (a + ys.length)
theorem fill_length {ds ys : List Int} {a : Nat} (h : a + ys.length ≤ ds.length) : (fill ds a ys).length = ds.length := by
  simp only [fill, List.length_append, List.length_take, List.length_drop]; lia
theorem fill_fill {ds ys zs : List Int} {a m : Nat} (hm : m = a + ys.length) (h : a + ys.length + zs.length ≤ ds.length) : fill (fill ds a ys) m zs = fill ds a (ys ++ zs) := by
  subst hm
  have l1 : (ds.take a ++ ys).length = a + ys.length := by simp only [List.length_append, List.length_take]; lia
  have e1 : (fill ds a ys).take (a + ys.length) = ds.take a ++ ys := by
    unfold fill
    rw [List.take_append_of_le_length (Nat.le_of_eq l1.symm), ← l1, List.take_length]
  have e2 : (fill ds a ys).drop (a + ys.length + zs.length) = ds.drop (a + (ys ++ zs).length) := by
    unfold fill
    rw [List.drop_append, l1, List.drop_eq_nil_of_le (by rw [l1]; lia), List.nil_append, List.drop_drop, List.length_append]
    congr 1
    lia
  show (fill ds a ys).take (a + ys.length) ++ zs ++ (fill ds a ys).drop (a + ys.length + zs.length) = _
  rw [e1, e2]
  simp [fill, List.append_assoc]
theorem fill_one {ds : List Int} {a : Nat} {x : Int} (h : a < ds.length) : fill ds a [x] = ds.set a x := by
  unfold fill
  rw [List.set_eq_take_append_cons_drop, if_pos h]
  simp
theorem fill_all {ds ys : List Int} (h : ys.length = ds.length) : fill ds 0 ys = ys := by
  simp [fill, h]

/-- the lower part by xor -/
theorem and_high (x s : Nat) : x &&& (x / 2 ^ s * 2 ^ s) = x / 2 ^ s * 2 ^ s := by
  apply Nat.eq_of_testBit_eq
  intro i
  rw [Nat.testBit_and, Nat.mul_comm, Nat.testBit_two_pow_mul, Nat.testBit_div_two_pow]
  by_cases h : s ≤ i
  · have e' : i - s + s = i := by lia
    simp [h, e']
  · simp [h]
theorem bitAnd_nat (x y : Nat) : Builtin.bitAnd (x : Int) (y : Int) = ((x &&& y : Nat) : Int) := by
  unfold Builtin.bitAnd
  simp
theorem xor_low {x : Int} (s : Nat) (h : 0 ≤ x) : Builtin.bitXor x (x / 2 ^ s * 2 ^ s) = x % 2 ^ s := by
  obtain ⟨X, rfl⟩ := Int.eq_ofNat_of_zero_le h
  have e : (X : Int) / 2 ^ s * 2 ^ s = ((X / 2 ^ s * 2 ^ s : Nat) : Int) := by simp
  rw [bitXor_and, e, bitAnd_nat, and_high, ← e]
  have := Int.emod_add_mul_ediv (X : Int) (2 ^ s)
  rw [Int.mul_comm] at this
  lia
end Mine
end
section
set_option linter.unusedVariables false
set_option linter.unusedSimpArgs false
open PySem PySem.W PySem.Spec PySem.Calls PyProof.Rows
namespace Mine
theorem start3 {M : Str → Option Value} {x₁ x₂ x₃ : Str} {v : Value} (h : M x₁ = some v) : M = fun y => if y = x₁ then some v else if y = x₂ then M x₂ else if y = x₃ then M x₃ else M y := by
  funext y
  by_cases h1 : y = x₁
  · rw [if_pos h1, h1, h]
  · rw [if_neg h1]
    by_cases h2 : y = x₂
    · rw [if_pos h2, h2]
    · rw [if_neg h2]
      by_cases h3 : y = x₃
      · rw [if_pos h3, h3]
      · rw [if_neg h3]
theorem step3 {M : Str → Option Value} {x₁ x₂ x₃ : Str} {v w z a u1 u2 : Option Value} : (fun y => if y = x₁ then v else if y = x₂ then w else if y = x₃ then z else if y = x₁ then a else if y = x₂ then u1 else if y = x₃ then u2 else M y) = fun y => if y = x₁ then v else if y = x₂ then w else if y = x₃ then z else M y := by
  funext y
  by_cases h1 : y = x₁
  · simp only [if_pos h1]
  · by_cases h2 : y = x₂
    · simp only [if_neg h1, if_pos h2]
    · by_cases h3 : y = x₃
      · simp only [if_neg h1, if_neg h2, if_pos h3]
      · simp only [if_neg h1, if_neg h2, if_neg h3]
theorem intBits_pos {b : Int} (h : 0 < b) : 1 ≤ Builtin.Int.intBits b := by
  unfold Builtin.Int.intBits
  rw [if_neg (by simp; lia)]
  lia
theorem log2_small {y : Int} (h0 : 0 < y) (h1 : y < 2 ^ 64) : y.natAbs.log2 < 9000 := by
  have h2 : y.natAbs < 2 ^ 64 := by lia
  exact Nat.lt_of_lt_of_le ((Nat.log2_lt (by lia)).mpr h2) (by decide)
/-- one digit more of a division by hand -/
theorem div_step {b V d : Int} {n : Nat} (hb : 0 < b) : (d + V * 2 ^ n) / b = V / b * 2 ^ n + (V % b * 2 ^ n + d) / b ∧ (d + V * 2 ^ n) % b = (V % b * 2 ^ n + d) % b := by
  have e : d + V * 2 ^ n = (V % b * 2 ^ n + d) + (V / b * 2 ^ n) * b := by
    have h := Int.emod_add_mul_ediv V b
    have : V * 2 ^ n = (V % b + b * (V / b)) * 2 ^ n := by rw [h]
    rw [this, Int.add_mul, Int.mul_comm b, Int.mul_assoc (V / b), Int.mul_comm b, ← Int.mul_assoc]
    lia
  rw [e]
  constructor
  · rw [Int.add_mul_ediv_right _ _ (Int.ne_of_gt hb)]; lia
  · rw [Int.add_mul_emod_self_right]
theorem digit_small {b r d : Int} {n : Nat} (hb : 0 < b) (hr0 : 0 ≤ r) (hr : r < b) (hd0 : 0 ≤ d) (hd : d < 2 ^ n) : 0 ≤ (r * 2 ^ n + d) / b ∧ (r * 2 ^ n + d) / b < 2 ^ n ∧ 0 ≤ r * 2 ^ n + d ∧ r * 2 ^ n + d < b * 2 ^ n := by
  have hp : (0 : Int) < 2 ^ n := Int.pow_pos (by decide)
  have h0 : 0 ≤ r * 2 ^ n := Int.mul_nonneg hr0 (Int.le_of_lt hp)
  have h1 : (r + 1) * 2 ^ n ≤ b * 2 ^ n := Int.mul_le_mul_of_nonneg_right (by lia) (Int.le_of_lt hp)
  rw [Int.add_mul, Int.one_mul] at h1
  refine ⟨Int.ediv_nonneg (by lia) (by lia), Int.ediv_lt_of_lt_mul hb ?_, by lia, by lia⟩
  rw [Int.mul_comm (2 ^ n)]
  lia
theorem d2i_cons (n : Nat) (d : Int) (ds : List Int) : d2i n (d :: ds) = d + d2i n ds * 2 ^ n := rfl
theorem d2i_of_digs {n k : Nat} {x : Int} (h0 : 0 ≤ x) (h : x < 2 ^ (n * k)) : d2i n (digs n k x) = x := by
  obtain ⟨X, rfl⟩ := Int.eq_ofNat_of_zero_le h0
  have h2 : X < 2 ^ (n * k) := by
    have : ((X : Nat) : Int) < ((2 ^ (n * k) : Nat) : Int) := by simpa using h
    exact Int.ofNat_lt.mp this
  exact d2i_digs X h2
theorem mem_skip {D q l : Addr × Obj} {tbs own : List (Addr × Obj)} : ∀ p ∈ q :: l :: tbs, p ∈ D :: q :: l :: (tbs ++ own) := fun p hp => by
  simp only [List.mem_cons, List.mem_append] at hp ⊢
  rcases hp with h | h | h <;> simp [h]
theorem mem_skip_own {D q l : Addr × Obj} {tbs own : List (Addr × Obj)} : ∀ p ∈ own, p ∈ D :: q :: l :: (tbs ++ own) := fun p hp => by
  simp only [List.mem_cons, List.mem_append]
  simp [hp]
end Mine
end
section
set_option linter.unusedVariables false
set_option linter.unusedSimpArgs false
open PySem PySem.W PySem.Spec PySem.Calls PyProof.Rows
namespace Mine
set_option maxRecDepth 100000
theorem toks_gen {α : Type} {M : Model} {A : Around} {t : Sem α} {Q : α → Shared → Prop} {E : Value → Shared → Prop} {s : Shared} (h : ∀ tk, tk = s.toks → wpAny M A t Q E { s with toks := tk }) : wpAny M A t Q E s := h _ rfl
theorem with_toksQ {α : Type} {M : Model} {A : Around} {t : Sem α} {Q : α → Shared → Prop} {E : Value → Shared → Prop} {s : Shared} {n : Nat} (hn : n ≤ s.toks)
    (h : wpAny M A t (fun a s' => n ≤ s'.toks → Q a s') E s) : wpAny M A t Q E s :=
  wpAny_mono (wpAny_toks_of hn h) (fun _ _ x => x.2 x.1) (fun _ _ x => x.2)
/-- the words of the ten named flags -/
def names10 : List Str := ["OPTIMIZED", "NEWLOCALS", "VARARGS", "VARKEYWORDS", "NESTED", "GENERATOR", "NOFREE", "COROUTINE", "ITERABLE_COROUTINE", "ASYNC_GENERATOR"].map Str.ofString
def hexW (p : Nat) : Str := baseText "0x" 16 (2 ^ p)
def wordAt (p : Nat) : Str := if p < 10 then names10.getD p (Str.ofString "") else hexW p
def WORDS : List Str := (List.range 32).map wordAt
theorem WORDS_take10 : WORDS.take 10 = names10 := by decide +kernel
theorem WORDS_length : WORDS.length = 32 := by simp [WORDS]
theorem WORDS_get {p : Nat} (h : p < 32) : WORDS[p]? = some (wordAt p) := by simp [WORDS, h]
theorem hexW_size : ∀ p < 32, (hexW p).length ≤ sizeLine := by decide +kernel
theorem wordAt_inj : ∀ p < 32, ∀ q < 32, wordAt p = wordAt q → p = q := by decide +kernel
end Mine
end
section
set_option linter.unusedVariables false
set_option linter.unusedSimpArgs false
open PySem PySem.W PySem.Spec PySem.Calls PyProof.Rows
namespace Mine
set_option maxRecDepth 100000
/-- how a turn that stores nothing ends -/
def PostE (h₀ : Heap) (L : Addr) (led : List (Addr × Obj)) (mm : Str → Option Value) (Jn : Prop) (s₁ : Shared) (Q : Flow → Shared → Prop) (f : Flow) (s₂ : Shared) : Prop :=
  match f with
  | .ret v => Q (.ret v) s₂
  | .brk => Q .next s₂
  | .next => ∃ h' tk, s₂ = { s₁ with heap := h', toks := tk } ∧ Fr h₀ L h' mm ∧ News h₀ L h' led ∧ Jn
  | .cont => ∃ h' tk, s₂ = { s₁ with heap := h', toks := tk } ∧ Fr h₀ L h' mm ∧ News h₀ L h' led ∧ Jn
section
variable {prog : Program} {w : World} {A : Around} {E : Value → Shared → Prop} {Q : Flow → Shared → Prop} {s : Shared} {env : Env} {h₀ : Heap} {xi xc : Str} {pk pv pt : Pos} {x1 : Nat} {body orelse : List Stmt}
theorem loopM_enum {l : Addr} {vs : List Value} {c : Nat} {m : Str → Option Value} {led : List (Addr × Obj)}
    (hh : A.handled = none) (hl : (l, listOf vs.toArray c) ∈ led) (F : Fr h₀ env.locals s.heap m) (N : News h₀ env.locals s.heap led)
    (J : Nat → Prop) (h0 : J 0)
    (turn : ∀ i v t h tk own, vs[i]? = some v → s.toks ≤ tk → J i →
      Fr h₀ env.locals h (fun y => if y = xc then some v else if y = xi then some (.int (i : Int) t) else m y) → News h₀ env.locals h (led ++ own) →
      wpAny (model prog w) A (execs body env) (PostE h₀ env.locals (led ++ own) (fun y => if y = xc then some v else if y = xi then some (.int (i : Int) t) else m y) (J (i + 1)) { s with heap := h, toks := tk } Q) E { s with heap := h, toks := tk })
    (done : ∀ h tk m', s.toks ≤ tk → J vs.length → Fr h₀ env.locals h m' → News h₀ env.locals h led → wpAny (model prog w) A (execs orelse env) Q E { s with heap := h, toks := tk })
    (hxi : env.kindOf xi = some .local) (hxc : env.kindOf xc = some .local) (hne : xi ≠ xc) (hp : (env.scope.kind == .class || (env.scope.kind == .module && env.locals != env.globals)) = false)
    (hE : PassesOwn (model prog w) A env E) :
    wpAny (model prog w) A (call (.type "enumerate") [.ref l]) (fun xv s₁ => wpAny (model prog w) A (pyIter xv) (fun it s₂ => codeAny (model prog w) A (.forLoop (.Tuple [.Name xi pk, .Name xc pv] x1 pt) it body orelse env) (fun r s' => match r with | .ok f => Q f s' | .error e => cameBackBy (model prog w) A env E e s') s₂) E s₁) E s := by
  have hls : s.heap.IsList l vs.toArray := ⟨_, (N _ hl).1, rfl, c, rfl⟩
  have hlt := Heap.lt_size (N _ hl).1
  refine call_enumerate_list hls fun h₁ he hi hsz hk₁ => ?_
  refine wpAny_pyIter_enum he ?_
  have W := WalksT.enumerate (prog := prog) (w := w) hh (s.heap.objs.size + 1) s.heap.objs.size l (Nat.succ_ne_self _) (Nat.ne_of_lt (Nat.lt_succ_of_lt hlt)) (Nat.ne_of_lt hlt) vs.toArray
  rw [List.size_toArray] at W
  have hLs : env.locals < s.heap.objs.size := F.ns.lt
  have hL1 : env.locals ≠ s.heap.objs.size + 1 := Nat.ne_of_lt (Nat.lt_succ_of_lt hLs)
  have hL2 : env.locals ≠ s.heap.objs.size := Nat.ne_of_lt hLs
  have hL3 : env.locals ≠ l := fun e => (N _ hl).2.1 e.symm
  have hLf : env.locals ∉ [s.heap.objs.size + 1, s.heap.objs.size, l] := by simp [hL1, hL2, hL3]
  have hLw : env.locals ∉ [s.heap.objs.size + 1, s.heap.objs.size] := by simp [hL1, hL2]
  have hnew : ∀ b, s.heap.objs.size ≤ b → h₀.get? b = none := fun b hb => Heap.get?_none_of_le (Nat.le_trans F.above (Nat.le_trans (Nat.le_of_lt hLs) hb))
  have hwr : ∀ b ∈ [s.heap.objs.size + 1, s.heap.objs.size], h₀.get? b = none := fun b hb => by
    rcases List.mem_cons.mp hb with rfl | hb
    · exact hnew _ (Nat.le_succ _)
    · rw [List.mem_singleton.mp hb]; exact hnew _ (Nat.le_refl _)
  have hnw : ∀ p ∈ led, p.1 ∉ [s.heap.objs.size + 1, s.heap.objs.size] := fun p hp => by
    have h1 := Heap.lt_size (N p hp).1
    simp only [List.mem_cons, List.not_mem_nil, or_false, not_or]
    exact ⟨Nat.ne_of_lt (Nat.lt_succ_of_lt h1), Nat.ne_of_lt h1⟩
  have old : ∀ b o, h₀.get? b = some o → b ∉ [s.heap.objs.size + 1, s.heap.objs.size] := fun b o e hb => by rw [hwr b hb] at e; cases e
  have F₁ : Fr h₀ env.locals h₁ m := F.keeps hk₁
  have N₁ : News h₀ env.locals h₁ led := fun p hp => ⟨hk₁ _ _ (N p hp).1, (N p hp).2⟩
  refine codeAny_forLoop_any (R := fun r s' => match r with | .ok f => Q f s' | .error e => cameBackBy (model prog w) A env E e s')
    (fun k s' => ∃ h' tk u1 u2, ∃ i : Nat, s' = { s with heap := h', toks := tk } ∧ s.toks ≤ tk ∧ ((∃ old, IsEnum h' (s.heap.objs.size + 1) s.heap.objs.size (i : Int) old) ∧ h'.IsListIter s.heap.objs.size l i ∧ h'.IsList l vs.toArray) ∧ Fr h₀ env.locals h' (fun y => if y = xc then u1 else if y = xi then u2 else m y) ∧ News h₀ env.locals h' led ∧ J i ∧ i ≤ vs.length ∧ k = vs.length + 1 - i) ?_ (vs.length + 1)
    ⟨h₁, s.toks, m xc, m xi, 0, rfl, Nat.le_refl _, ⟨⟨_, he⟩, hi, hls.at fun o e => hk₁ _ o e⟩, (by
      have : (fun y => if y = xc then m xc else if y = xi then m xi else m y) = m := by
        funext y
        by_cases h1 : y = xc
        · rw [if_pos h1, h1]
        · rw [if_neg h1]
          by_cases h2 : y = xi
          · rw [if_pos h2, h2]
          · rw [if_neg h2]
      rw [this]; exact F₁), N₁, h0, Nat.zero_le _, rfl⟩
  rintro k s' ⟨H, tk, u1, u2, i, rfl, htk, hst', F', N', hJ, hin, rfl⟩
  have next : ∀ h₂ : Heap, (∀ b o, b ∉ [s.heap.objs.size + 1, s.heap.objs.size] → H.get? b = some o → h₂.get? b = some o) → Fr h₀ env.locals h₂ (fun y => if y = xc then u1 else if y = xi then u2 else m y) ∧ News h₀ env.locals h₂ led := fun h₂ hk₂ =>
    ⟨⟨F'.ns.at' fun o e => hk₂ _ o hLw e, fun b o e => hk₂ b o (old b o e) (F'.keep b o e), F'.above⟩, fun p hp => ⟨hk₂ _ _ (hnw p hp) (N' p hp).1, (N' p hp).2⟩⟩
  by_cases hlt' : i < vs.length
  · refine wpAny_with_toks (n := tk) (Nat.le_refl _) (W.item i _ _ _ hlt' hst' fun T vals h₂ tk₂ hPt _ hT hMid hk₂ htk₂ => ?_)
    obtain ⟨t, x, hx, rfl⟩ := hPt
    refine W.go _ x1 pt i T _ _ _ hMid fun h₃ hst₃ hk₃ => ?_
    have ht₃ : h₃.IsTuple T #[.int i t, x] := hT.at fun o e => hk₃ T o (W.apart i T h₂ hMid) e
    refine wpAny_assign_Tuple hh ht₃ rfl rfl fun h₄ hx₄ => ?_
    replace hx₄ : Heap.ExtBut h₃.objs.size h₃ h₄ := hx₄
    have up₄ : ∀ b o, h₃.get? b = some o → h₄.get? b = some o := fun b o x => hx₄ b o (Nat.ne_of_lt (Heap.lt_size x)) x
    obtain ⟨F₄, N₄⟩ := next h₄ fun b o hb x => up₄ b o (hk₃ b o hb (hk₂ b o hb x))
    show wpAny _ A (do holding [x] (assign (.Name xi pk) env (.int i t)); do holding [] (assign (.Name xc pv) env x); pure ()) _ _ _
    refine wpAny_bind (wpAny_holding (wpAny_assign_Name (wpAny_storeName_local hxi F₄.ns (fun h₅ hn₅ hs₅ => ?_) hp)))
    replace hs₅ : Heap.SameBut env.locals h₄ h₅ := hs₅
    have F₅ := F₄.set hn₅ hs₅
    refine wpAny_bind (wpAny_holding (wpAny_assign_Name (wpAny_storeName_local hxc F₅.ns (fun h₆ hn₆ hs₆ => wpAny_pure ?_) hp)))
    replace hs₆ : Heap.SameBut env.locals h₅ h₆ := hs₆
    have F₆ := F₅.set hn₆ hs₆
    have N₆ : News h₀ env.locals h₆ led := (N₄.set hs₅).set hs₆
    have em : (fun y => if y = xc then some x else if y = xi then some (Value.int (i : Int) t) else if y = xc then u1 else if y = xi then u2 else m y) = fun y => if y = xc then some x else if y = xi then some (Value.int (i : Int) t) else m y := step2
    rw [em] at F₆
    have hst₆ : (∃ old, IsEnum h₆ (s.heap.objs.size + 1) s.heap.objs.size ((i + 1 : Nat) : Int) old) ∧ h₆.IsListIter s.heap.objs.size l (i + 1) ∧ h₆.IsList l vs.toArray := W.frame (i + 1) h₃ h₆ hst₃ fun b hb o e => hs₆.extBut b o (fun q => hLf (q ▸ hb)) (hs₅.extBut b o (fun q => hLf (q ▸ hb)) (up₄ b o e))
    refine with_toksQ (n := s.toks) (Nat.le_trans htk (Nat.le_trans htk₂ (show tk₂ ≤ tk₂ + 1 + 1 by omega))) ?_
    refine wpAny_mono (wpAny_passesOwn hE (turn i x t h₆ _ (ownOf h₀ [s.heap.objs.size + 1, s.heap.objs.size, l] h₆) (by simpa using hx) (Nat.le_trans htk (Nat.le_trans htk₂ (show tk₂ ≤ tk₂ + 1 + 1 by omega))) hJ F₆ (N₆.append (news_ownOf hLf)))) (fun f s₃ h₇ htk₇ => ?_) fun _ _ e => e
    have fin : ∀ hh' tk', s₃ = { s with heap := hh', toks := tk' } → Fr h₀ env.locals hh' (fun y => if y = xc then some x else if y = xi then some (Value.int (i : Int) t) else m y) → News h₀ env.locals hh' (led ++ ownOf h₀ [s.heap.objs.size + 1, s.heap.objs.size, l] h₆) → J (i + 1) → s.toks ≤ tk' →
        ∃ k', k' < vs.length + 1 - i ∧ ∃ h' tk u1 u2, ∃ i : Nat, s₃ = { s with heap := h', toks := tk } ∧ s.toks ≤ tk ∧ ((∃ old, IsEnum h' (s.heap.objs.size + 1) s.heap.objs.size (i : Int) old) ∧ h'.IsListIter s.heap.objs.size l i ∧ h'.IsList l vs.toArray) ∧ Fr h₀ env.locals h' (fun y => if y = xc then u1 else if y = xi then u2 else m y) ∧ News h₀ env.locals h' led ∧ J i ∧ i ≤ vs.length ∧ k' = vs.length + 1 - i := by
      intro hh' tk' e F₇ N₇ hJ₇ htk'
      refine ⟨vs.length + 1 - (i + 1), by omega, hh', tk', _, _, i + 1, e, htk', ?_, F₇, fun p hp => N₇ p (List.mem_append_left _ hp), hJ₇, hlt', rfl⟩
      refine W.frame (i + 1) h₆ hh' hst₆ fun b hb o e => ?_
      cases hn : h₀.get? b with
      | some o₀ =>
        have : o₀ = o := by have q := F₆.keep b o₀ hn; rw [e] at q; exact (Option.some.inj q).symm
        exact this ▸ F₇.keep b o₀ hn
      | none => exact (N₇ _ (List.mem_append_right _ (mem_ownOf hb hn e))).1
    cases f with
    | ret v => exact h₇
    | brk => exact h₇
    | next =>
      obtain ⟨hh', tk', rfl, F₇, N₇, hJ₇⟩ := h₇
      exact fin hh' tk' rfl F₇ N₇ hJ₇ htk₇
    | cont =>
      obtain ⟨hh', tk', rfl, F₇, N₇, hJ₇⟩ := h₇
      exact fin hh' tk' rfl F₇ N₇ hJ₇ htk₇
  · have hin' : i = vs.length := by omega
    subst hin'
    refine wpAny_with_toks (n := tk) (Nat.le_refl _) (W.done _ _ _ hst' fun h₂ tk₂ hk₂ htk₂ => ?_)
    obtain ⟨F₂, N₂⟩ := next h₂ hk₂
    exact wpAny_mono (wpAny_passesOwn hE (done h₂ tk₂ _ (Nat.le_trans htk htk₂) hJ F₂ N₂)) (fun f s₃ h₃ => h₃) fun _ _ e => e
end
end Mine
end
section
set_option linter.unusedVariables false
set_option linter.unusedSimpArgs false
open PySem PySem.W PySem.Spec PySem.Calls PyProof.Rows
namespace Mine
section
variable {prog : Program} {w : World} {A : Around} {h₀ : Heap} {L : Addr} {m : Str → Option Value} {env : Env} {elt ct : Expr} {x : Str} {scope : Scope} {cl : List (Str × Addr)} {s : Shared} {S : List (Addr × Obj) → Prop} {P : Nat → Value → Prop} {Fin : List Value → List (Addr × Obj) → Prop} {news : List (Addr × Obj)}
/-- a comprehension's turns, by what holds after i of them -/
theorem compJ {n : Nat} (J : Nat → List Value → List (Addr × Obj) → Prop) (h0 : J 0 [] news)
    (turn : ∀ i v I oI C oC D m₂ ys nw h tk (E' : Value → Shared → Prop), i < n → P i v → J i ys nw → LCg.NsObj oC m₂ → m₂ x = some v → Fr h₀ L h m → News h₀ L h ((I, oI) :: (C, oC) :: (D, LCg.lst ys) :: nw) → LCg.Off3 I C D nw → ((@Ne Nat I C) ∧ (@Ne Nat I D) ∧ (@Ne Nat C D)) →
      wpAny (model prog w) A (eval elt (compEnvC scope cl C env)) (LCg.CompEnd h₀ L m { s with heap := h, toks := tk } I oI C oC D (LCg.lst ys) S (fun y nw' => J (i + 1) (ys ++ [y]) nw')) E' { s with heap := h, toks := tk })
    (fin : ∀ ys nw, J n ys nw → Fin ys nw) : LCg.CompRest prog w A h₀ L m env elt x scope cl s S P Fin n 0 [] news := by
  have key : ∀ (j i : Nat) (ys : List Value) (nw : List (Addr × Obj)), i + j = n → J i ys nw → LCg.CompRest prog w A h₀ L m env elt x scope cl s S P Fin j i ys nw := by
    intro j
    induction j with
    | zero =>
      intro i ys nw hi hy
      have e : i = n := by lia
      subst e
      exact LCg.CompRest.zero (fin ys nw hy)
    | succ j ih =>
      intro i ys nw hi hy
      refine LCg.CompRest.succ ?_
      intro v I oI C oC D m₂ h tk E' hv hC hx F N off ne
      refine wpAny_mono (turn i v I oI C oC D m₂ ys nw h tk E' (by lia) hv hy hC hx F N off ne) (fun y s₂ hq => ?_) fun _ _ e => e
      obtain ⟨h', tk', nw', e, F', N', off', hS, hn⟩ := hq
      exact ⟨h', tk', nw', e, F', N', off', hS, ih (i + 1) _ _ (by lia) hn⟩
  exact key n 0 [] news (by lia) h0
/-- the same with a test -/
theorem compJT {n : Nat} (J : Nat → List Value → List (Addr × Obj) → Prop) (h0 : J 0 [] news)
    (turn : ∀ i v I oI C oC D m₂ ys nw h tk (E' : Value → Shared → Prop), i < n → P i v → J i ys nw → LCg.NsObj oC m₂ → m₂ x = some v → Fr h₀ L h m → News h₀ L h ((I, oI) :: (C, oC) :: (D, LCg.lst ys) :: nw) → LCg.Off3 I C D nw → ((@Ne Nat I C) ∧ (@Ne Nat I D) ∧ (@Ne Nat C D)) →
      wpAny (model prog w) A (isTrue ct (compEnvC scope cl C env) (eval ct (compEnvC scope cl C env))) (fun ok s' => if ok = true then
        wpAny (model prog w) A (eval elt (compEnvC scope cl C env)) (LCg.CompEnd h₀ L m { s with heap := h, toks := tk } I oI C oC D (LCg.lst ys) S (fun y nw' => J (i + 1) (ys ++ [y]) nw')) E' s'
        else LCg.CompEnd h₀ L m { s with heap := h, toks := tk } I oI C oC D (LCg.lst ys) S (fun _ nw' => J (i + 1) ys nw') Value.none s') E' { s with heap := h, toks := tk })
    (fin : ∀ ys nw, J n ys nw → Fin ys nw) : LCt.CompRestT prog w A h₀ L m env ct elt x scope cl s S P Fin n 0 [] news := by
  have key : ∀ (j i : Nat) (ys : List Value) (nw : List (Addr × Obj)), i + j = n → J i ys nw → LCt.CompRestT prog w A h₀ L m env ct elt x scope cl s S P Fin j i ys nw := by
    intro j
    induction j with
    | zero =>
      intro i ys nw hi hy
      have e : i = n := by lia
      subst e
      exact LCt.CompRestT.zero (fin ys nw hy)
    | succ j ih =>
      intro i ys nw hi hy
      refine LCt.CompRestT.succ ?_
      intro v I oI C oC D m₂ h tk E' hv hC hx F N off ne
      have endmono : ∀ (y : Value) (ys' : List Value) (s₂ : Shared), LCg.CompEnd h₀ L m { s with heap := h, toks := tk } I oI C oC D (LCg.lst ys) S (fun _ nw' => J (i + 1) ys' nw') y s₂ →
          LCg.CompEnd h₀ L m { s with heap := h, toks := tk } I oI C oC D (LCg.lst ys) S (fun _ news' => LCt.CompRestT prog w A h₀ L m env ct elt x scope cl s S P Fin j (i + 1) ys' news') y s₂ := by
        intro y ys' s₂ hq
        obtain ⟨h', tk', nw', e, F', N', off', hS, hn⟩ := hq
        exact ⟨h', tk', nw', e, F', N', off', hS, ih (i + 1) _ _ (by lia) hn⟩
      refine wpAny_mono (turn i v I oI C oC D m₂ ys nw h tk E' (by lia) hv hy hC hx F N off ne) (fun ok s₂ hq => ?_) fun _ _ e => e
      cases ok with
      | true =>
        simp only [if_true] at hq ⊢
        refine wpAny_mono hq (fun y s₃ h₃ => ?_) fun _ _ e => e
        exact endmono y (ys ++ [y]) s₃ h₃
      | false =>
        simp only [Bool.false_eq_true, if_false] at hq ⊢
        exact endmono Value.none ys s₂ hq
  exact key n 0 [] news (by lia) h0
end
end Mine
end
section
set_option linter.unusedVariables false
set_option linter.unusedSimpArgs false
open PySem PySem.W PySem.Spec PySem.Calls PyProof.Rows
namespace Mine
set_option maxRecDepth 100000
section
variable {prog : Program} {w : World} {A : Around} {E : Value → Shared → Prop} {s : Shared} {h₀ : Heap} {L : Addr} {m : Str → Option Value} {env : Env} {elt iter : Expr} {x : Str} {px : Pos} {scope : Scope} {cl : List (Str × Addr)} {pos : Pos} {led : List (Addr × Obj)}
/-- what a comprehension over a list asks of its source, the counter of tokens in sight -/
def SrcM (prog : Program) (w : World) (A : Around) (h₀ : Heap) (L : Addr) (m : Str → Option Value) (env : Env) (elt : Expr) (x : Str) (scope : Scope) (cl : List (Str × Addr)) (Q : Value → Shared → Prop) (xv : Value) (s₁ : Shared) : Prop :=
  ∃ (ax : Addr) (vs : List Value) (c : Nat) (led : List (Addr × Obj)) (T : Nat) (J : Nat → List Value → Prop), xv = .ref ax ∧ A.handled = none ∧ Fr h₀ L s₁.heap m ∧ News h₀ L s₁.heap led ∧ (ax, listOf vs.toArray c) ∈ led ∧ T ≤ s₁.toks ∧ vs.length ≤ sizeLine ∧ J 0 [] ∧
    (∀ i v I oI C oC D m₂ ys h tk (E' : Value → Shared → Prop), T ≤ tk → vs[i]? = some v → J i ys → LCg.NsObj oC m₂ → m₂ x = some v → Fr h₀ L h m → News h₀ L h ((I, oI) :: (C, oC) :: (D, LCg.lst ys) :: led) → LCg.Off3 I C D led → ((@Ne Nat I C) ∧ (@Ne Nat I D) ∧ (@Ne Nat C D)) →
      wpAny (model prog w) A (eval elt (compEnvC scope cl C env)) (LCg.CompEnd h₀ L m { s₁ with heap := h, toks := tk } I oI C oC D (LCg.lst ys) (fun _ => True) (fun y nw' => nw' = led ∧ J (i + 1) (ys ++ [y]))) E' { s₁ with heap := h, toks := tk }) ∧
    (∀ ys D h tk, T ≤ tk → J vs.length ys → Fr h₀ L h m → News h₀ L h ((D, LCg.lst ys) :: led) → LCg.Off1 D led → Q (.ref D) { s₁ with heap := h, toks := tk })
theorem ListComp_M {Q : Value → Shared → Prop}
    (hclos : closureFor scope env = pure cl) (hcell : ∀ y ∈ scope.names, y.2 ≠ .cell) (hkind : scope.kind = .function)
    (hnames : ∀ y ∈ scope.names, y.2 = .local → scope.names.lookup y.1 = some .local) (hx : scope.names.lookup x = some .local)
    (h : wpAny (model prog w) A (eval iter env) (SrcM prog w A h₀ L m env elt x scope cl Q) E s)
    (hs : ∀ x, foldedSetIterable iter env x = pure x := by intro _; rfl) :
    wpAny (model prog w) A (eval (.ListComp elt [⟨.Name x px, iter, [], 0⟩] scope pos) env) Q E s := by
  rw [PySem.eval_ListComp]
  refine wpAny_comprehension_free (use := none) rfl hs hclos hkind hnames (wpAny_mono h (fun xv s₁ h₁ => ?_) fun _ _ e => e)
  obtain ⟨ax, vs, c, led, T, J, rfl, hh, F, N, hl, hT, hsz, hJ0, turn, done⟩ := h₁
  have hls : s₁.heap.IsList ax vs.toArray := ⟨_, (N _ hl).1, rfl, c, rfl⟩
  refine wpAny_pyIter_list hls ?_
  -- the iterator is made
  have kI : ∀ b o, s₁.heap.get? b = some o → (s₁.heap.push { cls := .type "list_iterator", data := .fields #[.ref ax, .int 0 0] }).get? b = some o := fun b o e => Heap.get?_push_of_some _ e
  obtain ⟨H, hH⟩ : ∃ H, H = s₁.heap.push { cls := .type "list_iterator", data := .fields #[.ref ax, .int 0 0] } := ⟨_, rfl⟩
  have zH : H.objs.size = s₁.heap.objs.size + 1 := by rw [hH, Heap.size_push]
  have itH : H.IsListIter s₁.heap.objs.size ax 0 := hH ▸ ⟨_, Heap.get?_push_size _ rfl, rfl, rfl⟩
  have FH : Fr h₀ L H m := hH ▸ F.keeps kI
  have NH : News h₀ L H led := hH ▸ N.grown kI
  have offI : ∀ p ∈ led, p.1 ≠ s₁.heap.objs.size := fun p hp => Nat.ne_of_lt (Heap.lt_size (N p hp).1)
  have LI : L ≠ s₁.heap.objs.size := Nat.ne_of_lt F.ns.lt
  have I0 : h₀.get? s₁.heap.objs.size = none := next_is_new F
  have up₁ : s₁.heap.objs.size < H.objs.size := by rw [zH]; exact Nat.lt_succ_self _
  rw [← hH]
  generalize s₁.heap.objs.size = I at *
  clear hH kI zH
  -- the list that is made, and the block's names
  refine wpAny_newObj_type (wpAny_newFunctionEnv hcell (by intro y hy; simp at hy) (fun h₁ hn₁ hs₁ => ?_) hkind)
  dsimp only at hn₁ hs₁ ⊢
  have zD : ∀ o : Obj, (H.push o).objs.size = H.objs.size + 1 := fun o => Heap.size_push _ _
  rw [zD] at hn₁ hs₁ ⊢
  have LD : L < H.objs.size := FH.ns.lt
  have gone : ∀ a, H.objs.size ≤ a → h₀.get? a = none := fun a ha => Heap.get?_none_of_le (Nat.le_trans FH.above (Nat.le_trans (Nat.le_of_lt LD) ha))
  have D0 := gone _ (Nat.le_refl _)
  have C0 := gone _ (Nat.le_succ H.objs.size)
  have lo : ∀ b o, H.get? b = some o → h₁.get? b = some o := fun b o e => hs₁.extBut b o (Nat.ne_of_lt (Nat.lt_succ_of_lt (Heap.lt_size e))) (Heap.get?_push_of_some _ (Heap.get?_push_of_some _ e))
  have Dat : h₁.get? H.objs.size = some (LCg.lst []) := hs₁.extBut _ _ (Nat.ne_of_lt (Nat.lt_succ_self _)) (Heap.get?_push_of_some _ (Heap.get?_push_size _ rfl))
  have oD : ∀ p ∈ led, p.1 < H.objs.size := fun p hp => Heap.lt_size (NH p hp).1
  have hID : I < H.objs.size := Heap.lt_size itH.choose_spec.1
  generalize H.objs.size = D at *
  have off₃ : LCg.Off3 I (D + 1) D led := LCg.Off3.of fun p hp => ⟨offI p hp, Nat.ne_of_lt (Nat.lt_succ_of_lt (oD p hp)), Nat.ne_of_lt (oD p hp)⟩
  have hne : (@Ne Nat I (D + 1)) ∧ (@Ne Nat I D) ∧ (@Ne Nat (D + 1) D) := ⟨Nat.ne_of_lt (Nat.lt_succ_of_lt hID), Nat.ne_of_lt hID, Nat.succ_ne_self D⟩
  have LD' : D ≠ L := Ne.symm (Nat.ne_of_lt LD)
  have LC' : D + 1 ≠ L := Ne.symm (Nat.ne_of_lt (Nat.lt_succ_of_lt LD))
  have loop : ∀ s₃ : Shared, s₃ = { s₁ with heap := h₁, toks := s₁.toks + ([] : List (Str × Value)).length } →
      codeAny (model prog w) A (.compLoop (.ListComp elt [⟨.Name x px, iter, [], 0⟩] scope pos) 0 (.ref I) (.ref D) (compEnvC scope cl (D + 1) env)) (compPost (model prog w) A E none Q (.ref D) (D + 1)) s₃ := by
    rintro s₃ rfl
    refine codeAny_compLoop_tests
      (fun k s' => ∃ h' tk ys m', ∃ i : Nat, s' = { s₁ with heap := h', toks := tk } ∧ T ≤ tk ∧ i ≤ vs.length ∧ k = vs.length + 1 - i ∧ ys.length = i ∧ h'.IsListIter I ax i ∧ Fr h₀ L h' m ∧ h'.Ns (D + 1) m' ∧ News h₀ L h' ((D, LCg.lst ys) :: led) ∧ J i ys) ?_ (vs.length + 1)
      ⟨h₁, _, [], _, 0, rfl, Nat.le_trans hT (Nat.le_add_right _ _), Nat.zero_le _, rfl, rfl, itH.at fun o e => lo _ o e, FH.keeps lo, hn₁, fun p hp => ?_, hJ0⟩
    · rintro k s' ⟨h', tk, ys, m', i, rfl, htk, hi, rfl, hyl, hit, F', hn', N', hJ⟩
      have lst' : h'.IsList ax vs.toArray := ⟨_, (N' _ (List.mem_cons_of_mem _ hl)).1, rfl, c, rfl⟩
      by_cases hlt : i < vs.length
      · refine wpAny_pyNext_list_item hit lst' (x := vs[i]) (by simp [hlt]) fun h₂ hit₂ hs₂ => ?_
        have kp₂ : ∀ b o, b ≠ I → h'.get? b = some o → h₂.get? b = some o := fun b o hb e => hs₂.extBut b o hb e
        have F₂ : Fr h₀ L h₂ m := F'.change hs₂ (Ne.symm LI) I0
        have N₂ : News h₀ L h₂ ((D, LCg.lst ys) :: led) := fun p hp => ⟨kp₂ _ _ (by
          rcases List.mem_cons.mp hp with rfl | hp
          · exact Ne.symm hne.2.1
          · exact offI p hp) (N' p hp).1, (N' p hp).2⟩
        refine wpAny_assign_Name (wpAny_storeName_local (lookup_relabel_local hx) (hn'.at' fun o e => kp₂ _ o (Ne.symm hne.1) e) (fun h₃ hn₃ hs₃ => ?_) (by simp [compEnvC, relabel, hkind]))
        replace hs₃ : Heap.SameBut (D + 1) h₂ h₃ := hs₃
        refine wpAny_tests_nil ?_
        simp only [if_true]
        have F₃ : Fr h₀ L h₃ m := F₂.change hs₃ LC' C0
        have hit₃ : h₃.IsListIter I ax (i + 1) := hit₂.at fun o e => hs₃.extBut _ _ hne.1 e
        obtain ⟨oI, heI, hoI⟩ := id hit₃
        obtain ⟨oC, heC, hoC⟩ := LCg.ns_obj hn₃
        have N₃ : News h₀ L h₃ ((I, oI) :: (D + 1, oC) :: (D, LCg.lst ys) :: led) := fun p hp => by
          rcases List.mem_cons.mp hp with rfl | hp
          · exact ⟨heI, Ne.symm LI, I0⟩
          · rcases List.mem_cons.mp hp with rfl | hp
            · exact ⟨heC, LC', C0⟩
            · refine ⟨hs₃.extBut _ _ ?_ (N₂ p hp).1, (N₂ p hp).2⟩
              rcases List.mem_cons.mp hp with rfl | hp
              · exact Nat.ne_of_lt (Nat.lt_succ_self D)
              · exact Nat.ne_of_lt (Nat.lt_succ_of_lt (oD p hp))
        refine with_toksQ (n := T) (Nat.le_trans htk (Nat.le_succ _)) ?_
        refine wpAny_mono (turn i vs[i] I oI (D + 1) oC D _ ys h₃ _ _ (Nat.le_trans htk (Nat.le_succ _)) (by simp [hlt]) hJ hoC (by simp) F₃ N₃ off₃ hne) (fun y s₄ h₄ htk₄ => ?_) fun _ _ e => e
        obtain ⟨h₄, tk₄, nw, rfl, F₄, N₄, _, _, rfl, hJ₄⟩ := h₄
        replace htk₄ : T ≤ tk₄ := htk₄
        have zI := (N₄ (I, oI) List.mem_cons_self).1
        have zC := (N₄ (D + 1, oC) (List.mem_cons_of_mem _ List.mem_cons_self)).1
        have zD := (N₄ (D, LCg.lst ys) (List.mem_cons_of_mem _ (List.mem_cons_of_mem _ List.mem_cons_self))).1
        refine append_at (hsz := by show ys.toArray.size ≤ sizeLine; rw [List.size_toArray, hyl]; exact Nat.le_trans hi hsz) zD fun h₅ hs₅ hD₅ => ?_
        refine ⟨vs.length + 1 - (i + 1), by lia, h₅, tk₄, ys ++ [y], _, i + 1, rfl, htk₄, hlt, rfl, by rw [List.length_append, List.length_singleton, hyl], ?_, F₄.change hs₅ LD' D0, (hoC.ns zC).sameBut hs₅ hne.2.2, fun p hp => ?_, hJ₄⟩
        · exact ⟨oI, hs₅.extBut _ _ hne.2.1 zI, hoI⟩
        · rcases List.mem_cons.mp hp with rfl | hp
          · exact ⟨hD₅.trans (congrArg some (LCg.lst_snoc ys y)), LD', D0⟩
          · have q := N₄ p (List.mem_cons_of_mem _ (List.mem_cons_of_mem _ (List.mem_cons_of_mem _ hp)))
            exact ⟨hs₅.extBut _ _ (Nat.ne_of_lt (oD p hp)) q.1, q.2⟩
      · obtain rfl : i = vs.length := Nat.le_antisymm hi (Nat.not_lt.mp hlt)
        refine wpAny_pyNext_list_end hh hit lst' (by simp) fun h₂ hs₂ => ?_
        have kp₂ : ∀ b o, b ≠ I → h'.get? b = some o → h₂.get? b = some o := fun b o hb e => hs₂ b o hb e
        have N₂ : News h₀ L h₂ ((D, LCg.lst ys) :: led) := fun p hp => ⟨kp₂ _ _ (by
          rcases List.mem_cons.mp hp with rfl | hp
          · exact Ne.symm hne.2.1
          · exact offI p hp) (N' p hp).1, (N' p hp).2⟩
        have F₂ : Fr h₀ L h₂ m := LCg.fr_but F' (fun b o hb e => kp₂ b o (by simpa using hb) e) LI I0
        refine ⟨m', hn'.at' fun o e => kp₂ _ o (Ne.symm hne.1) e, fun h₃ hs₃ => ?_⟩
        replace hs₃ : Heap.SameBut (D + 1) h₂ h₃ := hs₃
        exact done ys D h₃ tk htk hJ (F₂.change hs₃ LC' C0) (fun p hp => ⟨hs₃.extBut _ _ (by
          rcases List.mem_cons.mp hp with rfl | hp
          · exact Nat.ne_of_lt (Nat.lt_succ_self D)
          · exact Nat.ne_of_lt (Nat.lt_succ_of_lt (oD p hp))) (N₂ p hp).1, (N₂ p hp).2⟩) off₃.one
    · rcases List.mem_cons.mp hp with rfl | hp
      · exact ⟨Dat, LD', D0⟩
      · exact ⟨lo _ _ (NH p hp).1, (NH p hp).2⟩
  exact codeAny_compStart_list (loop _ rfl) (wpAny_pyIter_listiter (itH.at fun o e => lo _ o e) (loop _ rfl))
end
end Mine
end
section
set_option linter.unusedVariables false
set_option linter.unusedSimpArgs false
open PySem PySem.W PySem.Spec PySem.Calls PyProof.Rows
namespace Mine
/-- the tokens of a row of values lie in a stretch -/
def TokIn (a b : Nat) (vs : List Value) : Prop := ∀ v ∈ vs, a ≤ tokOfV v ∧ tokOfV v < b
theorem TokIn.mono {a b b' : Nat} {vs : List Value} (h : TokIn a b vs) (hb : b ≤ b') : TokIn a b' vs := fun v hv => ⟨(h v hv).1, Nat.lt_of_lt_of_le (h v hv).2 hb⟩
theorem StrsAre.append {vs ws : List Value} {xs ys : List Str} (h : StrsAre vs xs) (h' : StrsAre ws ys) : StrsAre (vs ++ ws) (xs ++ ys) := by
  induction h with
  | nil => exact h'
  | cons y t _ ih => exact .cons y t ih
theorem WORDS_succ {i : Nat} (h : i < 22) : WORDS.take (10 + (i + 1)) = WORDS.take (10 + i) ++ [hexW (10 + i)] := by
  rw [show 10 + (i + 1) = (10 + i) + 1 by lia, List.take_add_one, WORDS_get (by lia)]
  rw [wordAt, if_neg (by lia)]
  rfl
local macro_rules | `(tactic| walk_at "exec For Name Call cons nil") => `(tactic| refine Halt.out ?_)
local macro_rules | `(tactic| walk_at "execs cons") => `(tactic| refine wpAny_execs_cons ?_)
local macro_rules | `(tactic| walk_at "execs nil") => `(tactic| refine wpAny_execs_nil ?_)
local macro_rules | `(tactic| walk_at "call builtin:hex int") => `(tactic| refine Halt.out ?_)
local macro_rules | `(tactic| walk_at "call builtin:hex") => `(tactic| refine Halt.out ?_)
local macro_rules | `(tactic| walk_at "binaryOp LShift int int") => `(tactic| refine Halt.out ?_)
/-- the row of the words -/
inductive PostW (rest : List (Addr × Obj)) (t0 t1 : Nat) : Value → List (Addr × Obj) → Prop
  | mk (l : Addr) (vs : List Value) (c : Nat) (h : ∀ q ∈ rest, q.1 ≠ l) (hs : StrsAre vs WORDS) (ht : TokIn t0 t1 vs) : PostW rest t0 t1 (.ref l) ([(l, W.listOf vs.toArray c)] ++ rest)
set_option maxRecDepth 100000 in
set_option maxHeartbeats 8000000 in
theorem words_spec (w : World) (loose mean mg mb) (rest : List (Addr × Obj))  :
    Claim0 w loose mean mg mb 141 1 20 ([] ++ rest) [] (fun t0 t1 v led' => PostW rest t0 t1 v led') := by
  unfold Claim0
  w_top off
  k_fill
  intro dp un gd cn cs a ccd cl outer A₀ base h₀ L m s Q E B F X N T hk hd hu hret
  refine wpAny_call ?_
  k_dflt (refine' code_defR ?k1 ?k2 ?k3 ?k4 ?kO ?k5 ?kA ?kF ?kK ?k6 ?k7 ?k8 ?k9 ?kB ?_ ?c2 ?c3 ?c4 ?c5; (case kA => exact rfl); (case kF => exact rfl); (case kK => assumption); (case k1 => k_asm); (case k2 => k_asm); (case k3 => k_asm); (case k4 => k_asm); (case kO => exact off_nil); (case k5 => k_asm); (case k6 => k_is); (case k7 => k_is); (case k8 => ktr_room); (case k9 => exact BindsTo.of_eq rfl); (case c5 => decide); (case kB => exact locs rfl); (case c2 => exact rfl); (case c3 => exact rfl); (case c4 => exact rfl); k_whole; intro g' L' h' FG' F' N' B' X' T' RB' lR'; (try dsimp only); (try k_lift B'); (try k_fold))
  k_steps
  unfold Halt
  refine toks_gen ?_
  intro T1 hT1
  have hTT : T1 = s.toks + 11 := hT1
  refine wpAny_For ?_
  refine with_toksQ (n := T1) (Nat.le_refl _) ?_
  rename_i Wd h1 _ h2 F1 N1
  k_steps
  rename_i h3 tk2 a2 b2 c2 R2 F2 N2 K2 hT2
  refine loopM_range (a₀ := 10) (b₀ := 32) (n := 22) (led := _) rfl R2 (by decide +kernel) (by decide +kernel) F2 N2
    (fun M i tk m led => ∃ vs c u, T1 ≤ tk ∧ led = [(Wd, W.listOf vs.toArray c)] ∧ StrsAre vs (WORDS.take (10 + i)) ∧ TokIn s.toks tk vs ∧ m = fun y => if y = Str.ofString "words" then some (.ref Wd) else if y = Str.ofString "place" then u else M y)
    ⟨_, _, _, hT2, rfl, ?h1, ?h2, start1 (x₂ := Str.ofString "place") rfl⟩ ?turn ?done rfl rfl ?hE
  case h1 =>
    show StrsAre _ (WORDS.take 10)
    rw [WORDS_take10]
    exact .cons _ _ (.cons _ _ (.cons _ _ (.cons _ _ (.cons _ _ (.cons _ _ (.cons _ _ (.cons _ _ (.cons _ _ (.cons _ _ .nil)))))))))
  case h2 =>
    have hT3 : T1 ≤ tk2 := hT2
    intro v hv
    simp only [List.mem_cons, List.not_mem_nil, or_false] at hv
    rcases hv with rfl | rfl | rfl | rfl | rfl | rfl | rfl | rfl | rfl | rfl
    all_goals (refine ⟨?_, ?_⟩)
    all_goals (simp only [tokOfV, List.map_nil, List.append_nil, List.filterMap_nil, List.length_nil]; try lia)
  case turn =>
    intro i t tk₀ m₁ led₁ h tk I own hi htk hJ hnw hlive hown F₁ N₁
    obtain ⟨vs, c, u, htk0, rfl, hst, htok, rfl⟩ := hJ
    have hWI : @Ne Nat Wd I := hnw (Wd, _) List.mem_cons_self
    have hO : OwnOff own [Wd] := fun p hp b hb => by
      rw [List.mem_singleton.mp hb, hown p hp]; exact Ne.symm hWI
    have hvl : vs.length ≤ 32 := by
      have := hst.length
      simp only [List.length_take, WORDS_length] at this
      lia
    simp only [List.cons_append, List.nil_append] at N₁
    have htok' := htok.mono htk
    (try k_fold)
    k_steps
    unfold Halt
    refine lshift_int (by lia) (by show ((Builtin.Int.intBits 1 : Nat) : Int) + _ ≤ _; rw [show Builtin.Int.intBits 1 = 1 from by decide]; lia) ?_
    rw [show (1 : Int) * 2 ^ ((10 : Int) + (i : Int)).toNat = 2 ^ (10 + i) by rw [Int.one_mul]; congr 1]
    k_steps
    unfold Halt
    refine P.hex_of_int ?_ (hexW_size (10 + i) (by lia))
    rw [show baseText "0x" 16 (2 ^ (10 + i)) = hexW (10 + i) from rfl]
    k_steps
    rename_i h8 F8 N8
    simp only [List.push_toArray] at N8
    refine' EndM.intro (by k_asm) N8 mem_one (mem_own (l := [])) ?hI ⟨_, _, _, ?a0, rfl, ?a1, ?a2, ?a3⟩
    case hI => exact fun p hp => by rw [List.mem_singleton.mp hp]; exact hWI
    case a3 => exact step0 (x₁ := Str.ofString "words") (x₂ := Str.ofString "place") (by decide)
    case a0 => exact Nat.le_trans htk0 (by simp only []; lia)
    case a1 =>
      rw [WORDS_succ hi]
      exact StrsAre.append hst (.cons _ _ .nil)
    case a2 =>
      have h0 : s.toks ≤ tk := by
        have h1 : T1 ≤ tk₀ := htk0
        lia
      intro v hv
      rcases List.mem_append.mp hv with hv | hv
      · have := htok' v hv
        exact ⟨this.1, Nat.lt_of_lt_of_le this.2 (by simp only []; lia)⟩
      · rw [List.mem_singleton.mp hv]
        simp only [tokOfV]
        lia
  case done =>
    intro h tk₀ tk m₁ led₁ htk hJ F₁ N₁
    obtain ⟨vs, c, u, htk0, rfl, hst, htok, rfl⟩ := hJ
    (try k_fold)
    k_steps
    have ap := RB'.apart N₁
    exact hret _ ([(Wd, W.listOf vs.toArray c)] ++ rest) _ _ (by k_asm) (back_news (by k_asm) (by k_asm) RB')
      ⟨Wd, vs, c, fun q hq h => ap q hq (by simp [h]), by rw [← List.take_length (l := WORDS), WORDS_length]; exact hst, htok.mono htk⟩
  case hE => passes_own
end Mine
end
section
set_option linter.unusedVariables false
set_option linter.unusedSimpArgs false
open PySem PySem.W PySem.Spec PySem.Calls PyProof.Rows
namespace Mine
/-- the words of the ones of a number below place i -/
def bitsL (X i : Nat) : List Nat := (List.range i).filter fun p => X.testBit p
def bitsW (X i : Nat) : List Str := (bitsL X i).map wordAt
def remN (X i : Nat) : Nat := X / 2 ^ i * 2 ^ i
theorem bitsL_succ (X i : Nat) : bitsL X (i + 1) = bitsL X i ++ (if X.testBit i then [i] else []) := by
  unfold bitsL
  rw [List.range_succ, List.filter_append]
  by_cases h : X.testBit i <;> simp [h]
theorem bitsL_lt {X i p : Nat} (h : p ∈ bitsL X i) : p < i := by
  unfold bitsL at h
  exact List.mem_range.mp (List.mem_filter.mp h).1
theorem bitsL_le (X i : Nat) : (bitsL X i).length ≤ i := by
  unfold bitsL
  exact Nat.le_trans (List.length_filter_le _ _) (by simp)
theorem testBit_div (X i : Nat) : X.testBit i = decide (X / 2 ^ i % 2 = 1) := Nat.testBit_eq_decide_div_mod_eq
theorem remN_step (X i : Nat) : remN X i = remN X (i + 1) + (if X.testBit i then 2 ^ i else 0) := by
  have h1 : X / 2 ^ (i + 1) = X / 2 ^ i / 2 := by rw [Nat.pow_succ, Nat.div_div_eq_div_mul]
  have h2 := Nat.div_add_mod (X / 2 ^ i) 2
  unfold remN
  rw [testBit_div, h1, Nat.pow_succ, ← Nat.mul_assoc, Nat.mul_right_comm]
  have h3 := Nat.mod_two_eq_zero_or_one (X / 2 ^ i)
  generalize X / 2 ^ i = q at *
  rcases h3 with h3 | h3
  · simp only [h3]
    have : q = q / 2 * 2 := by lia
    conv => lhs; rw [this]
    simp
  · simp only [h3]
    have : q = q / 2 * 2 + 1 := by lia
    conv => lhs; rw [this, Nat.add_mul, Nat.one_mul]
    simp
theorem remN_testBit (X i j : Nat) : (remN X i).testBit j = (decide (i ≤ j) && X.testBit j) := by
  unfold remN
  rw [Nat.testBit_mul_two_pow]
  by_cases h : i ≤ j
  · simp only [h, decide_true, Bool.true_and]
    rw [Nat.testBit_div_two_pow]
    congr 1
    lia
  · simp [h]
theorem remN_and (X i : Nat) : remN X i &&& 2 ^ i = if X.testBit i then 2 ^ i else 0 := by
  apply Nat.eq_of_testBit_eq
  intro j
  rw [Nat.testBit_and, remN_testBit, Nat.testBit_two_pow]
  by_cases hij : i = j
  · subst hij
    by_cases hb : X.testBit i <;> simp [hb, Nat.testBit_two_pow_self]
  · by_cases hb : X.testBit i
    · simp [hij, hb, Nat.testBit_two_pow]
    · simp [hij, hb]
theorem cast_pow2 (i : Nat) : ((2 ^ i : Nat) : Int) = (2 : Int) ^ i := by simp
theorem remN_andI (X i : Nat) : Builtin.bitAnd (remN X i : Int) ((2 : Int) ^ i) = if X.testBit i then (2 : Int) ^ i else 0 := by
  rw [← cast_pow2, bitAnd_nat, remN_and]
  by_cases h : X.testBit i <;> simp [h]
theorem remN_xorI (X i : Nat) (h : X.testBit i = true) : Builtin.bitXor (remN X i : Int) ((2 : Int) ^ i) = (remN X (i + 1) : Int) := by
  have h1 := remN_step X i
  rw [if_pos h] at h1
  rw [bitXor_and, remN_andI, if_pos h, h1, ← cast_pow2]
  lia
theorem remN_zero (X : Nat) : remN X 0 = X := by simp [remN]
theorem remN_top {X : Nat} (h : X < 2 ^ 32) : remN X 32 = 0 := by
  unfold remN; rw [Nat.div_eq_of_lt h, Nat.zero_mul]
theorem bitsL_end {X i : Nat} (h : remN X i = 0) (hi : i ≤ 32) : bitsL X 32 = bitsL X i := by
  obtain ⟨k, hk⟩ : ∃ k, 32 = i + k := ⟨32 - i, by lia⟩
  have hz : ∀ j, i ≤ j → X.testBit j = false := by
    intro j hj
    have := remN_testBit X i j
    rw [h] at this
    simpa [hj] using this
  have key : ∀ k, bitsL X (i + k) = bitsL X i := by
    intro k
    induction k with
    | zero => rfl
    | succ k ih => rw [← Nat.add_assoc, bitsL_succ, ih, hz (i + k) (by lia)]; simp
  rw [hk]
  exact key k
theorem bitsL_zero (i : Nat) : bitsL 0 i = [] := by simp [bitsL]
theorem word_size : ∀ p < 32, (wordAt p).length ≤ 20 := by decide +kernel
theorem bitsW_weight {X i : Nat} (h : i ≤ 32) : ((bitsW X i).map (·.length)).sum + (bitsW X i).length ≤ 1048576 := by
  have key : ∀ l : List Nat, (∀ p ∈ l, p < 32) → ((l.map wordAt).map (·.length)).sum ≤ 20 * l.length := by
    intro l
    induction l with
    | nil => intro _; simp
    | cons p l ih =>
      intro hl
      have h1 := word_size p (hl p List.mem_cons_self)
      have h2 := ih fun q hq => hl q (List.mem_cons_of_mem _ hq)
      simp only [List.map_cons, List.sum_cons, List.length_cons]
      lia
  have h1 := key (bitsL X i) fun p hp => Nat.lt_of_lt_of_le (bitsL_lt hp) h
  have h2 := bitsL_le X i
  unfold bitsW
  rw [List.length_map]
  lia
/-- what pretty_flags says -/
def prettyT (X : Nat) : Str := if X = 0 then Str.ofString "0x0" else Txt.join (Str.ofString ", ") (bitsW X 32)
def D57 : List (Int × PyData) := (List.range 10).map fun p => ((2 : Int) ^ p, PyData.str (names10.getD p (Str.ofString "")))
theorem D57_all : (List.range 32).map (fun p => KTD.datumAt ((2 : Int) ^ p) D57) = (List.range 32).map (fun p => if p < 10 then some (PyData.str (wordAt p)) else none) := by kernel_rfl
theorem D57_at {p : Nat} (h : p < 32) : KTD.datumAt ((2 : Int) ^ p) D57 = if p < 10 then some (PyData.str (wordAt p)) else none := by
  have := congrArg (fun l => l[p]?) D57_all
  simpa [h] using this
end Mine
end
section
set_option linter.unusedVariables false
set_option linter.unusedSimpArgs false
open PySem PySem.W PySem.Spec PySem.Calls PyProof.Rows
namespace Mine
open PySem.StrLaws PySem.Builtin PySem.Builtin.Str
def sepW : Str := Str.ofString ", "
theorem sepW_list : sepW.cps.toList = [44, 32] := by decide +kernel
theorem sepW_len : sepW.length = 2 := by decide +kernel
theorem at_sep {x : Str} {k : Nat} : At x sepW x.length k ↔ k + 2 ≤ x.cps.toList.length ∧ (x.cps.toList.drop k).take 2 = [44, 32] := by
  unfold At
  rw [subAt_eq, sepW_len, sepW_list, beq_iff_eq]
  rfl
theorem not_at {x : Str} {k a : Nat} {w r : List Nat} (hX : x.cps.toList.drop a = w ++ r) (hw : 44 ∉ w) (h1 : a ≤ k) (h2 : k < a + w.length) : ¬ At x sepW x.length k := by
  intro h
  have h3 := (at_sep.mp h).2
  have h4 : x.cps.toList.drop k = w.drop (k - a) ++ r := by
    have : x.cps.toList.drop k = (x.cps.toList.drop a).drop (k - a) := by rw [List.drop_drop]; congr 1; lia
    rw [this, hX, List.drop_append_of_le_length (by lia)]
  rw [h4] at h3
  cases hd : w.drop (k - a) with
  | nil =>
    have := congrArg List.length hd
    simp at this
    lia
  | cons c l =>
    rw [hd] at h3
    have hc : c = 44 := by
      have := congrArg List.head? h3
      simpa using this
    exact hw (hc ▸ List.mem_of_mem_drop (hd ▸ List.mem_cons_self : c ∈ w.drop (k - a)))
theorem strSub_is {x w : Str} {a b : Nat} (h : (x.cps.toList.drop a).take (b - a) = w.cps.toList) : strSub x a b = w := by
  apply Str.ext'
  apply Array.toList_inj.mp
  rw [strSub_toList, h]
theorem parts_join (x : Str) : ∀ (ws : List Str) (a : Nat) (cuts : List Nat) (f : Nat), ws ≠ [] → (∀ w ∈ ws, 44 ∉ w.cps.toList) → x.cps.toList.drop a = (Str.join sepW ws).cps.toList →
    ChainG x sepW x.length a cuts f → (∀ k, f ≤ k → ¬ At x sepW x.length k) → partsFrom x 2 a cuts = ws
  | [], _, _, _, h, _, _, _, _ => absurd rfl h
  | [w], a, cuts, f, _, hw, hX, hc, hn => by
    have hw1 := hw w List.mem_cons_self
    have hX' : x.cps.toList.drop a = w.cps.toList ++ [] := by rw [List.append_nil]; exact hX
    cases cuts with
    | nil =>
      show [strSub x a x.length] = [w]
      rw [strSub_is]
      rw [hX]
      refine List.take_of_length_le ?_
      have := congrArg List.length hX
      simp only [List.length_drop] at this
      show w.cps.toList.length ≤ x.cps.size - a
      rw [Array.length_toList] at this
      exact Nat.le_of_eq this.symm
    | cons c r =>
      exfalso
      have h1 := hc.2.1
      by_cases h2 : c < a + w.cps.toList.length
      · exact not_at hX' hw1 hc.1 h2 h1
      · have h3 := (at_sep.mp h1).1
        have := congrArg List.length hX
        simp only [List.length_drop] at this
        have hh : (Str.join sepW [w]).cps.toList = w.cps.toList := rfl
        rw [hh] at this
        lia
  | w :: v :: r, a, cuts, f, _, hw, hX, hc, hn => by
    have hw1 := hw w List.mem_cons_self
    have hJ : (Str.join sepW (w :: v :: r)).cps.toList = w.cps.toList ++ ([44, 32] ++ (Str.join sepW (v :: r)).cps.toList) := by
      show ((w ++ sepW) ++ Str.join sepW (v :: r)).cps.toList = _
      rw [Str.cps_append, Str.cps_append, Array.toList_append, Array.toList_append, sepW_list, List.append_assoc]
    rw [hJ] at hX
    have hd : x.cps.toList.drop (a + w.cps.toList.length) = [44, 32] ++ (Str.join sepW (v :: r)).cps.toList := by
      rw [← List.drop_drop, hX, List.drop_left]
    have hat : At x sepW x.length (a + w.cps.toList.length) := by
      rw [at_sep]
      refine ⟨?_, by rw [hd]; rfl⟩
      have := congrArg List.length hd
      simp only [List.length_drop, List.length_append, List.length_cons, List.length_nil] at this
      lia
    cases cuts with
    | nil =>
      exfalso
      have e : f = a := hc
      exact hn _ (by lia) hat
    | cons c r' =>
      obtain ⟨h1, h2, h3, h4⟩ := hc
      have e : c = a + w.cps.toList.length := by
        rcases Nat.lt_trichotomy c (a + w.cps.toList.length) with h | h | h
        · exact absurd h2 (not_at hX hw1 h1 h)
        · exact h
        · exact absurd hat (h3 _ (by lia) h)
      subst e
      show strSub x a (a + w.cps.toList.length) :: partsFrom x 2 (a + w.cps.toList.length + 2) r' = _
      rw [strSub_is (w := w) (by rw [hX, Nat.add_sub_cancel_left, List.take_left])]
      rw [sepW_len] at h4
      rw [parts_join x (v :: r) _ r' f (by simp) (fun u hu => hw u (List.mem_cons_of_mem _ hu)) (by rw [← List.drop_drop, hd]; rfl) h4 hn]
theorem kind_ge (x : Str) : 1 ≤ Builtin.Str.strKind x := by
  unfold Builtin.Str.strKind
  split
  · exact Nat.le_refl _
  · split <;> decide
/-- a text put together of words without the mark is cut into them again -/
theorem split_join {ws : List Str} (h2 : 2 ≤ ws.length) (hw : ∀ w ∈ ws, 44 ∉ w.cps.toList) :
    Txt.split (Txt.join sepW ws) sepW = ws ∧ (decide ((Txt.join sepW ws).length < sepW.length) || decide (Builtin.Str.strKind (Txt.join sepW ws) < Builtin.Str.strKind sepW)) = false ∧
      (occurrences (Txt.join sepW ws) sepW 0 (Txt.join sepW ws).length ((Txt.join sepW ws).length + 1)).isEmpty = false := by
  have ej : Txt.join sepW ws = Str.join sepW ws := glued_eq_join sepW ws
  rw [ej]
  obtain ⟨f, hG, hn⟩ := occ_tight (Str.join sepW ws) sepW (by rw [sepW_len]; decide)
  have hne : ws ≠ [] := by intro h; subst h; simp at h2
  have key := parts_join (Str.join sepW ws) ws 0 _ f hne hw (by rw [List.drop_zero]) hG hn
  have hocc : (occurrences (Str.join sepW ws) sepW 0 (Str.join sepW ws).length ((Str.join sepW ws).length + 1)).isEmpty = false := by
    cases ho : occurrences (Str.join sepW ws) sepW 0 (Str.join sepW ws).length ((Str.join sepW ws).length + 1) with
    | nil =>
      rw [ho] at key
      have := congrArg List.length key
      simp only [partsFrom, List.length_cons, List.length_nil] at this
      lia
    | cons _ _ => rfl
  have hlen : sepW.length ≤ (Str.join sepW ws).length := by
    match ws, h2 with
    | w :: v :: r, _ =>
      show sepW.length ≤ ((w ++ sepW) ++ Str.join sepW (v :: r)).length
      rw [Str.length_append, Str.length_append]
      lia
  have h1 : (decide ((Str.join sepW ws).length < sepW.length) || decide (Builtin.Str.strKind (Str.join sepW ws) < Builtin.Str.strKind sepW)) = false := by
    have hk : Builtin.Str.strKind sepW = 1 := by decide +kernel
    have := kind_ge (Str.join sepW ws)
    rw [hk]
    simp only [Bool.or_eq_false_iff, decide_eq_false_iff_not]
    lia
  refine ⟨?_, h1, hocc⟩
  unfold Txt.split
  rw [if_neg (by rw [h1]; exact Bool.false_ne_true), if_neg (by rw [hocc]; exact Bool.false_ne_true), partsBetween_eq, sepW_len]
  exact key
theorem word_free : ∀ p < 32, 44 ∉ (wordAt p).cps.toList := by decide +kernel
theorem join_len {ws : List Str} (h : ∀ w ∈ ws, w.length ≤ 20) : (Txt.join sepW ws).length ≤ 22 * ws.length := by
  have ej : Txt.join sepW ws = Str.join sepW ws := glued_eq_join sepW ws
  rw [ej]
  clear ej
  induction ws with
  | nil => exact Nat.le_of_eq rfl
  | cons w r ih =>
    have h1 := h w List.mem_cons_self
    have h2 := ih fun u hu => h u (List.mem_cons_of_mem _ hu)
    cases r with
    | nil =>
      show w.length ≤ _
      simp only [List.length_cons, List.length_nil]
      lia
    | cons v r =>
      show ((w ++ sepW) ++ Str.join sepW (v :: r)).length ≤ _
      rw [Str.length_append, Str.length_append, sepW_len]
      simp only [List.length_cons] at h2 ⊢
      lia
section
variable {prog : Program} {w : World} {A : Around} {E : Value → Shared → Prop} {s : Shared} {h₀ : Heap} {L : Addr} {m : Str → Option Value} {news : List (Addr × Obj)} {x : Str} {t u : Tok} {Q : Value → Shared → Prop}
theorem numbered_toks : ∀ (k : Nat) (xs : List Str), ∀ p ∈ numbered k xs, k ≤ p.2
  | _, [], _, h => nomatch h
  | k, x :: r, p, h => by
    rcases List.mem_cons.mp h with rfl | h
    · exact Nat.le_refl _
    · exact Nat.le_trans (Nat.le_succ k) (numbered_toks (k + 1) r p h)
theorem split_T {ws : List Str} (h2 : 2 ≤ ws.length) (hw : ∀ w ∈ ws, 44 ∉ w.cps.toList) (hsz : (Txt.join sepW ws).length + 2 ≤ sizeLine) (hF : Fr h₀ L s.heap m) (hN : News h₀ L s.heap news)
    (h : ∀ D l h' k, l.map (·.1) = ws → (∀ p ∈ l, s.toks ≤ p.2) → Fr h₀ L h' m → News h₀ L h' ((D, W.listOf (strValues l).toArray 0) :: news) → (∀ p ∈ news, p.1 < D) → Q (.ref D) { s with heap := h', toks := k }) :
    wpAny (model prog w) A (call (.builtin "str.split") [.str (Txt.join sepW ws) t, .str sepW u]) Q E s := by
  obtain ⟨e1, e2, e3⟩ := split_join h2 hw
  generalize Txt.join sepW ws = x at *
  have hn : (partsBetween x (occurrences x sepW 0 x.length (x.length + 1)) sepW.length).length ≤ sizeLine := by
    have := StrLaws.occ_length_le x sepW 0 x.length (x.length + 1)
    rw [length_partsBetween]; lia
  refine call_meets F.slot_str_split (typeIs_str _ _ _) F.entry_str_split (F.args_str_split_2 _ _) (meets_str_split_sep x sepW t u e2 (by rw [sepW_len]; rfl) e3 (by lia) hn) ?_
  show wants Q E _ { s with toks := _, heap := s.heap.push { cls := .type "list", data := .seq (strsFrom s.toks (partsBetween x (occurrences x sepW 0 x.length (x.length + 1)) sepW.length)).toArray } }
  rw [strsFrom_eq]
  refine h _ (numbered s.toks _) _ _ ((numbered_texts _ _).trans ?_) (numbered_toks _ _) (Fr.pushS hF _) (News.push hF hN _) (fun p hp => Heap.lt_size (hN p hp).1)
  rw [← e1]
  unfold Txt.split
  rw [if_neg (by rw [e2]; exact Bool.false_ne_true), if_neg (by rw [e3]; exact Bool.false_ne_true)]
end
end Mine
end
section
set_option linter.unusedVariables false
set_option linter.unusedSimpArgs false
open PySem PySem.W PySem.Spec PySem.Calls PyProof.Rows
namespace Mine
set_option maxRecDepth 100000
/-- what a call does when the counter of tokens has come to T -/
def ClaimT (w : World) (loose : List Str) (mean : ExcName → Option Value) (mg mb : Str → Option Value) (f : Addr) (d u : Nat) (led : List (Addr × Obj)) (vs : List Value) (T : Nat) (Post : Value → List (Addr × Obj) → Prop) : Prop :=
  ∀ (dp un : Nat) (gd : Option (List Code)) (cn : Str) (cs : Scope) (a : Addr) (ccd : Value) (cl : List (Str × Addr)) (outer : List Env) (A₀ : Around) (base h₀ : Heap) (L : Addr) (m : Str → Option Value) (s : Shared) (Q E : Value → Shared → Prop),
    Below A₀ base outer h₀ → Fr h₀ L s.heap m → (hk.heap_1 w.params).In h₀ → News h₀ L s.heap led → Top topProg loose mean mg mb h₀ → cs.kind = .function →
    dp + d < recursionLimit → un + u < cLine → T ≤ s.toks →
    (∀ (v : Value) (led' : List (Addr × Obj)) (h' : Heap) (tk' : Nat), s.toks ≤ tk' → Fr h₀ L h' m → News h₀ L h' led' → Post v led' → Q v { s with heap := h', toks := tk' }) →
    wpAny (model PySem.Challenge.rw_un0019_01.row.prog w) (ktrTop dp un gd cn cs L a ccd cl outer) (call (.ref f) vs) Q E s
theorem ClaimT.use {w : World} {loose : List Str} {mean : ExcName → Option Value} {mg mb : Str → Option Value} {f : Addr} {d u : Nat} {led : List (Addr × Obj)} {vs : List Value} {TT : Nat} {Post : Value → List (Addr × Obj) → Prop}
    (C : ClaimT w loose mean mg mb f d u led vs TT Post) {dp un : Nat} {gd : Option (List Code)} {cn : Str} {cs : Scope} {a : Addr} {ccd : Value} {cl : List (Str × Addr)} {outer : List Env} {A₀ : Around} {base h₀ : Heap} {L : Addr} {m : Str → Option Value} {s : Shared} {Q E : Value → Shared → Prop}
    (B : Below A₀ base outer h₀) (F : Fr h₀ L s.heap m) (X : (hk.heap_1 w.params).In h₀) (N : News h₀ L s.heap led) (T : Top topProg loose mean mg mb h₀) (hk : cs.kind = .function) (hd : dp + d < recursionLimit) (hu : un + u < cLine) (hT : TT ≤ s.toks)
    (ret : ∀ (v : Value) (led' : List (Addr × Obj)) (h' : Heap) (tk' : Nat), s.toks ≤ tk' → Fr h₀ L h' m → News h₀ L h' led' → Post v led' → Q v { s with heap := h', toks := tk' }) :
    wpAny (model PySem.Challenge.rw_un0019_01.row.prog w) (ktrTop dp un gd cn cs L a ccd cl outer) (call (.ref f) vs) Q E s :=
  C dp un gd cn cs a ccd cl outer A₀ base h₀ L m s Q E B F X N T hk hd hu hT ret
/-- the end's bound comes of itself -/
theorem ClaimT.of {w : World} {loose : List Str} {mean : ExcName → Option Value} {mg mb : Str → Option Value} {f : Addr} {d u : Nat} {led : List (Addr × Obj)} {vs : List Value} {T : Nat} {Post : Value → List (Addr × Obj) → Prop}
    (C : ∀ (dp un : Nat) (gd : Option (List Code)) (cn : Str) (cs : Scope) (a : Addr) (ccd : Value) (cl : List (Str × Addr)) (outer : List Env) (A₀ : Around) (base h₀ : Heap) (L : Addr) (m : Str → Option Value) (s : Shared) (Q E : Value → Shared → Prop),
      Below A₀ base outer h₀ → Fr h₀ L s.heap m → (hk.heap_1 w.params).In h₀ → News h₀ L s.heap led → Top topProg loose mean mg mb h₀ → cs.kind = .function →
      dp + d < recursionLimit → un + u < cLine → T ≤ s.toks →
      (∀ (v : Value) (led' : List (Addr × Obj)) (h' : Heap) (tk' : Nat), Fr h₀ L h' m → News h₀ L h' led' → Post v led' → Q v { s with heap := h', toks := tk' }) →
      wpAny (model PySem.Challenge.rw_un0019_01.row.prog w) (ktrTop dp un gd cn cs L a ccd cl outer) (call (.ref f) vs) Q E s) : ClaimT w loose mean mg mb f d u led vs T Post := by
  intro dp un gd cn cs a ccd cl outer A₀ base h₀ L m s Q E B F X N Tp hk hd hu hT hret
  refine wpAny_with_toks (Nat.le_refl s.toks) ?_
  exact C dp un gd cn cs a ccd cl outer A₀ base h₀ L m s (fun a s' => s.toks ≤ s'.toks → Q a s') (fun e s' => s.toks ≤ s'.toks → E e s') B F X N Tp hk hd hu hT
    (fun v led' h' tk' F' N' P ht => hret v led' h' tk' ht F' N' P)
section
variable {prog : Program} {w : World} {A₀ A : Around} {s : Shared} {base h₀ : Heap} {outer : List Env} {L : Addr} {m : Str → Option Value} {env : Env} {led rest : List (Addr × Obj)} {K : Frag}
  {R : Result → Shared → Prop} {name qual : Str} {params : Arguments} {body : List Stmt} {scope : Scope} {dV kV doc pm cdv ct oc : Value} {an od : Option Addr} {osl : Array (Option Value)} {f : Addr} {args : Args} {binds : List (Str × Value)}
  {p : Program} {loose : List Str} {mean : ExcName → Option Value} {mg mb : Str → Option Value} {cl : List (Str × Addr)}
/-- entering a def whose names are captured, the counter of tokens in sight -/
theorem code_defCRt (B : Below A₀ base outer h₀) (F : Fr h₀ L s.heap m) (X₀ : K.In h₀) (N : News h₀ L s.heap (led ++ rest)) (hoff : ∀ q ∈ rest, q.1 ∉ led.map (·.1)) (T : Top p loose mean mg mb h₀) (hA : A.frames = some (env :: outer)) (hf : env.frame = some L) (hke : env.scope.kind = .function)
    (ho : K.lookup f = some ⟨oc, od, .func (fnOf name qual params body scope dV kV doc pm an cdv ct), osl⟩) (hcd : codeIn K cdv qual = true) (hroom : A.depth < recursionLimit)
    (hbind : BindsTo s (fnOf name qual params body scope dV kV doc pm an cdv ct) args binds) (hkind : (binds.all fun y => scope.names.lookup y.1 == some .local || scope.names.lookup y.1 == some .cell) = true)
    (hnd : ((cellsFrom 0 scope.names []).map (·.1)).Nodup)
    (h : ∀ g L' h₁ tk cells, s.toks ≤ tk → Fr h₀ L g m → Fr g L' h₁ (bindL (envOfC qual scope L' f cdv).kindOf binds fun _ => none) → News g L' h₁ (cells ++ led) →
      CellsAre (bindC (envOfC qual scope L' f cdv).kindOf binds fun _ => none) (cellsFrom (L' + 1) scope.names []) cells → Below A base (env :: outer) g → K.In g → Top p loose mean mg mb g → RestIn h₀ L g rest → (∀ p ∈ led, p.1 < L') →
      wpAny (model prog w) (A.deeper (envOfC qual scope L' f cdv)) (execs body (envOfC qual scope L' f cdv))
        (fun fl s' => LeaveK h₀ L m g R (match fl with | .ret v => v | _ => .none) s')
        (fun e s' => wpAny (model prog w) (A.deeper (envOfC qual scope L' f cdv)) (leaving (envOfC qual scope L' f cdv) e) (fun _ s'' => R (.error e) s'') (fun e' s'' => R (.error e') s'') s')
        { s with heap := h₁, toks := tk })
    (hco : scope.isCoroutine = false) (hgen : scope.isGenerator = false) (hk : scope.kind = .function) : codeAny (model prog w) A (.call (.ref f) args) R s := by
  have N1 := led_of N
  have RB := rest_back N hoff
  have hkind' := kindsX hkind
  obtain ⟨FG, BG, st, lv⟩ := groundX (R := R) B F N1 hA hf hke
  refine codeAny_call_function hroom ((X₀.keeps F.keep) _ _ ho) rfl hco hgen rfl (codeRec_of (X₀.keeps F.keep) hcd) (hbind _ _ _ _ ?_)
  refine with_toksQ (n := s.toks) (Nat.le_refl _) ?_
  refine wpAny_newFunctionEnv_cells hk (hkind' _) fun env' he s' x htk' => ?_
  subst he
  refine ⟨(T.nolimit.keeps F.keep).keeps x.toInCall.keep, codeAny_func ?_⟩
  obtain ⟨h₁, tk, rfl, _⟩ := x.done
  have hk₁ := x.toInCall.keep
  obtain ⟨cells, NC, Y⟩ := Cl.news (h₀ := s.heap) (Nat.le_refl _) fun n c hm => ⟨x.cell n c (lookup_of_mem_nodup (cellsFrom_names scope.names 0 (s.heap.objs.size + 1) [] [] rfl ▸ hnd) hm), x.above n c hm⟩
  refine wpAny_mono (h _ s.heap.objs.size h₁ tk cells htk' FG ⟨x.toInCall.ns, fun b o e => hk₁ b o (of_hideAll _ e), Nat.le_of_eq (hideAll_size _ _)⟩ (fun p hp => ?_) Y BG (X₀.keeps st) (T.keeps st) RB (fun p hp => Heap.lt_size (N1 p hp).1)) (fun fl s' hl => lv _ _ hl) fun _ _ y => y
  rcases List.mem_append.mp hp with hp | hp
  · refine ⟨(NC p hp).1, (NC p hp).2.1, ?_⟩
    cases q : (hideAll s.heap (led.map (·.1))).get? p.1 with
    | none => rfl
    | some o => have := of_hideAll _ q; rw [(NC p hp).2.2] at this; cases this
  · exact ⟨hk₁ _ _ (N1 p hp).1, Nat.ne_of_lt (Heap.lt_size (N1 p hp).1), hideAll_none _ (List.mem_map_of_mem hp)⟩

end
end Mine
end
section
set_option linter.unusedVariables false
set_option linter.unusedSimpArgs false
open PySem PySem.W PySem.Spec PySem.Calls PyProof.Rows
namespace Mine
set_option maxRecDepth 100000
section
variable {M : Model} {A : Around} {E : Value → Shared → Prop} {s : Shared}
/-- a new frame with cells, one name of its own bound: the counter of tokens has grown -/
theorem newEnv_one {scope : Scope} {globals : Addr} {n : Str} {v : Value} {qual : Str} {func : Option Addr} {code : Value} {builtins : Addr} {Q : Env → Shared → Prop}
    (hk : scope.kind = .function) (hl : scope.names.lookup n = some .local)
    (hQ : ∀ env, env = newEnv scope s.heap.objs.size globals (cellsFrom (s.heap.objs.size + 1) scope.names []) qual func code none builtins →
      ∀ s', InCallC s env.locals (fun y => if y = n then some v else none) env.cells (fun _ => none) s' → 1 ≤ s'.toks → Q env s') :
    wpAny M A (newFunctionEnv scope globals [] [(n, v)] qual func code none builtins) Q E s := by
  simp only [newFunctionEnv, Option.isSome_none, Bool.false_eq_true, if_false]
  refine wpAny_bind (wpAny_alloc ?_)
  refine wpAny_bind (wpAny_layCells _ (fun name kind cells => by cases hkc : kind == NameKind.cell <;> simp [hkc]) _ _ _ _ ?_)
  have ok := cellsFrom_ok scope.names (s.heap.push { cls := .type "frame", data := .dict #[] }) (s.heap.objs.size + 1) [] ⟨fun _ _ hm => (nomatch hm), List.Pairwise.nil⟩ (by rw [Heap.size_push]; exact Nat.le_refl _)
  rw [Heap.size_push] at ok
  rw [show ({ s with heap := s.heap.push { cls := .type "frame", data := .dict #[] } } : Shared).heap.objs.size = s.heap.objs.size + 1 from Heap.size_push ..]
  refine wpAny_bind ?_
  rw [List.forIn_cons]
  have x : InCallC s (newEnv scope s.heap.objs.size globals (cellsFrom (s.heap.objs.size + 1) scope.names []) qual func code none builtins).locals (fun _ => none) (cellsFrom (s.heap.objs.size + 1) scope.names []) (fun _ => none) { s with heap := pushCells (s.heap.push { cls := .type "frame", data := .dict #[] }) scope.names } :=
    ⟨⟨⟨_, _, rfl⟩, (Heap.Ns.new s.heap (.type "frame")).keeps (pushCells_keeps _ _), fun b o e => pushCells_keeps _ _ b o (Heap.get?_push_of_some _ e), Nat.le_refl _⟩,
      fun n c hc => (ok.empty n c (mem_of_lookup hc)).1, ok.apart, fun n c hm => (ok.empty n c hm).2⟩
  refine wpAny_bind (wpAny_bind (wpAny_storeName_local (env := newEnv scope s.heap.objs.size globals (cellsFrom (s.heap.objs.size + 1) scope.names []) qual func code none builtins) hl x.toInCall.ns (fun h' hn' hs' => wpAny_pure ?_) (by rw [show (newEnv scope s.heap.objs.size globals (cellsFrom (s.heap.objs.size + 1) scope.names []) qual func code none builtins).scope.kind = .function from hk]; rfl)))
  show wpAny M A (forIn [] PUnit.unit _) _ E _
  rw [List.forIn_nil]
  refine wpAny_pure (wpAny_pure (hQ _ rfl _ ⟨⟨⟨h', _, rfl⟩, hn', fun b o e => ?_, x.toInCall.fresh⟩, fun k c hc => ?_, x.apart, x.above⟩ (Nat.le_add_left 1 _)))
  · exact hs'.extBut b o (Nat.ne_of_lt (Nat.lt_of_lt_of_le (Heap.lt_size e) x.toInCall.fresh)) (x.toInCall.keep b o e)
  · exact (x.cell k c hc).sameBut hs' (Nat.ne_of_gt (x.above k c (mem_of_lookup hc)))
end
section
variable {prog : Program} {w : World} {s : Shared} {K : Frag}
  {R : Result → Shared → Prop} {name qual : Str} {params : Arguments} {body : List Stmt} {scope : Scope} {dV kV doc pm cdv ct oc : Value} {an od : Option Addr} {osl : Array (Option Value)} {f : Addr} {args : Args} {binds : List (Str × Value)}
  {p : Program} {loose : List Str} {mean : ExcName → Option Value} {mg mb : Str → Option Value}
/-- entering the law's def from the top -/
theorem code_topC {n : Str} {v : Value} (X : K.In s.heap) (T : Top p loose mean mg mb s.heap)
    (ho : K.lookup f = some ⟨oc, od, .func (fnOf name qual params body scope dV kV doc pm an cdv ct), osl⟩) (hcd : codeIn K cdv qual = true) (hroom : callerA.depth < recursionLimit)
    (hbind : BindsTo s (fnOf name qual params body scope dV kV doc pm an cdv ct) args [(n, v)]) (hl : scope.names.lookup n = some .local)
    (hnd : ((cellsFrom 0 scope.names []).map (·.1)).Nodup)
    (h : ∀ h₁ tk cells, 1 ≤ tk → Fr s.heap s.heap.objs.size h₁ (fun y => if y = n then some v else none) → News s.heap s.heap.objs.size h₁ cells →
      CellsAre (fun _ => none) (cellsFrom (s.heap.objs.size + 1) scope.names []) cells →
      wpAny (model prog w) (callerA.deeper (envOfC qual scope s.heap.objs.size f cdv)) (execs body (envOfC qual scope s.heap.objs.size f cdv))
        (fun fl s' => R (.ok (.ret (match fl with | .ret v => v | _ => .none))) s')
        (fun e s' => wpAny (model prog w) (callerA.deeper (envOfC qual scope s.heap.objs.size f cdv)) (leaving (envOfC qual scope s.heap.objs.size f cdv) e) (fun _ s'' => R (.error e) s'') (fun e' s'' => R (.error e') s'') s')
        { s with heap := h₁, toks := tk })
    (hco : scope.isCoroutine = false) (hgen : scope.isGenerator = false) (hk : scope.kind = .function) : codeAny (model prog w) callerA (.call (.ref f) args) R s := by
  refine codeAny_call_function hroom (X _ _ ho) rfl hco hgen rfl (codeRec_of X hcd) (hbind _ _ _ _ ?_)
  refine newEnv_one hk hl fun env' he s' x htk' => ?_
  subst he
  refine ⟨T.nolimit.keeps x.toInCall.keep, codeAny_func ?_⟩
  obtain ⟨h₁, tk, rfl, _⟩ := x.done
  obtain ⟨cells, NC, Y⟩ := Cl.news (h₀ := s.heap) (Nat.le_refl _) fun n c hm => ⟨x.cell n c (lookup_of_mem_nodup (cellsFrom_names scope.names 0 (s.heap.objs.size + 1) [] [] rfl ▸ hnd) hm), x.above n c hm⟩
  exact h h₁ tk cells htk' ⟨x.toInCall.ns, x.toInCall.keep, x.toInCall.fresh⟩ NC Y
end
section
variable {prog : Program} {w : World} {A : Around} {E : Value → Shared → Prop} {s : Shared} {h₀ : Heap} {L : Addr} {m : Str → Option Value} {news : List (Addr × Obj)}
theorem add_two {l b : Addr} {vs ws : List Value} {c c' : Nat} {Q : Value → Shared → Prop} (F : Fr h₀ L s.heap m) (N : News h₀ L s.heap news) (hl : (l, W.listOf vs.toArray c) ∈ news) (hb : (b, W.listOf ws.toArray c') ∈ news) (hsz : vs.length + ws.length ≤ 100000)
    (h : ∀ D h', Fr h₀ L h' m → News h₀ L h' ((D, W.listOf (vs ++ ws).toArray 0) :: news) → (∀ p ∈ news, p.1 < D) → Q (.ref D) { s with heap := h' }) :
    wpAny (model prog w) A (binaryOp .Add (.ref l) (.ref b)) Q E s :=
  add_lists F N ⟨_, (N _ hl).1, rfl, c, rfl⟩ ⟨_, (N _ hb).1, rfl, c', rfl⟩ (fun h' F' N' => h _ h' F' N' fun p hp => Heap.lt_size (N p hp).1) (by rw [PySem.sizeLine_eq]; omega)
end
theorem news_pick' {h₀ h : Heap} {L : Addr} {A B : List (Addr × Obj)} (N : News h₀ L h A) (hs : ∀ p ∈ B, p ∈ A) : News h₀ L h B := fun p hp => N p (hs p hp)
/-- what lies at two places is not one thing -/
theorem news_ne {h₀ h : Heap} {L : Addr} {A : List (Addr × Obj)} {p q : Addr × Obj} (N : News h₀ L h A) (hp : p ∈ A) (hq : q ∈ A) (hne : p.2 ≠ q.2) : p.1 ≠ q.1 := fun e => by
  have h1 := (N p hp).1
  rw [e, (N q hq).1] at h1
  exact hne (Option.some.inj h1).symm
end Mine
end
section
set_option linter.unusedVariables false
set_option linter.unusedSimpArgs false
open PySem PySem.W PySem.Spec PySem.Calls PyProof.Rows
namespace Mine
abbrev qual37 : Str := Str.ofString "_digits2int" ++ ".<locals>." ++ Str.ofString "inner"
local macro_rules | `(tactic| walk_at "binaryOp LShift int int") => `(tactic| refine Halt.out ?_)
local macro_rules | `(tactic| walk_at "exec FunctionDef") => `(tactic| refine Halt.out ?_)
/-- a number, the table of _digits2int grown -/
inductive PostD (x : Int) (a : Addr × Obj) (rest : List (Addr × Obj)) : Value → List (Addr × Obj) → Prop
  | mk (tb' : List (Addr × Obj)) (t : Tok) (hS : TabSt 37 47 4 qual37 tb') (ho : ∀ q ∈ rest, q.1 ∉ tb'.map (·.1)) (hl : a.1 ∉ tb'.map (·.1)) : PostD x a rest (.int x t) (a :: tb' ++ rest)
theorem PostD.of {x : Int} {a : Addr × Obj} {rest tb' : List (Addr × Obj)} {v : Value} {t : Tok} (e : v = .int x t) (hS : TabSt 37 47 4 qual37 tb') (ho : ∀ q ∈ rest, q.1 ∉ tb'.map (·.1)) (hl : a.1 ∉ tb'.map (·.1)) : PostD x a rest v (a :: tb' ++ rest) := e ▸ .mk tb' t hS ho hl
set_option maxRecDepth 100000 in
set_option maxHeartbeats 8000000 in
theorem d2i_spec (w : World) (loose mean mg mb) (rest : List (Addr × Obj)) (tb : List (Addr × Obj)) (l : Addr) (vs : List Value) (ns : List Int) (c : Nat) (n : Nat) (t : Tok) (hS : TabSt 37 47 4 qual37 tb) (hi : IntsAre vs ns) (hn0 : 1 ≤ n) (hn1 : n ≤ 1000) (hb : ∀ x ∈ ns, 0 ≤ x ∧ x < 2 ^ n) (hl : 0 < ns.length) (hl2 : ns.length ≤ 64) (hlt : l ∉ tb.map (·.1)) (hoff : ∀ q ∈ rest, q.1 ∉ ((l, W.listOf vs.toArray c) :: tb).map (·.1)) :
    Claim0 w loose mean mg mb 42 70 600 ((l, W.listOf vs.toArray c) :: tb ++ rest) [.ref l, .int n t] (fun t0 t1 v led' => PostD (d2i n ns) (l, W.listOf vs.toArray c) rest v led') := by
  unfold Claim0
  w_top off
  k_fill
  intro dp un gd cn cs a ccd cl outer A₀ base h₀ L m s Q E B F X N T hk hd hu hret
  refine wpAny_call ?_
  k_dflt (refine' code_defCR ?k1 ?k2 ?k3 ?k4 ?kO ?k5 ?kA ?kF ?kK ?k6 ?k7 ?k8 ?k9 ?kB ?kD ?_ ?c2 ?c3 ?c4; (case kA => exact rfl); (case kF => exact rfl); (case kK => assumption); (case k1 => k_asm); (case k2 => k_asm); (case k3 => k_asm); (case k4 => k_asm); (case kO => exact hoff); (case k5 => k_asm); (case k6 => k_is); (case k7 => k_is); (case k8 => ktr_room); (case k9 => exact BindsTo.of_eq rfl); (case kB => exact rfl); (case kD => decide +kernel); (case c2 => exact rfl); (case c3 => exact rfl); (case c4 => exact rfl); k_whole; intro g' L' h' tk' cells' FG' F' N' Y' B' X' T' RB' lR'; (try k_lt lR'); k_cells Y'; (try simp only [List.cons_append, List.nil_append] at N'); (try dsimp only); (try k_lift B'); (try k_fold))
  have CC := codeHd_of_K (c := 41) (P := 37) X' (by kernel_rfl)
  k_steps
  unfold Halt
  rename_i o1 o2 o3 d1 d2 d3
  have hlL : l < L' := lR'.1
  have htL : ∀ p ∈ tb, p.1 < L' := allLt_mem lR'.2
  have hPL : @LT.lt Nat _ 37 L' := hS.mem.elim fun o ho => htL _ ho
  refine nestDef_K rfl rfl rfl ?_
  k_dflt (refine' nestAny (tb := tb) (led := [(L' + 1 + 1 + 1, o1), (L' + 1 + 1, o2), (L' + 1, o3), (l, W.listOf vs.toArray c)]) F' ?n1 T' CC rfl hS ?n3 rfl ?_)
  case n1 => exact fun p hp => N' p (by simp only [List.mem_append, List.mem_cons, List.not_mem_nil, or_false] at hp ⊢; grind)
  case n3 =>
    intro q hq hm
    simp only [List.mem_cons, List.not_mem_nil, or_false] at hq
    obtain ⟨p, hp, e⟩ := List.mem_map.mp hm
    have hpL : @LT.lt Nat _ p.1 L' := htL p hp
    rcases hq with rfl | rfl | rfl | rfl
    · have e' : @Eq Nat p.1 (L' + 1 + 1 + 1) := e; lia
    · have e' : @Eq Nat p.1 (L' + 1 + 1) := e; lia
    · have e' : @Eq Nat p.1 (L' + 1) := e; lia
    · exact hlt hm
  intro f1 c1 oc1 vs1 t1 ctv1 doc1 h1 tk1 F1 N1 e1 e2 e3 a1 a2 a3 a4
  simp only [List.cons_append, List.nil_append] at N1
  have q1 : @Ne Nat (L' + 1 + 1 + 1) c1 := a1 (_, o1) (by simp)
  have q2 : @Ne Nat (L' + 1 + 1) c1 := a1 (_, o2) (by simp)
  have q3 : @Ne Nat (L' + 1) c1 := a1 (_, o3) (by simp)
  have q4 : @Ne Nat l c1 := a1 (l, W.listOf vs.toArray c) (by simp)
  have p1 : @LT.lt Nat _ (L' + 1 + 1 + 1) f1 := a2 (_, o1) (by simp)
  have p4 : @LT.lt Nat _ l f1 := a2 (l, W.listOf vs.toArray c) (by simp)
  have a3' : @LT.lt Nat _ c1 f1 := a3
  clear a1 a2
  k_steps
  rename_i h2 o4 F2 N2 d4
  obtain ⟨LED, N3, hLED⟩ : ∃ LED, News g' L' h2 (LED ++ [(37, tabObj #[rawInt (47 : Nat), rawInt (4 : Nat), .ref c1])]) ∧ LED = _ := ⟨_, news_rot N2, rfl⟩
  have key : ∀ (k : Nat) (rest0 : List (Addr × Obj)) (a b : Int) (ta tb : Tok), (∀ q ∈ rest0, q.1 ∉ LED.map (·.1)) → 0 ≤ a → a < b → b ≤ ns.length → (b - a).toNat ≤ k →
      Claim0 w loose mean mg mb f1 k (8 * k) (LED ++ rest0) [.int a ta, .int b tb] (fun _ _ v led' => PostI (d2i n ((ns.take b.toNat).drop a.toNat)) (LED ++ rest0) v led') := by
    intro k
    induction k with
    | zero => intro rest0 a b ta tb ho h0 h1 h2 h3; lia
    | succ k ih =>
      intro rest0 a b ta tb ho h0 h1 h2 h3
      unfold Claim0
      intro dpx unx gdx cnx csx ax ccdx clx outerx A₀x basex h₀x Lx mx sx Qx Ex Bx Fx Xx Nx Tx hkx hdx hux hretx
      subst hLED
      refine wpAny_call ?_
      k_dflt (refine' code_nestR ?k1 ?k2 ?k3 ?k4 ?kO ?k5 ?kA ?kF ?kK ?k6 ?k7 ?k8 ?k9 ?kB ?_ ?c2 ?c3 ?c4 ?c5; (case kA => exact rfl); (case kF => exact rfl); (case kK => assumption); (case k1 => k_asm); (case k2 => k_asm); (case k3 => k_asm); (case k4 => k_asm); (case k6 => k_mem); (case kO => exact ho); (case k5 => k_asm); (case k7 => exact codeRec_news Nx (by k_mem) e1 e2); (case k8 => ktr_room); (case k9 => exact BindsTo.of_eq rfl); (case c5 => decide); (case kB => exact locs rfl); (case c2 => exact rfl); (case c3 => exact rfl); (case c4 => exact rfl); k_whole; intro gy Ly hy FGy Fy Ny By Xy Ty RBy lRy; (try dsimp only); (try k_lift By); (try k_fold))
      k_steps
      · rename_i hab tkr tr kF kN Tc kX
        have eb : b.toNat = a.toNat + 1 := by lia
        exact hretx _ (_ ++ rest0) _ _ (by k_asm) (back_news (by k_asm) (by k_asm) RBy) (PostI.of (by rw [eb, take_drop_one (by lia), d2i_one]))
      · rename_i hab _ _ _ _ _
        have hm := halve a b
        generalize Int.fdiv (a + b) (2 ^ Int.toNat 1) = mid at *
        have hlen : n * ns.length ≤ 64000 := Nat.le_trans (Nat.mul_le_mul hn1 hl2) (by decide)
        k_dflt (refine' Claim0.use (ih [] mid b _ _ (fun _ h => nomatch h) (by lia) (by lia) (by lia) (by lia)) ?u1 ?u2 ?u3 ?u4 ?u5 ?u6 ?u7 ?u8 ?_; (case u1 => k_asm); (case u2 => k_asm); (case u3 => k_asm); (case u4 => k_asm); (case u5 => k_asm); (case u6 => first | exact rfl | assumption); (case u7 => ktr_room); (case u8 => ktr_units))
        rintro v5 led5 h5 tk5 F5 N5 ⟨t5⟩
        simp only [List.append_nil] at N5
        (try k_fold)
        k_steps
        unfold Halt
        obtain ⟨b1, b2⟩ := sum_bound (a := mid.toNat) (b := b.toNat) hb
        have hsh : 0 ≤ (mid - a) * (n : Int) := Int.mul_nonneg (by lia) (by lia)
        have hsh2 : (mid - a) * (n : Int) ≤ 64 * 1000 := Int.mul_le_mul (by lia) (by lia) (by lia) (by lia)
        refine lshift_int hsh (by lia) ?_
        k_steps
        k_dflt (refine' Claim0.use (ih [] a mid _ _ (fun _ h => nomatch h) (by lia) (by lia) (by lia) (by lia)) ?u1 ?u2 ?u3 ?u4 ?u5 ?u6 ?u7 ?u8 ?_; (case u1 => k_asm); (case u2 => k_asm); (case u3 => k_asm); (case u4 => k_asm); (case u5 => k_asm); (case u6 => first | exact rfl | assumption); (case u7 => ktr_room); (case u8 => ktr_units))
        rintro v6 led6 h6 tk6 F6 N6 ⟨t6⟩
        simp only [List.append_nil] at N6
        (try k_fold)
        k_steps
        exact hretx _ (_ ++ rest0) _ _ (by k_asm) (back_news (by k_asm) (by k_asm) RBy) (PostI.of (by rw [← d2i_split h0 (by lia) (by lia) h2]))
  obtain ⟨o37, ho37⟩ := hS.mem
  have hl37 : l ≠ 37 := fun h => hlt (List.mem_map.mpr ⟨_, ho37, h.symm⟩)
  k_dflt (refine' Claim0.use (key 64 [(37, tabObj #[rawInt (47 : Nat), rawInt (4 : Nat), .ref c1])] 0 ns.length _ _ ?off (by lia) (by lia) (by lia) (by lia)) ?u1 ?u2 ?u3 ?u4 ?u5 ?u6 ?u7 ?u8 ?_; (case u1 => k_asm); (case u2 => k_asm); (case u3 => k_asm); (case u4 => k_asm); (case u5 => k_asm); (case u6 => first | exact rfl | assumption); (case u7 => ktr_room); (case u8 => ktr_units))
  case off =>
    subst hLED
    intro q hq
    rw [List.mem_singleton.mp hq]
    simp only [List.map_cons, List.map_nil, List.mem_cons, List.not_mem_nil, or_false, not_or]
    have a4' : @LT.lt Nat _ 37 f1 := a4
    refine ⟨Nat.ne_of_lt a4', Ne.symm e3, ?_, ?_, ?_, Ne.symm hl37⟩
    · show @Ne Nat 37 (L' + 1 + 1 + 1); lia
    · show @Ne Nat 37 (L' + 1 + 1); lia
    · show @Ne Nat 37 (L' + 1); lia
  rintro v5 led5 h5 tk5 F5 N5 ⟨t5⟩
  have ap := RB'.apart N5
  (try k_fold)
  k_steps
  rename_i kF kN _ _
  subst hLED
  have kN' : News h₀ L h5 [(l, W.listOf vs.toArray c), (37, tabObj #[rawInt (47 : Nat), rawInt (4 : Nat), .ref c1]), (c1, oc1)] := fun p hp => kN p (by
    simp only [List.mem_cons, List.not_mem_nil, or_false] at hp
    rcases hp with rfl | rfl | rfl <;> simp)
  exact hret _ (((l, W.listOf vs.toArray c) :: [(37, tabObj #[rawInt (47 : Nat), rawInt (4 : Nat), .ref c1]), (c1, oc1)]) ++ rest) _ _ (by k_asm) (back_news (by k_asm) kN' RB')
    (PostD.of (by rw [Int.toNat_natCast, List.take_length]; rfl) (.inr ⟨c1, oc1, vs1, t1, rfl, e1, e2, e3⟩) (fun q hq hm => ap q hq (by
      simp only [List.map_cons, List.map_nil, List.mem_cons, List.not_mem_nil, or_false] at hm
      rcases hm with h | h <;> simp [h])) (by simp [hl37, q4]))
set_option maxRecDepth 100000 in
set_option maxHeartbeats 8000000 in
theorem d2i_nil_spec (w : World) (loose mean mg mb) (rest : List (Addr × Obj)) (tb : List (Addr × Obj)) (l : Addr) (c : Nat) (n : Nat) (t : Tok) (hS : TabSt 37 47 4 qual37 tb) (hlt : l ∉ tb.map (·.1)) (hoff : ∀ q ∈ rest, q.1 ∉ ((l, W.listOf ([] : List Value).toArray c) :: tb).map (·.1)) :
    Claim0 w loose mean mg mb 42 70 600 ((l, W.listOf ([] : List Value).toArray c) :: tb ++ rest) [.ref l, .int n t] (fun t0 t1 v led' => PostD 0 (l, W.listOf ([] : List Value).toArray c) rest v led') := by
  unfold Claim0
  w_top off
  k_fill
  intro dp un gd cn cs a ccd cl outer A₀ base h₀ L m s Q E B F X N T hk hd hu hret
  refine wpAny_call ?_
  k_dflt (refine' code_defCR ?k1 ?k2 ?k3 ?k4 ?kO ?k5 ?kA ?kF ?kK ?k6 ?k7 ?k8 ?k9 ?kB ?kD ?_ ?c2 ?c3 ?c4; (case kA => exact rfl); (case kF => exact rfl); (case kK => assumption); (case k1 => k_asm); (case k2 => k_asm); (case k3 => k_asm); (case k4 => k_asm); (case kO => exact hoff); (case k5 => k_asm); (case k6 => k_is); (case k7 => k_is); (case k8 => ktr_room); (case k9 => exact BindsTo.of_eq rfl); (case kB => exact rfl); (case kD => decide +kernel); (case c2 => exact rfl); (case c3 => exact rfl); (case c4 => exact rfl); k_whole; intro g' L' h' tk' cells' FG' F' N' Y' B' X' T' RB' lR'; (try k_lt lR'); k_cells Y'; (try simp only [List.cons_append, List.nil_append] at N'); (try dsimp only); (try k_lift B'); (try k_fold))
  have CC := codeHd_of_K (c := 41) (P := 37) X' (by kernel_rfl)
  k_steps
  unfold Halt
  rename_i o1 o2 o3 d1 d2 d3
  have hlL : l < L' := lR'.1
  have htL : ∀ p ∈ tb, p.1 < L' := allLt_mem lR'.2
  have hPL : @LT.lt Nat _ 37 L' := hS.mem.elim fun o ho => htL _ ho
  refine nestDef_K rfl rfl rfl ?_
  k_dflt (refine' nestAny (tb := tb) (led := [(L' + 1 + 1 + 1, o1), (L' + 1 + 1, o2), (L' + 1, o3), (l, W.listOf ([] : List Value).toArray c)]) F' ?n1 T' CC rfl hS ?n3 rfl ?_)
  case n1 => exact fun p hp => N' p (by simp only [List.mem_append, List.mem_cons, List.not_mem_nil, or_false] at hp ⊢; grind)
  case n3 =>
    intro q hq hm
    simp only [List.mem_cons, List.not_mem_nil, or_false] at hq
    obtain ⟨p, hp, e⟩ := List.mem_map.mp hm
    have hpL : @LT.lt Nat _ p.1 L' := htL p hp
    rcases hq with rfl | rfl | rfl | rfl
    · have e' : @Eq Nat p.1 (L' + 1 + 1 + 1) := e; lia
    · have e' : @Eq Nat p.1 (L' + 1 + 1) := e; lia
    · have e' : @Eq Nat p.1 (L' + 1) := e; lia
    · exact hlt hm
  intro f1 c1 oc1 vs1 t1 ctv1 doc1 h1 tk1 F1 N1 e1 e2 e3 a1 a2 a3 a4
  simp only [List.cons_append, List.nil_append] at N1
  have q1 : @Ne Nat (L' + 1 + 1 + 1) c1 := a1 (_, o1) (by simp)
  have q2 : @Ne Nat (L' + 1 + 1) c1 := a1 (_, o2) (by simp)
  have q3 : @Ne Nat (L' + 1) c1 := a1 (_, o3) (by simp)
  have q4 : @Ne Nat l c1 := a1 (l, W.listOf ([] : List Value).toArray c) (by simp)
  have p1 : @LT.lt Nat _ (L' + 1 + 1 + 1) f1 := a2 (_, o1) (by simp)
  have p4 : @LT.lt Nat _ l f1 := a2 (l, W.listOf ([] : List Value).toArray c) (by simp)
  have a3' : @LT.lt Nat _ c1 f1 := a3
  clear a1 a2
  k_steps
  rename_i h2 o4 F2 N2 d4 kF kN _ _
  have hl37 : l ≠ 37 := by
    obtain ⟨o37, ho37⟩ := hS.mem
    exact fun h => hlt (List.mem_map.mpr ⟨_, ho37, h.symm⟩)
  have ap := RB'.apart N2
  have kN' : News h₀ L h2 [(l, W.listOf ([] : List Value).toArray c), (37, tabObj #[rawInt (47 : Nat), rawInt (4 : Nat), .ref c1]), (c1, oc1)] := fun p hp => kN p (by
    simp only [List.mem_cons, List.not_mem_nil, or_false] at hp
    rcases hp with rfl | rfl | rfl <;> simp)
  exact hret _ (((l, W.listOf ([] : List Value).toArray c) :: [(37, tabObj #[rawInt (47 : Nat), rawInt (4 : Nat), .ref c1]), (c1, oc1)]) ++ rest) _ _ (by k_asm) (back_news (by k_asm) kN' RB')
    (PostD.mk _ _ (.inr ⟨c1, oc1, vs1, t1, rfl, e1, e2, e3⟩) (fun q hq hm => ap q hq (by
      simp only [List.map_cons, List.map_nil, List.mem_cons, List.not_mem_nil, or_false] at hm
      rcases hm with h | h <;> simp [h])) (by simp [hl37, q4]))
end Mine
end
section
set_option linter.unusedVariables false
set_option linter.unusedSimpArgs false
open PySem PySem.W PySem.Spec PySem.Calls PyProof.Rows
namespace Mine
abbrev qual30 : Str := Str.ofString "_int2digits" ++ ".<locals>." ++ Str.ofString "inner"
local macro_rules | `(tactic| walk_at "binaryOp Mult ref int") => `(tactic| refine Halt.out ?_)
local macro_rules | `(tactic| walk_at "binaryOp LShift int int") => `(tactic| refine Halt.out ?_)
local macro_rules | `(tactic| walk_at "binaryOp RShift int int") => `(tactic| refine Halt.out ?_)
local macro_rules | `(tactic| walk_at "exec FunctionDef") => `(tactic| refine Halt.out ?_)
/-- a row of digits, the table of _int2digits grown -/
inductive PostL (x : Int) (n : Nat) (rest : List (Addr × Obj)) : Value → List (Addr × Obj) → Prop
  | mk (l : Addr) (vs : List Value) (c : Nat) (tb' : List (Addr × Obj)) (len : Nat) (hS : TabSt 30 32 4 qual30 tb') (ho : ∀ q ∈ rest, q.1 ∉ ((l, W.listOf vs.toArray c) :: tb').map (·.1)) (hl : l ∉ tb'.map (·.1)) (hn : len ≤ 64) (hx : x < 2 ^ (n * len)) (hi : IntsAre vs (digs n len x)) :
    PostL x n rest (.ref l) (((l, W.listOf vs.toArray c) :: tb') ++ rest)
/-- None, the list written over -/
inductive PostF (D : Addr) (ns : List Int) (X : List (Addr × Obj)) : Value → List (Addr × Obj) → Prop
  | mk (vs : List Value) (hi : IntsAre vs ns) : PostF D ns X .none ((D, W.listOf vs.toArray 0) :: X)
set_option maxRecDepth 100000 in
set_option maxHeartbeats 8000000 in
theorem i2d_spec (w : World) (loose mean mg mb) (rest : List (Addr × Obj)) (tb : List (Addr × Obj)) (x : Int) (n : Nat) (tx tn : Tok) (hS : TabSt 30 32 4 qual30 tb) (hn0 : 1 ≤ n) (hn1 : n ≤ 1000) (hx0 : 0 ≤ x) (hx1 : x < 2 ^ 64) (hoff : ∀ q ∈ rest, q.1 ∉ tb.map (·.1)) :
    Claim0 w loose mean mg mb 35 70 600 (tb ++ rest) [.int x tx, .int n tn] (fun t0 t1 v led' => PostL x n rest v led') := by
  unfold Claim0
  w_top off
  k_fill
  intro dp un gd cn cs a ccd cl outer A₀ base h₀ L m s Q E B F X N T hk hd hu hret
  refine wpAny_call ?_
  k_dflt (refine' code_defCR ?k1 ?k2 ?k3 ?k4 ?kO ?k5 ?kA ?kF ?kK ?k6 ?k7 ?k8 ?k9 ?kB ?kD ?_ ?c2 ?c3 ?c4; (case kA => exact rfl); (case kF => exact rfl); (case kK => assumption); (case k1 => k_asm); (case k2 => k_asm); (case k3 => k_asm); (case k4 => k_asm); (case kO => exact hoff); (case k5 => k_asm); (case k6 => k_is); (case k7 => k_is); (case k8 => ktr_room); (case k9 => exact BindsTo.of_eq rfl); (case kB => exact rfl); (case kD => decide +kernel); (case c2 => exact rfl); (case c3 => exact rfl); (case c4 => exact rfl); k_whole; intro g' L' h' tk' cells' FG' F' N' Y' B' X' T' RB' lR'; (try k_lt lR'); k_cells Y'; (try simp only [List.cons_append, List.nil_append] at N'); (try dsimp only); (try k_lift B'); (try k_fold))
  have CC := codeHd_of_K (c := 34) (P := 30) X' (by kernel_rfl)
  k_steps
  unfold Halt
  rename_i o1 o2 o3 d1 d2 d3 l1 h1 F1 N1 lt1
  have htL : ∀ p ∈ tb, p.1 < L' := lR'
  have hPL : @LT.lt Nat _ 30 L' := hS.mem.elim fun o ho => htL _ ho
  have hq0 : 0 ≤ Int.fdiv (↑(Builtin.Int.intBits x) + ↑n - 1) ↑n := Int.fdiv_nonneg (by lia) (by lia)
  have hq1 : Int.fdiv (↑(Builtin.Int.intBits x) + ↑n - 1) ↑n ≤ 64 := by
    have := intBits_le (k := 64) hx0 hx1
    rw [Int.fdiv_eq_ediv_of_nonneg _ (by lia)]
    have h1 := Int.ediv_mul_le (↑(Builtin.Int.intBits x) + ↑n - 1) (b := (n : Int)) (by lia)
    refine Int.not_lt.mp fun h => ?_
    have h2 := Int.mul_le_mul_of_nonneg_right (Int.add_one_le_of_lt h) (show (0 : Int) ≤ (n : Int) by lia)
    lia
  refine mul_one F1 N1 List.mem_cons_self hq0 (by lia) ?_
  have hlq : (Int.fdiv (↑(Builtin.Int.intBits x) + ↑n - 1) ↑n).toNat ≤ 64 := by lia
  have hbl : x < 2 ^ (n * (Int.fdiv (↑(Builtin.Int.intBits x) + ↑n - 1) ↑n).toNat) := len_enough hx0 hn0
  generalize hlen : (Int.fdiv (↑(Builtin.Int.intBits x) + ↑n - 1) ↑n).toNat = len at *
  intro D h2 F2 N2 ltD
  have ltD0 : @LT.lt Nat _ l1 D := ltD (l1, _) List.mem_cons_self
  clear ltD
  generalize ht0 : tk' = t0 at *
  clear N1 F1
  have hi0 : IntsAre (List.replicate len (Value.int 0 t0)) (List.replicate len 0) := intsAre_replicate len 0 t0
  have hdl : (List.replicate len (0 : Int)).length = len := by simp
  generalize List.replicate len (Value.int 0 t0) = vs0 at *
  obtain ⟨ds0, hds⟩ : ∃ ds0, ds0 = List.replicate len (0 : Int) := ⟨_, rfl⟩
  rw [← hds] at hi0 hdl
  have hds0 : ds0 = List.replicate ds0.length 0 := by rw [hdl]; exact hds
  have hdl2 : ds0.length ≤ 64 := by lia
  have hO : OwnOff tb [L' + 1 + 1 + 1, L' + 1 + 1, L' + 1] := fun p hp b hb => by
    have := htL p hp
    simp only [List.mem_cons, List.not_mem_nil, or_false] at hb
    rcases hb with rfl | rfl | rfl
    · exact Nat.ne_of_lt (Nat.lt_of_lt_of_le this (by lia))
    · exact Nat.ne_of_lt (Nat.lt_of_lt_of_le this (by lia))
    · exact Nat.ne_of_lt (Nat.lt_of_lt_of_le this (by lia))
  k_steps
  unfold Halt
  rename_i h3 o4 F3 N3 d4
  refine nestDef_K rfl rfl rfl ?_
  k_dflt (refine' nestAny (tb := tb) (led := [(D, W.listOf vs0.toArray 0), (L' + 1 + 1 + 1, o1), (L' + 1 + 1, o4), (L' + 1, o3)]) F3 ?n1 T' CC rfl hS ?n3 rfl ?_)
  case n1 => exact fun p hp => N3 p (by simp only [List.mem_append, List.mem_cons, List.not_mem_nil, or_false] at hp ⊢; grind)
  case n3 =>
    intro q hq hm
    simp only [List.mem_cons, List.not_mem_nil, or_false] at hq
    obtain ⟨p, hp, e⟩ := List.mem_map.mp hm
    have hpL : @LT.lt Nat _ p.1 L' := htL p hp
    rcases hq with rfl | rfl | rfl | rfl
    · have e' : @Eq Nat p.1 D := e; lia
    · have e' : @Eq Nat p.1 (L' + 1 + 1 + 1) := e; lia
    · have e' : @Eq Nat p.1 (L' + 1 + 1) := e; lia
    · have e' : @Eq Nat p.1 (L' + 1) := e; lia
  intro f1 c1 oc1 vs1 t1 ctv1 doc1 h1 tk1 F1 N1 e1 e2 e3 a1 a2 a3 a4
  simp only [List.cons_append, List.nil_append] at N1
  have q1 : @Ne Nat (L' + 1 + 1 + 1) c1 := a1 (_, o1) (by simp)
  have q2 : @Ne Nat (L' + 1 + 1) c1 := a1 (_, o4) (by simp)
  have q3 : @Ne Nat (L' + 1) c1 := a1 (_, o3) (by simp)
  have q4 : @Ne Nat D c1 := a1 (D, W.listOf vs0.toArray 0) (by simp)
  have p4 : @LT.lt Nat _ D f1 := a2 (D, W.listOf vs0.toArray 0) (by simp)
  have p1 : @LT.lt Nat _ (L' + 1 + 1 + 1) f1 := by lia
  have a3' : @LT.lt Nat _ c1 f1 := a3
  clear a1 a2
  k_steps
  · rename_i h5 o5 F5 N5 d5 hx
    obtain ⟨LED, N6, hLED⟩ : ∃ LED, News g' L' h5 (((D, W.listOf vs0.toArray 0) :: LED) ++ [(30, tabObj #[rawInt (32 : Nat), rawInt (4 : Nat), .ref c1])]) ∧ LED = [(f1, _), (c1, oc1), (L' + 1 + 1 + 1, o5), (L' + 1 + 1, o4), (L' + 1, o3)] := ⟨_, news_pick N5, rfl⟩
    have key : ∀ (k : Nat) (rest0 : List (Addr × Obj)) (vs : List Value) (ds : List Int) (x a b : Int) (tx ta tb : Tok), (∀ q ∈ rest0, q.1 ∉ ((D, W.listOf vs.toArray 0) :: LED).map (·.1)) → IntsAre vs ds → ds.length = len → 0 ≤ a → a < b → b ≤ len → (b - a).toNat ≤ k → 0 ≤ x → x < 2 ^ (n * (b - a).toNat) →
        Claim0 w loose mean mg mb f1 k (8 * k) (((D, W.listOf vs.toArray 0) :: LED) ++ rest0) [.int x tx, .int a ta, .int b tb] (fun _ _ v led' => PostF D (fill ds a.toNat (digs n (b - a).toNat x)) (LED ++ rest0) v led') := by
      intro k
      induction k with
      | zero => intro rest0 vs ds x a b tx ta tb ho hi hl h0 h1 h2 h3; lia
      | succ k ih =>
        intro rest0 vs ds x a b tx ta tb ho hi hl h0 h1 h2 h3 h4 h5
        unfold Claim0
        intro dpx unx gdx cnx csx ax ccdx clx outerx A₀x basex h₀x Lx mx sx Qx Ex Bx Fx Xx Nx Tx hkx hdx hux hretx
        subst hLED
        refine wpAny_call ?_
        k_dflt (refine' code_nestR ?k1 ?k2 ?k3 ?k4 ?kO ?k5 ?kA ?kF ?kK ?k6 ?k7 ?k8 ?k9 ?kB ?_ ?c2 ?c3 ?c4 ?c5; (case kA => exact rfl); (case kF => exact rfl); (case kK => assumption); (case k1 => k_asm); (case k2 => k_asm); (case k3 => k_asm); (case k4 => k_asm); (case k6 => k_mem); (case kO => exact ho); (case k5 => k_asm); (case k7 => exact codeRec_news Nx (by k_mem) e1 e2); (case k8 => ktr_room); (case k9 => exact BindsTo.of_eq rfl); (case c5 => decide); (case kB => exact locs rfl); (case c2 => exact rfl); (case c3 => exact rfl); (case c4 => exact rfl); k_whole; intro gy Ly hy FGy Fy Ny By Xy Ty RBy lRy; (try dsimp only); (try k_lift By); (try k_fold))
        k_steps
        · rename_i hab _ h8 F8 N8 hi8 _ _ kF kN _ _
          have eb : (b - a).toNat = 1 := by lia
          have hi9 : IntsAre (vs.set a.toNat (Value.int x tx)) (fill ds a.toNat (digs n (b - a).toNat x)) := by
            rw [eb, digs_one h4 (by rw [eb, Nat.mul_one] at h5; exact h5), fill_one (by lia)]
            exact hi8
          exact hretx _ (_ ++ rest0) _ _ (by k_asm) (back_news (by k_asm) (by k_asm) RBy) ⟨_, hi9⟩
        · unfold Halt
          rename_i hab _
          refine rshift_int (by decide) ?_
          have hm := halve a b
          generalize Int.fdiv (a + b) (2 ^ Int.toNat 1) = mid at *
          k_steps
          unfold Halt
          have hsh : 0 ≤ (mid - a) * (n : Int) := Int.mul_nonneg (by lia) (by lia)
          have hsh2 : (mid - a) * (n : Int) ≤ 64 * 1000 := Int.mul_le_mul (by lia) (by lia) (by lia) (by lia)
          have est : ((mid - a) * (n : Int)).toNat = n * (mid - a).toNat := by
            have e : (mid - a) * (n : Int) = ((n * (mid - a).toNat : Nat) : Int) := by
              rw [Int.natCast_mul, Int.mul_comm, Int.toNat_of_nonneg (by lia)]
            rw [e]; exact Int.toNat_natCast _
          have hp : (0 : Int) < 2 ^ (n * (mid - a).toNat) := Int.pow_pos (by decide)
          have ejk : (b - a).toNat = (mid - a).toNat + (b - mid).toNat := by lia
          refine rshift_int hsh ?_
          rw [est, Int.fdiv_eq_ediv_of_nonneg _ (Int.le_of_lt hp)]
          have hu0 : 0 ≤ x / 2 ^ (n * (mid - a).toNat) := Int.ediv_nonneg h4 (Int.le_of_lt hp)
          have hu1 : x / 2 ^ (n * (mid - a).toNat) < 2 ^ (n * (b - mid).toNat) := by
            refine Int.ediv_lt_of_lt_mul hp ?_
            rw [← Int.pow_add, ← Nat.mul_add, Nat.add_comm, ← ejk]
            exact h5
          have hl0 : 0 ≤ x % 2 ^ (n * (mid - a).toNat) := Int.emod_nonneg _ (Int.ne_of_gt hp)
          have hl1 : x % 2 ^ (n * (mid - a).toNat) < 2 ^ (n * (mid - a).toNat) := Int.emod_lt_of_pos _ hp
          have hub : Builtin.Int.intBits (x / 2 ^ (n * (mid - a).toNat)) ≤ 1000 * 64 := Nat.le_trans (intBits_le hu0 hu1) (Nat.mul_le_mul hn1 (by lia))
          have exl := xor_low (n * (mid - a).toNat) h4
          have esp : digs n (b - a).toNat x = digs n (mid - a).toNat (x % 2 ^ (n * (mid - a).toNat)) ++ digs n (b - mid).toNat (x / 2 ^ (n * (mid - a).toNat)) := by rw [ejk]; exact digs_split h4
          generalize x / 2 ^ (n * (mid - a).toNat) = up at *
          generalize x % 2 ^ (n * (mid - a).toNat) = low at *
          k_steps
          unfold Halt
          refine lshift_int hsh (by lia) ?_
          rw [est]
          k_steps
          rw [exl]
          k_dflt (refine' Claim0.use (ih [] vs ds low a mid _ _ _ (fun _ h => nomatch h) hi hl h0 (by lia) (by lia) (by lia) hl0 hl1) ?u1 ?u2 ?u3 ?u4 ?u5 ?u6 ?u7 ?u8 ?_; (case u1 => k_asm); (case u2 => k_asm); (case u3 => k_asm); (case u4 => k_asm); (case u5 => k_asm); (case u6 => first | exact rfl | assumption); (case u7 => ktr_room); (case u8 => ktr_units))
          rintro v5 led5 h5' tk5 F5' N5' ⟨vs5, hi5⟩
          simp only [List.append_nil] at N5'
          have hl5 : (fill ds a.toNat (digs n (mid - a).toNat low)).length = len := by rw [fill_length (by rw [digs_length]; lia)]; exact hl
          (try k_fold)
          k_steps
          k_dflt (refine' Claim0.use (ih [] vs5 _ up mid b _ _ _ (fun _ h => nomatch h) hi5 hl5 (by lia) (by lia) (by lia) (by lia) hu0 hu1) ?u1 ?u2 ?u3 ?u4 ?u5 ?u6 ?u7 ?u8 ?_; (case u1 => k_asm); (case u2 => k_asm); (case u3 => k_asm); (case u4 => k_asm); (case u5 => k_asm); (case u6 => first | exact rfl | assumption); (case u7 => ktr_room); (case u8 => ktr_units))
          rintro v6 led6 h6' tk6 F6' N6' ⟨vs6, hi6⟩
          simp only [List.append_nil] at N6'
          rw [fill_fill (by rw [digs_length]; lia) (by rw [digs_length, digs_length]; lia), ← esp] at hi6
          (try k_fold)
          k_steps
          exact hretx _ (_ ++ rest0) _ _ (by k_asm) (back_news (by k_asm) (by k_asm) RBy) ⟨_, hi6⟩
    obtain ⟨o30, ho30⟩ := hS.mem
    have a4' : @LT.lt Nat _ 30 f1 := a4
    have hxl : 0 < len := by
      rcases Nat.eq_zero_or_pos len with h0 | h0
      · exfalso
        rw [h0, Nat.mul_zero] at hbl
        have : (2 : Int) ^ 0 = 1 := rfl
        lia
      · exact h0
    rw [show ((ds0.length : Nat) : Int) = (len : Int) by rw [hdl]]
    k_dflt (refine' Claim0.use (key 64 [(30, tabObj #[rawInt (32 : Nat), rawInt (4 : Nat), .ref c1])] vs0 ds0 x 0 len _ _ _ ?off hi0 hdl (by lia) (by lia) (by lia) (by lia) hx0 (by rw [Int.sub_zero, Int.toNat_natCast]; exact hbl)) ?u1 ?u2 ?u3 ?u4 ?u5 ?u6 ?u7 ?u8 ?_; (case u1 => k_asm); (case u2 => k_asm); (case u3 => k_asm); (case u4 => k_asm); (case u5 => k_asm); (case u6 => first | exact rfl | assumption); (case u7 => ktr_room); (case u8 => ktr_units))
    case off =>
      subst hLED
      intro q hq
      rw [List.mem_singleton.mp hq]
      simp only [List.map_cons, List.map_nil, List.mem_cons, List.not_mem_nil, or_false, not_or]
      refine ⟨?_, Nat.ne_of_lt a4', Ne.symm e3, ?_, ?_, ?_⟩
      · show @Ne Nat 30 D; lia
      · show @Ne Nat 30 (L' + 1 + 1 + 1); lia
      · show @Ne Nat 30 (L' + 1 + 1); lia
      · show @Ne Nat 30 (L' + 1); lia
    rintro v7 led7 h7 tk7 F7 N7 ⟨vs7, hi7⟩
    rw [Int.sub_zero, Int.toNat_natCast, show (0 : Int).toNat = 0 from rfl, fill_all (by rw [digs_length, hdl])] at hi7
    have ap := RB'.apart N7
    subst hLED
    (try k_fold)
    k_steps
    rename_i kF kN _ _
    have kN' : News h₀ L h7 ((D, W.listOf vs7.toArray 0) :: [(30, tabObj #[rawInt (32 : Nat), rawInt (4 : Nat), .ref c1]), (c1, oc1)]) := fun p hp => kN p (by
      simp only [List.mem_cons, List.not_mem_nil, or_false] at hp
      rcases hp with rfl | rfl | rfl <;> simp)
    exact hret _ (((D, W.listOf vs7.toArray 0) :: [(30, tabObj #[rawInt (32 : Nat), rawInt (4 : Nat), .ref c1]), (c1, oc1)]) ++ rest) _ _ (by k_asm) (back_news (by k_asm) kN' RB')
      ⟨D, vs7, 0, _, len, .inr ⟨c1, oc1, vs1, t1, rfl, e1, e2, e3⟩, fun q hq hm => ap q hq (by
        simp only [List.map_cons, List.map_nil, List.mem_cons, List.not_mem_nil, or_false] at hm
        rcases hm with h | h | h <;> simp [h]), by
          simp only [List.map_cons, List.map_nil, List.mem_cons, List.not_mem_nil, or_false, not_or]
          exact ⟨show @Ne Nat D 30 by lia, q4⟩, hlq, hbl, hi7⟩
  · rename_i h5 o5 F5 N5 d5 hx kF kN _ _
    have ap := RB'.apart N5
    have hi7 : IntsAre vs0 (digs n len x) := by rw [hx, digs_zero, ← hdl, ← hds0]; exact hi0
    have kN' : News h₀ L h5 ((D, W.listOf vs0.toArray 0) :: [(30, tabObj #[rawInt (32 : Nat), rawInt (4 : Nat), .ref c1]), (c1, oc1)]) := fun p hp => kN p (by
      simp only [List.mem_cons, List.not_mem_nil, or_false] at hp
      rcases hp with rfl | rfl | rfl <;> simp)
    exact hret _ (((D, W.listOf vs0.toArray 0) :: [(30, tabObj #[rawInt (32 : Nat), rawInt (4 : Nat), .ref c1]), (c1, oc1)]) ++ rest) _ _ (by k_asm) (back_news (by k_asm) kN' RB')
      ⟨D, vs0, 0, _, len, .inr ⟨c1, oc1, vs1, t1, rfl, e1, e2, e3⟩, fun q hq hm => ap q hq (by
        simp only [List.map_cons, List.map_nil, List.mem_cons, List.not_mem_nil, or_false] at hm
        rcases hm with h | h | h <;> simp [h]), by
          simp only [List.map_cons, List.map_nil, List.mem_cons, List.not_mem_nil, or_false, not_or]
          exact ⟨show @Ne Nat D 30 by lia, q4⟩, hlq, hbl, hi7⟩
end Mine
end
section
set_option linter.unusedVariables false
set_option linter.unusedSimpArgs false
open PySem PySem.W PySem.Spec PySem.Calls PyProof.Rows
namespace Mine
/-- a made pair of ints -/
abbrev pairObj (a b : Int) (t u : Tok) (n : Nat) : Obj := { cls := .type "tuple", data := .seq #[.int a t, .int b u] n }
local macro_rules | `(tactic| walk_at "call builtin:divmod int int") => `(tactic| refine Halt.out ?_)
local macro_rules | `(tactic| walk_at "call builtin:divmod") => `(tactic| refine Halt.out ?_)
/-- a new pair -/
inductive PostM2 (q r : Int) (rest : List (Addr × Obj)) : Value → List (Addr × Obj) → Prop
  | mk (D : Addr) (u1 u2 : Tok) (c : Nat) (h : ∀ p ∈ rest, p.1 < D) : PostM2 q r rest (.ref D) ((D, pairObj q r u1 u2 c) :: rest)
set_option maxRecDepth 100000 in
set_option maxHeartbeats 8000000 in
theorem div2n1n_spec (w : World) (loose mean mg mb) (rest : List (Addr × Obj)) (x b n : Int) (t1 t2 t3 : Tok) (h1 : b ≠ 0) (h2 : b.natAbs.log2 < 9000) (hb : ((Builtin.Int.intBits x : Nat) : Int) - n ≤ 4000) :
    Claim0 w loose mean mg mb 21 1 8 ([] ++ rest) [.int x t1, .int b t2, .int n t3] (fun t0 t1 v led' => PostM2 (x.fdiv b) (x.fmod b) rest v led') := by
  unfold Claim0
  w_top off
  k_fill
  intro dp un gd cn cs a ccd cl outer A₀ base h₀ L m s Q E B F X N T hk hd hu hret
  refine wpAny_call ?_
  k_dflt (refine' code_defR ?k1 ?k2 ?k3 ?k4 ?kO ?k5 ?kA ?kF ?kK ?k6 ?k7 ?k8 ?k9 ?kB ?_ ?c2 ?c3 ?c4 ?c5; (case kA => exact rfl); (case kF => exact rfl); (case kK => assumption); (case k1 => k_asm); (case k2 => k_asm); (case k3 => k_asm); (case k4 => k_asm); (case kO => exact off_nil); (case k5 => k_asm); (case k6 => k_is); (case k7 => k_is); (case k8 => ktr_room); (case k9 => exact BindsTo.of_eq rfl); (case c5 => decide); (case kB => exact locs rfl); (case c2 => exact rfl); (case c3 => exact rfl); (case c4 => exact rfl); k_whole; intro g' L' h' FG' F' N' B' X' T' RB' lR'; (try dsimp only); (try k_lift B'); (try k_fold))
  k_steps
  unfold Halt
  have hlt := RB'.lt F'
  refine divmod_N F' N' h1 ?_ (.inl (PyProof.noPylong_of_log2 h2))
  intro h2' F2 N2
  k_steps
  exact hret _ (_ :: rest) _ _ (by k_asm) (back_news (led' := [_]) (by k_asm) (by k_asm) RB') ⟨_, _, _, _, hlt⟩
end Mine
end
section
set_option linter.unusedVariables false
set_option linter.unusedSimpArgs false
open PySem PySem.W PySem.Spec PySem.Calls PyProof.Rows
namespace Mine
local macro_rules | `(tactic| walk_at "exec For Name Call cons nil") => `(tactic| refine Halt.out ?_)
local macro_rules | `(tactic| walk_at "call builtin:list.reverse ref") => `(tactic| refine Halt.out ?_)
local macro_rules | `(tactic| walk_at "call builtin:list.reverse") => `(tactic| refine Halt.out ?_)
local macro_rules | `(tactic| walk_at "binaryOp LShift int int") => `(tactic| refine Halt.out ?_)
/-- quotient and rest, both tables grown -/
inductive PostQ (q₀ r₀ : Int) (rest : List (Addr × Obj)) : Value → List (Addr × Obj) → Prop
  | mk (D : Addr) (q r : Int) (u1 u2 : Tok) (c : Nat) (tb3' tb7' : List (Addr × Obj)) (hq : q = q₀) (hr : r = r₀) (hS3 : TabSt 30 32 4 qual30 tb3') (hS7 : TabSt 37 47 4 qual37 tb7') (o1 : ∀ z ∈ rest, z.1 ∉ ((D, pairObj q r u1 u2 c) :: (tb3' ++ tb7')).map (·.1)) (o2 : ∀ z ∈ tb7', z.1 ∉ tb3'.map (·.1)) (o3 : D ∉ (tb3' ++ tb7').map (·.1)) :
    PostQ q₀ r₀ rest (.ref D) (((D, pairObj q r u1 u2 c) :: (tb3' ++ tb7')) ++ rest)
set_option maxRecDepth 100000 in
set_option maxHeartbeats 8000000 in
theorem divpos_spec (w : World) (loose mean mg mb) (rest : List (Addr × Obj)) (tb3 tb7 : List (Addr × Obj)) (x y : Int) (tx ty : Tok) (hS3 : TabSt 30 32 4 qual30 tb3) (hS7 : TabSt 37 47 4 qual37 tb7) (hoff7 : ∀ q ∈ tb7, q.1 ∉ tb3.map (·.1)) (ha0 : 0 ≤ x) (ha1 : x < 2 ^ 64) (hb0 : 0 < y) (hb1 : y < 2 ^ 64) (hoff : ∀ q ∈ rest, q.1 ∉ (tb3 ++ tb7).map (·.1)) :
    Claim0 w loose mean mg mb 49 80 700 ((tb3 ++ tb7) ++ rest) [.int x tx, .int y ty] (fun t0 t1 v led' => PostQ (x / y) (x % y) rest v led') := by
  unfold Claim0
  w_top off
  k_fill
  intro dp un gd cn cs a ccd cl outer A₀ base h₀ L m s Q E B F X N T hk hd hu hret
  refine wpAny_call ?_
  k_dflt (refine' code_defR ?k1 ?k2 ?k3 ?k4 ?kO ?k5 ?kA ?kF ?kK ?k6 ?k7 ?k8 ?k9 ?kB ?_ ?c2 ?c3 ?c4 ?c5; (case kA => exact rfl); (case kF => exact rfl); (case kK => assumption); (case k1 => k_asm); (case k2 => k_asm); (case k3 => k_asm); (case k4 => k_asm); (case kO => exact hoff); (case k5 => k_asm); (case k6 => k_is); (case k7 => k_is); (case k8 => ktr_room); (case k9 => exact BindsTo.of_eq rfl); (case c5 => decide); (case kB => exact locs rfl); (case c2 => exact rfl); (case c3 => exact rfl); (case c4 => exact rfl); k_whole; intro g' L' h' FG' F' N' B' X' T' RB' lR'; (try dsimp only); (try k_lift B'); (try k_fold))
  have hbits : y < 2 ^ Builtin.Int.intBits y := lt_intBits (by lia)
  have hN1 : 1 ≤ Builtin.Int.intBits y := intBits_pos hb0
  have hN2 : Builtin.Int.intBits y ≤ 64 := intBits_le (by lia) hb1
  have hlog := log2_small hb0 hb1
  k_steps
  generalize Builtin.Int.intBits y = n at *
  k_dflt (refine' Claim0.use (i2d_spec w loose mean mg mb tb7 tb3 x n _ _ hS3 hN1 (by lia) ha0 ha1 hoff7) ?u1 ?u2 ?u3 ?u4 ?u5 ?u6 ?u7 ?u8 ?_; (case u1 => k_asm); (case u2 => k_asm); (case u3 => k_asm); (case u4 => k_asm); (case u5 => k_asm); (case u6 => first | exact rfl | assumption); (case u7 => ktr_room); (case u8 => ktr_units))
  rintro v5 led5 h5 tk5 F5 N5 ⟨l, vs, c, tb3', len, hS3', o5, o5', hlen, hlt, hi⟩
  simp only [List.cons_append] at N5
  have o7 : ∀ q ∈ tb7, q.1 ≠ l := fun q hq h => o5 q hq (by simp [h])
  have hds := d2i_of_digs ha0 hlt
  have hdb := digs_bound n len x
  have hdl := digs_length n len x
  generalize digs n len x = ds at *
  have hvl : vs.length = len := by rw [hi.length, hdl]
  (try k_fold)
  obtain ⟨tbs, htbs⟩ : ∃ tbs, tbs = tb3' ++ tb7 := ⟨_, rfl⟩
  rw [← htbs] at N5
  k_steps
  unfold Halt
  refine wpAny_For ?_
  k_steps
  rename_i q h2 lq h3 I h4 F4 N4 lI
  have hql : @LT.lt Nat _ l q := lq.1
  have hqt : ∀ p ∈ tbs, p.1 < q := allLt_mem lq.2
  have hqI : @LT.lt Nat _ q I := lI.1
  have hIt : ∀ p ∈ (q, W.listOf #[] 0) :: (l, W.listOf vs.toArray c) :: tbs, p.1 ≠ I := by
    intro p hp
    rcases List.mem_cons.mp hp with rfl | hp
    · exact Nat.ne_of_lt hqI
    · rcases List.mem_cons.mp hp with rfl | hp
      · exact Nat.ne_of_lt lI.2.1
      · exact Nat.ne_of_lt (allLt_mem lI.2.2 p hp)
  refine loopM_rev (l := l) (vs := vs) (c := c) (led := (q, W.listOf #[] 0) :: (l, W.listOf vs.toArray c) :: tbs) rfl (by k_mem) hIt (by k_asm) (by k_asm)
    (fun M i tk m led => ∃ us qs cq r t u1 u2, led = (q, W.listOf us.toArray cq) :: (l, W.listOf vs.toArray c) :: tbs ∧ IntsAre us qs ∧ qs.length = i ∧ (∀ z ∈ qs, 0 ≤ z ∧ z < 2 ^ n) ∧
      d2i n qs.reverse = d2i n (ds.drop (len - i)) / y ∧ r = d2i n (ds.drop (len - i)) % y ∧
      m = fun y => if y = Str.ofString "r" then some (.int r t) else if y = Str.ofString "q_digit" then u1 else if y = Str.ofString "a_digit" then u2 else M y)
    ⟨[], [], 0, 0, _, _, _, rfl, .nil, rfl, (fun z hz => nomatch hz), by rw [Nat.sub_zero, List.drop_eq_nil_of_le (Nat.le_of_eq hdl)]; simp [d2i], by rw [Nat.sub_zero, List.drop_eq_nil_of_le (Nat.le_of_eq hdl)]; simp [d2i], start3 (x₂ := Str.ofString "q_digit") (x₃ := Str.ofString "a_digit") rfl⟩ ?turn ?done rfl rfl (by passes_own)
  case turn =>
    intro i v tk₀ m₁ led₁ h tk own hi0 hP htk hJ hnw hlive hown F₁ N₁
    obtain ⟨us, qs, cq, r, t, u1, u2, rfl, hus, hql', hqb, hdv, hr, rfl⟩ := hJ
    have hj : len - 1 - i < ds.length := by lia
    obtain ⟨tv, hx⟩ := hi.get (len - 1 - i) (ds[len - 1 - i]) (by simp)
    rw [hvl, hx] at hP
    cases hP
    have hdi := hdb _ (List.getElem_mem hj)
    have hdrop : ds.drop (len - (i + 1)) = ds[len - 1 - i] :: ds.drop (len - i) := by
      have e1 : len - (i + 1) = len - 1 - i := by lia
      have e2 : len - i = len - 1 - i + 1 := by lia
      rw [e1, e2]; exact List.drop_eq_getElem_cons hj
    generalize ds[len - 1 - i] = d at *
    have hstep := div_step (V := d2i n (ds.drop (len - i))) (d := d) (n := n) hb0
    rw [← d2i_cons, ← hdrop] at hstep
    have hr0 : 0 ≤ r := hr ▸ Int.emod_nonneg _ (by lia)
    have hr1 : r < y := hr ▸ Int.emod_lt_of_pos _ hb0
    have hdig := digit_small (n := n) hb0 hr0 hr1 hdi.1 hdi.2
    have hqI' : @Ne Nat q I := hnw (q, _) List.mem_cons_self
    have hO : OwnOff (tbs ++ own) [q] := fun p hp b hb => by
      rw [List.mem_singleton.mp hb]
      rcases List.mem_append.mp hp with hp | hp
      · exact Nat.ne_of_lt (hqt p hp)
      · rcases hown p hp with h | h
        · rw [h]; exact Ne.symm hqI'
        · rw [h]; exact Nat.ne_of_lt hql
    simp only [List.cons_append] at N₁
    (try k_fold)
    k_steps
    unfold Halt
    have hbr : Builtin.Int.intBits r ≤ 64 := intBits_le hr0 (by lia)
    refine lshift_int (by lia) (by lia) ?_
    rw [Int.toNat_natCast]
    k_steps
    have hbx : Builtin.Int.intBits (r * 2 ^ n + d) ≤ n + n := intBits_le hdig.2.2.1 (by
      refine Int.lt_of_lt_of_le hdig.2.2.2 ?_
      rw [Int.pow_add]
      exact Int.mul_le_mul_of_nonneg_right (by lia) (Int.le_of_lt (Int.pow_pos (by decide))))
    k_dflt (refine' Claim0.use (div2n1n_spec w loose mean mg mb _ _ y n _ _ _ (by lia) hlog (by lia)) ?u1 ?u2 ?u3 ?u4 ?u5 ?u6 ?u7 ?u8 ?_; (case u1 => k_asm); (case u2 => k_asm); (case u3 => k_asm); (case u4 => k_asm); (case u5 => k_asm); (case u6 => first | exact rfl | assumption); (case u7 => ktr_room); (case u8 => ktr_units))
    rintro v6 led6 h6 tk6 F6 N6 ⟨D, w1, w2, cD, hltD⟩
    have hqD : @LT.lt Nat _ q D := hltD (q, _) List.mem_cons_self
    (try k_fold)
    k_steps
    rename_i h7 F7 N7
    simp only [List.push_toArray] at N7
    refine' EndM.intro (by k_asm) N7 mem_skip mem_skip_own ?hI ⟨_, _, _, _, ?a1, ?a2, ?a3, rfl, hus.append (.cons _ w1 .nil), ?a4, ?a5, ?a6, ?a7, ?a8⟩
    case hI =>
      intro p hp
      rcases List.mem_cons.mp hp with rfl | hp
      · exact hqI'
      · exact hnw p (List.mem_cons_of_mem _ hp)
    case a8 => exact step3
    case a4 => simp [hql']
    case a5 =>
      intro z hz
      rcases List.mem_append.mp hz with hz | hz
      · exact hqb z hz
      · rw [List.mem_singleton.mp hz, Int.fdiv_eq_ediv_of_nonneg _ (by lia)]
        exact ⟨hdig.1, hdig.2.1⟩
    case a6 =>
      rw [List.reverse_append, List.reverse_singleton, List.singleton_append, d2i_cons, hdv, hstep.1, ← hr, Int.fdiv_eq_ediv_of_nonneg _ (by lia), Int.add_comm]
    case a7 => rw [hstep.2, ← hr, Int.fmod_eq_emod_of_nonneg _ (by lia)]
  case done =>
    intro h tk₀ tk m₁ led₁ htk hJ F₁ N₁
    obtain ⟨us, qs, cq, r, t, u1, u2, rfl, hus, hql', hqb, hdv, hr, rfl⟩ := hJ
    (try k_fold)
    rw [hvl, Nat.sub_self, List.drop_zero, hds] at hdv hr
    rw [hvl] at hql'
    have hO : OwnOff tbs [q] := fun p hp b hb => by
      rw [List.mem_singleton.mp hb]
      exact Nat.ne_of_lt (hqt p hp)
    have hq7 : q ∉ tb7.map (·.1) := fun hm => by
      obtain ⟨p, hp, e⟩ := List.mem_map.mp hm
      exact absurd e (Nat.ne_of_lt (hqt p (htbs ▸ List.mem_append_right _ hp)))
    have hoffD : ∀ z ∈ (l, W.listOf vs.toArray c) :: tb3', ∀ X : Obj, z.1 ∉ ((q, X) :: tb7).map (·.1) := by
      intro z hz X hm
      rcases List.mem_cons.mp hm with e | hm
      · rcases List.mem_cons.mp hz with rfl | hz
        · exact absurd e (Nat.ne_of_lt hql)
        · exact absurd e (Nat.ne_of_lt (hqt z (htbs ▸ List.mem_append_left _ hz)))
      · obtain ⟨p, hp, e⟩ := List.mem_map.mp hm
        exact o5 p hp (by rw [e]; exact List.mem_map.mpr ⟨z, hz, rfl⟩)
    k_steps
    unfold Halt
    have hul : us.length = len := by rw [hus.length, hql']
    refine kl_reverse (its := us.toArray) (l := us.reverse) F₁ N₁ (by simp) (Upd.head fun p hp => ?_) (by rw [sizeLine_eq]; simp; lia) ?_
    · rcases List.mem_cons.mp hp with rfl | hp
      · exact Nat.ne_of_lt hql
      · exact Nat.ne_of_lt (hqt p hp)
    intro h6 F6 N6
    rw [htbs] at N6
    have N6' : News g' L' h6 (((q, W.listOf us.reverse.toArray cq) :: tb7) ++ ((l, W.listOf vs.toArray c) :: tb3')) := fun p hp => N6 p (by
      simp only [List.cons_append, List.mem_cons, List.mem_append] at hp ⊢
      rcases hp with h | h | h | h <;> simp [h])
    clear N6
    k_steps
    rcases Nat.eq_zero_or_pos len with hz0 | hz0
    · have hq0 : qs = [] := List.eq_nil_of_length_eq_zero (by lia)
      subst hq0
      have hu0 := hus.nil_inv
      subst hu0
      k_dflt (refine' Claim0.use (d2i_nil_spec w loose mean mg mb ((l, W.listOf vs.toArray c) :: tb3') tb7 q cq n _ hS7 hq7 (fun z hz => hoffD z hz _)) ?u1 ?u2 ?u3 ?u4 ?u5 ?u6 ?u7 ?u8 ?_; (case u1 => k_asm); (case u2 => k_asm); (case u3 => k_asm); (case u4 => k_asm); (case u5 => k_asm); (case u6 => first | exact rfl | assumption); (case u7 => ktr_room); (case u8 => ktr_units))
      rintro v8 led8 h8 tk8 F8 N8 ⟨tb7', t8, hS7', o8, o8'⟩
      (try k_fold)
      simp only [List.cons_append] at N8
      k_steps
      rename_i D9 h9 F9 N9 lD kF kN _ _
      have ap := RB'.apart N9
      have hD9 : ∀ p ∈ tb3' ++ tb7', p.1 < D9 := fun p hp => allLt_mem lD.2 p (by
        simp only [List.mem_append, List.mem_cons] at hp ⊢
        rcases hp with h | h <;> simp [h])
      have kN' : News h₀ L h9 ((D9, pairObj 0 r t8 t 0) :: (tb3' ++ tb7')) := fun p hp => kN p (by
        simp only [List.mem_append, List.mem_cons] at hp ⊢
        rcases hp with h | h | h <;> simp [h])
      exact hret _ (((D9, pairObj 0 r t8 t 0) :: (tb3' ++ tb7')) ++ rest) _ _ (by k_asm) (back_news (by k_asm) kN' RB')
        ⟨D9, _, _, _, _, _, tb3', tb7', hdv, hr, hS3', hS7', fun z hz hm => ap z hz (by
          simp only [List.map_cons, List.map_append, List.mem_append, List.mem_cons] at hm ⊢
          rcases hm with h | h | h
          · exact .inl h
          · exact .inr (.inr (.inr (.inr h)))
          · exact .inr (.inr (.inl h))), fun z hz hm => by
            obtain ⟨p, hp, e⟩ := List.mem_map.mp hm
            exact o8 p (List.mem_cons_of_mem _ hp) (List.mem_map.mpr ⟨z, hz, e.symm⟩), fun hm => by
            obtain ⟨p, hp, e⟩ := List.mem_map.mp hm
            exact absurd e (Nat.ne_of_lt (hD9 p hp))⟩
    ·
      k_dflt (refine' Claim0.use (d2i_spec w loose mean mg mb ((l, W.listOf vs.toArray c) :: tb3') tb7 q us.reverse qs.reverse cq n _ hS7 hus.reverse hN1 (by lia) (fun z hz => hqb z (List.mem_reverse.mp hz)) (by rw [List.length_reverse]; lia) (by rw [List.length_reverse]; lia) hq7 (fun z hz => hoffD z hz _)) ?u1 ?u2 ?u3 ?u4 ?u5 ?u6 ?u7 ?u8 ?_; (case u1 => k_asm); (case u2 => k_asm); (case u3 => k_asm); (case u4 => k_asm); (case u5 => k_asm); (case u6 => first | exact rfl | assumption); (case u7 => ktr_room); (case u8 => ktr_units))
      rintro v8 led8 h8 tk8 F8 N8 ⟨tb7', t8, hS7', o8, o8'⟩
      (try k_fold)
      simp only [List.cons_append] at N8
      k_steps
      rename_i D9 h9 F9 N9 lD kF kN _ _
      have ap := RB'.apart N9
      have hD9 : ∀ p ∈ tb3' ++ tb7', p.1 < D9 := fun p hp => allLt_mem lD.2 p (by
        simp only [List.mem_append, List.mem_cons] at hp ⊢
        rcases hp with h | h <;> simp [h])
      have kN' : News h₀ L h9 ((D9, pairObj (d2i n qs.reverse) r t8 t 0) :: (tb3' ++ tb7')) := fun p hp => kN p (by
        simp only [List.mem_append, List.mem_cons] at hp ⊢
        rcases hp with h | h | h <;> simp [h])
      exact hret _ (((D9, pairObj (d2i n qs.reverse) r t8 t 0) :: (tb3' ++ tb7')) ++ rest) _ _ (by k_asm) (back_news (by k_asm) kN' RB')
        ⟨D9, _, _, _, _, _, tb3', tb7', hdv, hr, hS3', hS7', fun z hz hm => ap z hz (by
          simp only [List.map_cons, List.map_append, List.mem_append, List.mem_cons] at hm ⊢
          rcases hm with h | h | h
          · exact .inl h
          · exact .inr (.inr (.inr (.inr h)))
          · exact .inr (.inr (.inl h))), fun z hz hm => by
            obtain ⟨p, hp, e⟩ := List.mem_map.mp hm
            exact o8 p (List.mem_cons_of_mem _ hp) (List.mem_map.mpr ⟨z, hz, e.symm⟩), fun hm => by
            obtain ⟨p, hp, e⟩ := List.mem_map.mp hm
            exact absurd e (Nat.ne_of_lt (hD9 p hp))⟩
end Mine
end
section
set_option linter.unusedVariables false
set_option linter.unusedSimpArgs false
open PySem PySem.W PySem.Spec PySem.Calls PyProof.Rows
namespace Mine
theorem fdiv_not {x y : Int} (h : 0 < y) : Builtin.bitNot ((Builtin.bitNot x).fdiv y) = x.fdiv y ∧ y + Builtin.bitNot ((Builtin.bitNot x).fmod y) = x.fmod y := by
  rw [Int.fdiv_eq_ediv_of_nonneg _ (by lia), Int.fdiv_eq_ediv_of_nonneg _ (by lia), Int.fmod_eq_emod_of_nonneg _ (by lia), Int.fmod_eq_emod_of_nonneg _ (by lia)]
  unfold Builtin.bitNot
  have h1 := Int.emod_add_mul_ediv (-x - 1) y
  have h2 := Int.emod_nonneg (-x - 1) (show y ≠ 0 by lia)
  have h3 := Int.emod_lt_of_pos (-x - 1) h
  have key : x = (y + (-((-x - 1) % y) - 1)) + y * (-((-x - 1) / y) - 1) := by
    rw [Int.mul_sub, Int.mul_neg, Int.mul_one]; lia
  constructor
  · have := Int.ediv_emod_unique (a := x) (b := y) (r := y + (-((-x - 1) % y) - 1)) (q := -((-x - 1) / y) - 1) h
    exact (this.mpr ⟨by lia, by lia, by lia⟩).1.symm
  · have := Int.ediv_emod_unique (a := x) (b := y) (r := y + (-((-x - 1) % y) - 1)) (q := -((-x - 1) / y) - 1) h
    exact (this.mpr ⟨by lia, by lia, by lia⟩).2.symm
theorem fmod_neg_neg (x y : Int) : -((-x).fmod (-y)) = x.fmod y := by
  have h1 := Int.fmod_def (-x) (-y)
  have h2 := Int.fmod_def x y
  rw [h1, h2, Int.neg_fdiv_neg, Int.neg_mul]
  lia
set_option maxRecDepth 100000 in
set_option maxHeartbeats 8000000 in
theorem idm0_spec (w : World) (loose mean mg mb) (rest : List (Addr × Obj)) (tb3 tb7 : List (Addr × Obj)) (x y : Int) (tx ty : Tok) (hS3 : TabSt 30 32 4 qual30 tb3) (hS7 : TabSt 37 47 4 qual37 tb7) (hoff7 : ∀ q ∈ tb7, q.1 ∉ tb3.map (·.1)) (hoff : ∀ q ∈ rest, q.1 ∉ (tb3 ++ tb7).map (·.1)) (ha0 : 0 ≤ x) (ha1 : x < 2 ^ 64) (hb0 : 0 < y) (hb1 : y < 2 ^ 64) :
    Claim0 w loose mean mg mb 56 90 720 ((tb3 ++ tb7) ++ rest) [.int x tx, .int y ty] (fun t0 t1 v led' => PostQ (x.fdiv y) (x.fmod y) rest v led') := by
  unfold Claim0
  w_top off
  k_fill
  intro dp un gd cn cs a ccd cl outer A₀ base h₀ L m s Q E B F X N T hk hd hu hret
  refine wpAny_call ?_
  k_dflt (refine' code_defR ?k1 ?k2 ?k3 ?k4 ?kO ?k5 ?kA ?kF ?kK ?k6 ?k7 ?k8 ?k9 ?kB ?_ ?c2 ?c3 ?c4 ?c5; (case kA => exact rfl); (case kF => exact rfl); (case kK => assumption); (case k1 => k_asm); (case k2 => k_asm); (case k3 => k_asm); (case k4 => k_asm); (case kO => exact hoff); (case k5 => k_asm); (case k6 => k_is); (case k7 => k_is); (case k8 => ktr_room); (case k9 => exact BindsTo.of_eq rfl); (case c5 => decide); (case kB => exact locs rfl); (case c2 => exact rfl); (case c3 => exact rfl); (case c4 => exact rfl); k_whole; intro g' L' h' FG' F' N' B' X' T' RB' lR'; (try dsimp only); (try k_lift B'); (try k_fold))
  k_steps
  · exfalso; lia
  k_dflt (refine' Claim0.use (divpos_spec w loose mean mg mb [] tb3 tb7 x y _ _ hS3 hS7 hoff7 ha0 ha1 hb0 hb1 (fun _ h => nomatch h)) ?u1 ?u2 ?u3 ?u4 ?u5 ?u6 ?u7 ?u8 ?_; (case u1 => k_asm); (case u2 => k_asm); (case u3 => k_asm); (case u4 => exact fun p hp => N' p (by simpa using hp)); (case u5 => k_asm); (case u6 => first | exact rfl | assumption); (case u7 => ktr_room); (case u8 => ktr_units))
  rintro v5 led5 h5 tk5 F5 N5 ⟨D, q, r, u1, u2, c, tb3', tb7', hq, hr, hS3', hS7', o1, o2, o3⟩
  rw [List.append_nil] at N5
  have ap := RB'.apart N5
  (try k_fold)
  k_steps
  exact hret _ (((D, pairObj q r u1 u2 c) :: (tb3' ++ tb7')) ++ rest) _ _ (by k_asm) (back_news (by k_asm) (by k_asm) RB')
    ⟨D, _, _, _, _, _, tb3', tb7', by rw [hq, Int.fdiv_eq_ediv_of_nonneg _ (by lia)], by rw [hr, Int.fmod_eq_emod_of_nonneg _ (by lia)], hS3', hS7', ap, o2, o3⟩
set_option maxRecDepth 100000 in
set_option maxHeartbeats 8000000 in
theorem idm1_spec (w : World) (loose mean mg mb) (rest : List (Addr × Obj)) (tb3 tb7 : List (Addr × Obj)) (x y : Int) (tx ty : Tok) (hS3 : TabSt 30 32 4 qual30 tb3) (hS7 : TabSt 37 47 4 qual37 tb7) (hoff7 : ∀ q ∈ tb7, q.1 ∉ tb3.map (·.1)) (hoff : ∀ q ∈ rest, q.1 ∉ (tb3 ++ tb7).map (·.1)) (ha0 : x < 0) (ha1 : -(2 ^ 64) < x) (hb0 : 0 < y) (hb1 : y < 2 ^ 64) :
    Claim0 w loose mean mg mb 56 100 740 ((tb3 ++ tb7) ++ rest) [.int x tx, .int y ty] (fun t0 t1 v led' => PostQ (x.fdiv y) (x.fmod y) rest v led') := by
  unfold Claim0
  w_top off
  k_fill
  intro dp un gd cn cs a ccd cl outer A₀ base h₀ L m s Q E B F X N T hk hd hu hret
  refine wpAny_call ?_
  k_dflt (refine' code_defR ?k1 ?k2 ?k3 ?k4 ?kO ?k5 ?kA ?kF ?kK ?k6 ?k7 ?k8 ?k9 ?kB ?_ ?c2 ?c3 ?c4 ?c5; (case kA => exact rfl); (case kF => exact rfl); (case kK => assumption); (case k1 => k_asm); (case k2 => k_asm); (case k3 => k_asm); (case k4 => k_asm); (case kO => exact hoff); (case k5 => k_asm); (case k6 => k_is); (case k7 => k_is); (case k8 => ktr_room); (case k9 => exact BindsTo.of_eq rfl); (case c5 => decide); (case kB => exact locs rfl); (case c2 => exact rfl); (case c3 => exact rfl); (case c4 => exact rfl); k_whole; intro g' L' h' FG' F' N' B' X' T' RB' lR'; (try dsimp only); (try k_lift B'); (try k_fold))
  k_steps
  · exfalso; lia
  k_dflt (refine' Claim0.use (idm0_spec w loose mean mg mb [] tb3 tb7 (Builtin.bitNot x) y _ _ hS3 hS7 hoff7 (fun _ h => nomatch h) (by unfold Builtin.bitNot; lia) (by unfold Builtin.bitNot; lia) hb0 hb1) ?u1 ?u2 ?u3 ?u4 ?u5 ?u6 ?u7 ?u8 ?_; (case u1 => k_asm); (case u2 => k_asm); (case u3 => k_asm); (case u4 => exact fun p hp => N' p (by simpa using hp)); (case u5 => k_asm); (case u6 => first | exact rfl | assumption); (case u7 => ktr_room); (case u8 => ktr_units))
  rintro v5 led5 h5 tk5 F5 N5 ⟨D, q, r, u1, u2, c, tb3', tb7', hq, hr, hS3', hS7', o1, o2, o3⟩
  rw [List.append_nil] at N5
  (try k_fold)
  k_steps
  rename_i D9 h9 F9 N9 lD kF kN _ _
  have ap := RB'.apart N9
  have hD9 : ∀ p ∈ tb3' ++ tb7', p.1 < D9 := fun p hp => allLt_mem lD.2 p hp
  have kN' : News h₀ L h9 ((D9, pairObj (Builtin.bitNot q) (y + Builtin.bitNot r) _ _ 0) :: (tb3' ++ tb7')) := fun p hp => kN p (by
    rcases List.mem_cons.mp hp with h | h
    · rw [h]; exact List.mem_cons_self
    · exact List.mem_cons_of_mem _ (List.mem_cons_of_mem _ h))
  exact hret _ (((D9, pairObj (Builtin.bitNot q) (y + Builtin.bitNot r) _ _ 0) :: (tb3' ++ tb7')) ++ rest) _ _ (by k_asm) (back_news (by k_asm) kN' RB')
    ⟨D9, _, _, _, _, _, tb3', tb7', by rw [hq]; exact (fdiv_not hb0).1, by rw [hr]; exact (fdiv_not hb0).2, hS3', hS7', fun z hz hm => ap z hz (by
      rcases List.mem_cons.mp hm with h | h
      · exact List.mem_cons.mpr (.inl h)
      · exact List.mem_cons_of_mem _ (List.mem_cons_of_mem _ h)), o2, fun hm => by
        obtain ⟨p, hp, e⟩ := List.mem_map.mp hm
        exact absurd e (Nat.ne_of_lt (hD9 p hp))⟩
set_option maxRecDepth 100000 in
set_option maxHeartbeats 8000000 in
theorem idm_pos_spec (w : World) (loose mean mg mb) (rest : List (Addr × Obj)) (tb3 tb7 : List (Addr × Obj)) (x y : Int) (tx ty : Tok) (hS3 : TabSt 30 32 4 qual30 tb3) (hS7 : TabSt 37 47 4 qual37 tb7) (hoff7 : ∀ q ∈ tb7, q.1 ∉ tb3.map (·.1)) (hoff : ∀ q ∈ rest, q.1 ∉ (tb3 ++ tb7).map (·.1)) (ha0 : -(2 ^ 64) < x) (ha1 : x < 2 ^ 64) (hb0 : 0 < y) (hb1 : y < 2 ^ 64) :
    Claim0 w loose mean mg mb 56 100 740 ((tb3 ++ tb7) ++ rest) [.int x tx, .int y ty] (fun t0 t1 v led' => PostQ (x.fdiv y) (x.fmod y) rest v led') := by
  by_cases h : x < 0
  · exact idm1_spec w loose mean mg mb rest tb3 tb7 x y tx ty hS3 hS7 hoff7 hoff h ha0 hb0 hb1
  · exact (idm0_spec w loose mean mg mb rest tb3 tb7 x y tx ty hS3 hS7 hoff7 hoff (by lia) ha1 hb0 hb1).mono (by lia) (by lia)
set_option maxRecDepth 100000 in
set_option maxHeartbeats 8000000 in
theorem idm_neg_spec (w : World) (loose mean mg mb) (rest : List (Addr × Obj)) (tb3 tb7 : List (Addr × Obj)) (x y : Int) (tx ty : Tok) (hS3 : TabSt 30 32 4 qual30 tb3) (hS7 : TabSt 37 47 4 qual37 tb7) (hoff7 : ∀ q ∈ tb7, q.1 ∉ tb3.map (·.1)) (hoff : ∀ q ∈ rest, q.1 ∉ (tb3 ++ tb7).map (·.1)) (ha0 : -(2 ^ 64) < x) (ha1 : x < 2 ^ 64) (hb0 : y < 0) (hb1 : -(2 ^ 64) < y) :
    Claim0 w loose mean mg mb 56 110 760 ((tb3 ++ tb7) ++ rest) [.int x tx, .int y ty] (fun t0 t1 v led' => PostQ (x.fdiv y) (x.fmod y) rest v led') := by
  unfold Claim0
  w_top off
  k_fill
  intro dp un gd cn cs a ccd cl outer A₀ base h₀ L m s Q E B F X N T hk hd hu hret
  refine wpAny_call ?_
  k_dflt (refine' code_defR ?k1 ?k2 ?k3 ?k4 ?kO ?k5 ?kA ?kF ?kK ?k6 ?k7 ?k8 ?k9 ?kB ?_ ?c2 ?c3 ?c4 ?c5; (case kA => exact rfl); (case kF => exact rfl); (case kK => assumption); (case k1 => k_asm); (case k2 => k_asm); (case k3 => k_asm); (case k4 => k_asm); (case kO => exact hoff); (case k5 => k_asm); (case k6 => k_is); (case k7 => k_is); (case k8 => ktr_room); (case k9 => exact BindsTo.of_eq rfl); (case c5 => decide); (case kB => exact locs rfl); (case c2 => exact rfl); (case c3 => exact rfl); (case c4 => exact rfl); k_whole; intro g' L' h' FG' F' N' B' X' T' RB' lR'; (try dsimp only); (try k_lift B'); (try k_fold))
  k_steps
  · exfalso; lia
  k_dflt (refine' Claim0.use (idm_pos_spec w loose mean mg mb [] tb3 tb7 (-x) (-y) _ _ hS3 hS7 hoff7 (fun _ h => nomatch h) (by lia) (by lia) (by lia) (by lia)) ?u1 ?u2 ?u3 ?u4 ?u5 ?u6 ?u7 ?u8 ?_; (case u1 => k_asm); (case u2 => k_asm); (case u3 => k_asm); (case u4 => exact fun p hp => N' p (by simpa using hp)); (case u5 => k_asm); (case u6 => first | exact rfl | assumption); (case u7 => ktr_room); (case u8 => ktr_units))
  rintro v5 led5 h5 tk5 F5 N5 ⟨D, q, r, u1, u2, c, tb3', tb7', hq, hr, hS3', hS7', o1, o2, o3⟩
  rw [List.append_nil] at N5
  (try k_fold)
  k_steps
  rename_i D9 h9 F9 N9 lD kF kN _ _
  have ap := RB'.apart N9
  have hD9 : ∀ p ∈ tb3' ++ tb7', p.1 < D9 := fun p hp => allLt_mem lD.2 p hp
  have kN' : News h₀ L h9 ((D9, pairObj (q) (-r) _ _ 0) :: (tb3' ++ tb7')) := fun p hp => kN p (by
    rcases List.mem_cons.mp hp with h | h
    · rw [h]; exact List.mem_cons_self
    · exact List.mem_cons_of_mem _ (List.mem_cons_of_mem _ h))
  exact hret _ (((D9, pairObj (q) (-r) _ _ 0) :: (tb3' ++ tb7')) ++ rest) _ _ (by k_asm) (back_news (by k_asm) kN' RB')
    ⟨D9, _, _, _, _, _, tb3', tb7', by rw [hq, Int.neg_fdiv_neg], by rw [hr, fmod_neg_neg], hS3', hS7', fun z hz hm => ap z hz (by
      rcases List.mem_cons.mp hm with h | h
      · exact List.mem_cons.mpr (.inl h)
      · exact List.mem_cons_of_mem _ (List.mem_cons_of_mem _ h)), o2, fun hm => by
        obtain ⟨p, hp, e⟩ := List.mem_map.mp hm
        exact absurd e (Nat.ne_of_lt (hD9 p hp))⟩
end Mine
end
section
set_option linter.unusedVariables false
set_option linter.unusedSimpArgs false
open PySem PySem.W PySem.Spec PySem.Calls PyProof.Rows
namespace Mine
/-- the lowest one of a number -/
def lo (x : Int) : Int := Builtin.bitAnd x (-x)
def zed (x : Int) : Int := Builtin.bitXor x (x + lo x)
def stepV (x : Int) : Int := Builtin.bitOr (x + lo x) (Builtin.bitNot ((zed x).fdiv (-4 * lo x)))
def stepR (x : Int) : Int := (zed x).fmod (-4 * lo x)
abbrev stepObj (a : Int) (b : Bool) (t : Tok) (n : Nat) : Obj := { cls := .type "tuple", data := .seq #[.int a t, .bool b] n }
local macro_rules | `(tactic| walk_at "call ref") => `(tactic| (k_here; refine wpAny_call ?_; k_dflt (refine' code_def ?k1 ?k2 ?k3 ?k4 ?k5 ?kA ?kF ?kK ?k6 ?k7 ?k8 ?k9 ?kB ?_ ?c2 ?c3 ?c4 ?c5; (case kA => exact rfl); (case kF => exact rfl); (case kK => first | exact rfl | assumption); (case k1 => k_asm); (case k2 => k_asm); (case k3 => k_asm); (case k4 => k_asm); (case k5 => k_asm); (case k6 => k_is); (case k7 => k_is); (case k8 => ktr_room); (case k9 => exact BindsTo.of_eq rfl); (case c5 => decide); (case kB => exact locs rfl); (case c2 => exact rfl); (case c3 => exact rfl); (case c4 => exact rfl); k_whole; intro g' L' h' FG' F' N' B' X' T'; (try dsimp only); (try k_lift B'); (try k_fold))))
local macro_rules | `(tactic| walk_at "call ref") => `(tactic| ((with_reducible show wpAny _ _ (call (Value.ref 56) _) _ _ _); refine Halt.out ?_))
/-- a step's pair, both tables grown -/
inductive PostT (a : Int) (b : Bool) (rest : List (Addr × Obj)) : Value → List (Addr × Obj) → Prop
  | mk (D : Addr) (u : Tok) (c : Nat) (tb3' tb7' : List (Addr × Obj)) (hS3 : TabSt 30 32 4 qual30 tb3') (hS7 : TabSt 37 47 4 qual37 tb7') (o1 : ∀ z ∈ rest, z.1 ∉ ((D, stepObj a b u c) :: (tb3' ++ tb7')).map (·.1)) (o2 : ∀ z ∈ tb7', z.1 ∉ tb3'.map (·.1)) (o3 : D ∉ (tb3' ++ tb7').map (·.1)) :
    PostT a b rest (.ref D) (((D, stepObj a b u c) :: (tb3' ++ tb7')) ++ rest)
set_option maxRecDepth 100000 in
set_option maxHeartbeats 8000000 in
theorem step_spec (w : World) (loose mean mg mb) (rest : List (Addr × Obj)) (tb3 tb7 : List (Addr × Obj)) (x : Int) (tx : Tok) (hS3 : TabSt 30 32 4 qual30 tb3) (hS7 : TabSt 37 47 4 qual37 tb7) (hoff7 : ∀ q ∈ tb7, q.1 ∉ tb3.map (·.1)) (hoff : ∀ q ∈ rest, q.1 ∉ (tb3 ++ tb7).map (·.1)) (hc0 : 0 < lo x) (hc1 : lo x < 2 ^ 60) (hz0 : -(2 ^ 64) < zed x) (hz1 : zed x < 2 ^ 64) :
    Claim0 w loose mean mg mb 148 120 800 ((tb3 ++ tb7) ++ rest) [.int x tx] (fun t0 t1 v led' => PostT (stepV x) (stepR x == -lo x) rest v led') := by
  unfold Claim0
  w_top off
  k_fill
  intro dp un gd cn cs a ccd cl outer A₀ base h₀ L m s Q E B F X N T hk hd hu hret
  refine wpAny_call ?_
  k_dflt (refine' code_defR ?k1 ?k2 ?k3 ?k4 ?kO ?k5 ?kA ?kF ?kK ?k6 ?k7 ?k8 ?k9 ?kB ?_ ?c2 ?c3 ?c4 ?c5; (case kA => exact rfl); (case kF => exact rfl); (case kK => assumption); (case k1 => k_asm); (case k2 => k_asm); (case k3 => k_asm); (case k4 => k_asm); (case kO => exact hoff); (case k5 => k_asm); (case k6 => k_is); (case k7 => k_is); (case k8 => ktr_room); (case k9 => exact BindsTo.of_eq rfl); (case c5 => decide); (case kB => exact locs rfl); (case c2 => exact rfl); (case c3 => exact rfl); (case c4 => exact rfl); k_whole; intro g' L' h' FG' F' N' B' X' T' RB' lR'; (try dsimp only); (try k_lift B'); (try k_fold))
  k_steps
  unfold Halt
  k_dflt (refine' Claim0.use (idm_neg_spec w loose mean mg mb [] tb3 tb7 (zed x) (-4 * lo x) _ _ hS3 hS7 hoff7 (fun _ h => nomatch h) hz0 hz1 (by lia) (by lia)) ?u1 ?u2 ?u3 ?u4 ?u5 ?u6 ?u7 ?u8 ?_; (case u1 => k_asm); (case u2 => k_asm); (case u3 => k_asm); (case u4 => exact fun p hp => (show News g' L' _ (tb3 ++ tb7) by k_asm) p (by simpa using hp)); (case u5 => k_asm); (case u6 => first | exact rfl | assumption); (case u7 => ktr_room); (case u8 => ktr_units))
  rintro v5 led5 h5 tk5 F5 N5 ⟨D, q, r, u1, u2, c, tb3', tb7', hq, hr, hS3', hS7', o1, o2, o3⟩
  subst hq
  subst hr
  rw [List.append_nil] at N5
  (try k_fold)
  k_steps
  rename_i D9 h9 F9 N9 lD kF kN _ _
  have ap := RB'.apart N9
  have hD9 : ∀ p ∈ tb3' ++ tb7', p.1 < D9 := fun p hp => allLt_mem lD.2 p hp
  have kN' : News h₀ L h9 ((D9, stepObj (stepV x) (stepR x == -lo x) _ 0) :: (tb3' ++ tb7')) := fun p hp => kN p (by
    rcases List.mem_cons.mp hp with h | h
    · rw [h]; exact List.mem_cons_self
    · exact List.mem_cons_of_mem _ (List.mem_cons_of_mem _ h))
  exact hret _ (((D9, stepObj (stepV x) (stepR x == -lo x) _ 0) :: (tb3' ++ tb7')) ++ rest) _ _ (by k_asm) (back_news (by k_asm) kN' RB')
    ⟨D9, _, _, tb3', tb7', hS3', hS7', fun z hz hm => ap z hz (by
      rcases List.mem_cons.mp hm with h | h
      · exact List.mem_cons.mpr (.inl h)
      · exact List.mem_cons_of_mem _ (List.mem_cons_of_mem _ h)), o2, fun hm => by
        obtain ⟨p, hp, e⟩ := List.mem_map.mp hm
        exact absurd e (Nat.ne_of_lt (hD9 p hp))⟩
end Mine
end
section
set_option linter.unusedVariables false
set_option linter.unusedSimpArgs false
open PySem PySem.W PySem.Spec PySem.Calls PyProof.Rows
namespace Mine
/-- the product of a place and those below it, and the turns -/
def pt (p : Int) : Nat → Int × Int
  | 0 => (p, -1)
  | j + 1 => ((pt p j).1 * (p - (1 + (j : Int))), (pt p j).2 * (1 + (j : Int) + 1))
/-- made pairs, as a list names them -/
inductive PairsIn (pr : List (Addr × Obj)) : List Value → List (Int × Int) → Prop
  | nil : PairsIn pr [] []
  | cons {D : Addr} {q r : Int} {u1 u2 : Tok} {c : Nat} {rs : List Value} {qs : List (Int × Int)} (h : (D, pairObj q r u1 u2 c) ∈ pr) (t : PairsIn pr rs qs) : PairsIn pr (.ref D :: rs) ((q, r) :: qs)
theorem PairsIn.more {pr pr' : List (Addr × Obj)} (hs : ∀ p ∈ pr, p ∈ pr') {rs : List Value} {qs : List (Int × Int)} (h : PairsIn pr rs qs) : PairsIn pr' rs qs := by
  induction h with
  | nil => exact .nil
  | cons h _ ih => exact .cons (hs _ h) ih
theorem PairsIn.snoc {pr : List (Addr × Obj)} {D : Addr} {q r : Int} {u1 u2 : Tok} {c : Nat} {rs : List Value} {qs : List (Int × Int)} (h : PairsIn pr rs qs) : PairsIn ((D, pairObj q r u1 u2 c) :: pr) (rs ++ [.ref D]) (qs ++ [(q, r)]) := by
  have key : ∀ {rs qs}, PairsIn pr rs qs → PairsIn ((D, pairObj q r u1 u2 c) :: pr) (rs ++ [.ref D]) (qs ++ [(q, r)]) := by
    intro rs qs h
    induction h with
    | nil => exact .cons List.mem_cons_self .nil
    | cons h _ ih => exact .cons (List.mem_cons_of_mem _ h) ih
  exact key h
theorem PairsIn.length {pr : List (Addr × Obj)} {rs : List Value} {qs : List (Int × Int)} (h : PairsIn pr rs qs) : rs.length = qs.length := by
  induction h with
  | nil => rfl
  | cons _ _ ih => simp [ih]
/-- what _law_parted makes -/
def partL (ps : List Int) (n : Nat) : List (Int × Int) := (List.range n).map fun k => ((pt (ps[k]?.getD 0) k).1.fdiv (pt (ps[k]?.getD 0) k).2, (pt (ps[k]?.getD 0) k).1.fmod (pt (ps[k]?.getD 0) k).2)
theorem partL_succ (ps : List Int) (n : Nat) : partL ps (n + 1) = partL ps n ++ [((pt (ps[n]?.getD 0) n).1.fdiv (pt (ps[n]?.getD 0) n).2, (pt (ps[n]?.getD 0) n).1.fmod (pt (ps[n]?.getD 0) n).2)] := by
  simp [partL, List.range_succ]
theorem but4 {m M : Str → Option Value} {x₁ x₂ x₃ x₄ : Str} (h : ∀ y, y ≠ x₁ → y ≠ x₂ → y ≠ x₃ → y ≠ x₄ → m y = M y) : ∃ u₁ u₂ u₃ u₄, m = fun y => if y = x₁ then u₁ else if y = x₂ then u₂ else if y = x₃ then u₃ else if y = x₄ then u₄ else M y := by
  refine ⟨m x₁, m x₂, m x₃, m x₄, ?_⟩
  funext y
  by_cases h1 : y = x₁
  · rw [if_pos h1, h1]
  · rw [if_neg h1]
    by_cases h2 : y = x₂
    · rw [if_pos h2, h2]
    · rw [if_neg h2]
      by_cases h3 : y = x₃
      · rw [if_pos h3, h3]
      · rw [if_neg h3]
        by_cases h4 : y = x₄
        · rw [if_pos h4, h4]
        · rw [if_neg h4]
          exact h y h1 h2 h3 h4
theorem start3v {M : Str → Option Value} {x₁ x₂ x₃ : Str} : M = fun y => if y = x₁ then M x₁ else if y = x₂ then M x₂ else if y = x₃ then M x₃ else M y := by
  funext y
  by_cases h1 : y = x₁
  · rw [if_pos h1, h1]
  · rw [if_neg h1]
    by_cases h2 : y = x₂
    · rw [if_pos h2, h2]
    · rw [if_neg h2]
      by_cases h3 : y = x₃
      · rw [if_pos h3, h3]
      · rw [if_neg h3]
theorem news_tail {h₀ h : Heap} {L : Addr} {x : Addr × Obj} {r : List (Addr × Obj)} (N : News h₀ L h (x :: r)) : News h₀ L h r := fun p hp => N p (List.mem_cons_of_mem _ hp)
theorem rangeSize_one (n : Nat) : Builtin.Range.rangeSize 1 (1 + (n : Int)) 1 = (n : Int) := by
  unfold Builtin.Range.rangeSize
  simp
  lia
theorem intBits_abs {x : Int} {k : Nat} (h0 : -(2 ^ k) < x) (h : x < 2 ^ k) : Builtin.Int.intBits x ≤ k := by
  rcases Int.le_total 0 x with hx | hx
  · exact intBits_le hx h
  · have e : Builtin.Int.intBits x = Builtin.Int.intBits (-x) := by
      unfold Builtin.Int.intBits
      rw [Int.natAbs_neg]
      by_cases h0 : x = 0
      · subst h0; rfl
      · rw [if_neg (by simpa using h0), if_neg (by simpa using h0)]
    rw [e]
    exact intBits_le (by lia) (by lia)
theorem toNat0 (i : Nat) : (0 + (i : Int)).toNat = i := by lia
local macro_rules | `(tactic| walk_at "call ref") => `(tactic| (k_here; refine wpAny_call ?_; k_dflt (refine' code_def ?k1 ?k2 ?k3 ?k4 ?k5 ?kA ?kF ?kK ?k6 ?k7 ?k8 ?k9 ?kB ?_ ?c2 ?c3 ?c4 ?c5; (case kA => exact rfl); (case kF => exact rfl); (case kK => first | exact rfl | assumption); (case k1 => k_asm); (case k2 => k_asm); (case k3 => k_asm); (case k4 => k_asm); (case k5 => k_asm); (case k6 => k_is); (case k7 => k_is); (case k8 => ktr_room); (case k9 => exact BindsTo.of_eq rfl); (case c5 => decide); (case kB => exact locs rfl); (case c2 => exact rfl); (case c3 => exact rfl); (case c4 => exact rfl); k_whole; intro g' L' h' FG' F' N' B' X' T'; (try dsimp only); (try k_lift B'); (try k_fold))))
local macro_rules | `(tactic| walk_at "call ref") => `(tactic| ((with_reducible show wpAny _ _ (call (Value.ref 56) _) _ _ _); refine Halt.out ?_))

local macro_rules | `(tactic| walk_at "binaryOp Mult int int") => `(tactic| refine Halt.out ?_)
local macro_rules | `(tactic| walk_at "exec For Name Call cons nil") => `(tactic| refine Halt.out ?_)
/-- a list of pairs, both tables grown -/
inductive PostP (a : Addr × Obj) (qs : List (Int × Int)) (rest : List (Addr × Obj)) : Value → List (Addr × Obj) → Prop
  | mk (P : Addr) (rs : List Value) (cp : Nat) (pr tb3' tb7' : List (Addr × Obj)) (hS3 : TabSt 30 32 4 qual30 tb3') (hS7 : TabSt 37 47 4 qual37 tb7') (hp : PairsIn pr rs qs)
      (o1 : ∀ z ∈ rest, z.1 ∉ ((P, W.listOf rs.toArray cp) :: a :: (pr ++ (tb3' ++ tb7'))).map (·.1)) (o2 : ∀ z ∈ tb7', z.1 ∉ tb3'.map (·.1)) (o3 : ∀ z ∈ (P, W.listOf rs.toArray cp) :: a :: pr, z.1 ∉ (tb3' ++ tb7').map (·.1)) :
    PostP a qs rest (.ref P) (((P, W.listOf rs.toArray cp) :: a :: (pr ++ (tb3' ++ tb7'))) ++ rest)
/-- between the turns -/
inductive JPart (q l : Addr) (vs : List Value) (c : Nat) (ps : List Int) (M : Str → Option Value) (i : Nat) (m : Str → Option Value) : List (Addr × Obj) → Prop
  | mk (rs : List Value) (cq : Nat) (pr tbx tby : List (Addr × Obj)) (hSx : TabSt 30 32 4 qual30 tbx) (hSy : TabSt 37 47 4 qual37 tby) (hp : PairsIn pr rs (partL ps i)) (o7 : ∀ z ∈ tby, z.1 ∉ tbx.map (·.1))
      (o8 : ∀ z ∈ (q, W.listOf rs.toArray cq) :: (l, W.listOf vs.toArray c) :: pr, z.1 ∉ (tbx ++ tby).map (·.1)) (o9 : ∀ z ∈ pr, z.1 ≠ q)
      (hm : ∀ y, y ≠ Str.ofString "k" → y ≠ Str.ofString "turns" → y ≠ Str.ofString "product" → y ≠ Str.ofString "j" → m y = M y) :
    JPart q l vs c ps M i m ((q, W.listOf rs.toArray cq) :: (l, W.listOf vs.toArray c) :: (pr ++ (tbx ++ tby)))
set_option maxRecDepth 100000 in
set_option maxHeartbeats 8000000 in
theorem parted_spec (w : World) (loose mean mg mb) (rest : List (Addr × Obj)) (tb3 tb7 : List (Addr × Obj)) (l : Addr) (vs : List Value) (ps : List Int) (c : Nat) (hS3 : TabSt 30 32 4 qual30 tb3) (hS7 : TabSt 37 47 4 qual37 tb7) (hoff7 : ∀ q ∈ tb7, q.1 ∉ tb3.map (·.1)) (hl : l ∉ (tb3 ++ tb7).map (·.1)) (hoff : ∀ q ∈ rest, q.1 ∉ ((l, W.listOf vs.toArray c) :: (tb3 ++ tb7)).map (·.1)) (hi : IntsAre vs ps) (hn : ps.length ≤ 900) (hp : ∀ p ∈ ps, 0 ≤ p ∧ p ≤ 1000) (hb : ∀ k p, ps[k]? = some p → -(2 ^ 64) < (pt p k).1 ∧ (pt p k).1 < 2 ^ 64 ∧ (pt p k).2 < 0 ∧ -(2 ^ 64) < (pt p k).2) :
    Claim0 w loose mean mg mb 167 120 800 (((l, W.listOf vs.toArray c) :: (tb3 ++ tb7)) ++ rest) [.ref l] (fun t0 t1 v led' => PostP (l, W.listOf vs.toArray c) (partL ps ps.length) rest v led') := by
  unfold Claim0
  w_top off
  k_fill
  intro dp un gd cn cs a ccd cl outer A₀ base h₀ L m s Q E B F X N T hk hd hu hret
  refine wpAny_call ?_
  k_dflt (refine' code_defR ?k1 ?k2 ?k3 ?k4 ?kO ?k5 ?kA ?kF ?kK ?k6 ?k7 ?k8 ?k9 ?kB ?_ ?c2 ?c3 ?c4 ?c5; (case kA => exact rfl); (case kF => exact rfl); (case kK => assumption); (case k1 => k_asm); (case k2 => k_asm); (case k3 => k_asm); (case k4 => k_asm); (case kO => exact hoff); (case k5 => k_asm); (case k6 => k_is); (case k7 => k_is); (case k8 => ktr_room); (case k9 => exact BindsTo.of_eq rfl); (case c5 => decide); (case kB => exact locs rfl); (case c2 => exact rfl); (case c3 => exact rfl); (case c4 => exact rfl); k_whole; intro g' L' h' FG' F' N' B' X' T' RB' lR'; (try dsimp only); (try k_lift B'); (try k_fold))
  k_steps
  unfold Halt
  refine wpAny_For ?_
  k_steps
  rename_i q hq0 ltq hq1 Fq Nq h3 tk2 a2 b2 c2 R2 F2 N2 K2
  have hql : @LT.lt Nat _ l q := ltq.1
  have hqt : ∀ p ∈ tb3 ++ tb7, p.1 < q := allLt_mem ltq.2
  clear Nq Fq K2
  refine loopM_range (n := ps.length) (led := (q, W.listOf #[] 0) :: (l, W.listOf vs.toArray c) :: (tb3 ++ tb7)) rfl R2 (small_one (by lia) (by lia) (by lia) (by lia)) (by first | exact rangeSize_nat _ _ | rfl) F2 N2
    (fun M i tk m led => JPart q l vs c ps M i m led)
    ⟨[], 0, [], tb3, tb7, hS3, hS7, .nil, hoff7, ?h1, (fun z hz => nomatch hz), fun _ _ _ _ _ => rfl⟩ ?turn ?done rfl rfl ?hE
  case h1 =>
    intro z hz hm
    rcases List.mem_cons.mp hz with rfl | hz
    · obtain ⟨p, hp, e⟩ := List.mem_map.mp hm
      exact absurd e (Nat.ne_of_lt (hqt p hp))
    · rw [List.mem_singleton.mp hz] at hm
      exact hl hm
  case turn =>
    intro i t tk₀ m₁ led₁ h tk I own hin htk hJ hnw hlive hown F₁ N₁
    obtain ⟨rs, cq, pr, tbx, tby, hSx, hSy, hpr, ho7, ho8, ho9, hm⟩ := hJ
    obtain ⟨u1, u2, u3, u4, rfl⟩ := but4 hm
    clear hm
    have hqI : @Ne Nat q I := hnw (q, _) List.mem_cons_self
    have hlI : @Ne Nat l I := hnw (l, _) (List.mem_cons_of_mem _ List.mem_cons_self)
    obtain ⟨tl, htl⟩ : ∃ tl, tl = pr ++ (tbx ++ tby) := ⟨_, rfl⟩
    rw [← htl] at N₁ hnw
    simp only [List.cons_append] at N₁
    (try k_fold)
    have hO : OwnOff (tl ++ own) [q] := fun p hp b hb => by
      rw [List.mem_singleton.mp hb]
      rcases List.mem_append.mp hp with hp | hp
      · rw [htl] at hp
        rcases List.mem_append.mp hp with hp | hp
        · exact ho9 p hp
        · intro e
          exact ho8 _ List.mem_cons_self (List.mem_map.mpr ⟨p, hp, e⟩)
      · rw [hown p hp]; exact Ne.symm hqI
    k_steps
    unfold Halt
    refine wpAny_For ?_
    k_steps
    rename_i h5 tk5 a5 b5 c5 R5 F5 N5 K5
    clear K5
    have N5' := news_tail N5
    clear N5
    have hpi : ps[i]? = some (ps[i]?.getD 0) := by rw [List.getElem?_eq_getElem hin]; rfl
    have hbi := hb i _ hpi
    rw [List.getD_eq_getElem?_getD, toNat0] at F5
    generalize hpp : ps[i]?.getD 0 = p at *
    refine loopM_range (a₀ := 1) (b₀ := 0 + (i : Int) + 1) (n := i) (led := (q, W.listOf rs.toArray cq) :: (l, W.listOf vs.toArray c) :: (tl ++ own)) rfl R5 (small_one (by lia) (by lia) (by lia) (by lia)) (by rw [show (0 : Int) + (i : Int) + 1 = 1 + (i : Int) by lia]; exact rangeSize_one i) F5 N5'
      (fun M j tk m led => ∃ v1 v2 u t1 t2, led = (q, W.listOf rs.toArray cq) :: (l, W.listOf vs.toArray c) :: (tl ++ own) ∧ (m = fun y => if y = Str.ofString "product" then v1 else if y = Str.ofString "turns" then v2 else if y = Str.ofString "j" then u else M y) ∧ v1 = some (.int (pt p j).1 t1) ∧ v2 = some (.int (pt p j).2 t2))
      ⟨_, _, _, _, _, rfl, start3v, rfl, rfl⟩ ?turn2 ?done2 rfl rfl ?hE2
    case turn2 =>
      intro j tj tk₀ m₁ led₁ h tk I2 own2 hj htk hJ hnw2 hlive2 hown2 F₂ N₂
      obtain ⟨_, _, u, t1, t2, rfl, rfl, rfl, rfl⟩ := hJ
      simp only [List.cons_append] at N₂
      (try k_fold)
      have hp5 : 0 ≤ p ∧ p ≤ 1000 := hp _ (List.mem_of_getElem? hpi)
      k_steps
      unfold Halt
      rw [List.getD_eq_getElem?_getD, toNat0, hpp]
      refine mul_int ?_ (IntMulOk.of_right (intBits_abs (k := 64) (by lia) (by lia)))
      k_steps
      unfold Halt
      refine mul_int ?_ (IntMulOk.of_right (intBits_abs (k := 64) (by lia) (by lia)))
      k_steps
      refine' EndM.intro (by k_asm) (by k_asm) mem_skip mem_skip_own hnw2 ⟨_, _, _, _, _, rfl, step3, rfl, rfl⟩
    case done2 =>
      intro h tk₀ tk m₁ led₁ htk hJ F₂ N₂
      obtain ⟨_, _, u, t1, t2, rfl, rfl, rfl, rfl⟩ := hJ
      (try k_fold)
      k_steps
      unfold Halt
      have hrest : ∀ z ∈ (q, W.listOf rs.toArray cq) :: (l, W.listOf vs.toArray c) :: (pr ++ own), z.1 ∉ (tbx ++ tby).map (·.1) := by
        intro z hz
        rcases List.mem_cons.mp hz with rfl | hz
        · exact ho8 _ List.mem_cons_self
        · rcases List.mem_cons.mp hz with rfl | hz
          · exact ho8 _ (List.mem_cons_of_mem _ List.mem_cons_self)
          · rcases List.mem_append.mp hz with hz | hz
            · exact ho8 _ (List.mem_cons_of_mem _ (List.mem_cons_of_mem _ hz))
            · intro hm
              obtain ⟨z', hz', e⟩ := List.mem_map.mp hm
              exact hnw z' (List.mem_cons_of_mem _ (List.mem_cons_of_mem _ (htl ▸ List.mem_append_right _ hz'))) (e.trans (hown z hz))
      k_dflt (refine' Claim0.use (idm_neg_spec w loose mean mg mb ((q, W.listOf rs.toArray cq) :: (l, W.listOf vs.toArray c) :: (pr ++ own)) tbx tby (pt p i).1 (pt p i).2 _ _ hSx hSy ho7 hrest hbi.1 hbi.2.1 hbi.2.2.1 hbi.2.2.2) ?u1 ?u2 ?u3 ?u4 ?u5 ?u6 ?u7 ?u8 ?_; (case u1 => k_asm); (case u2 => k_asm); (case u3 => k_asm); (case u4 => exact fun z hz => N₂ z (by subst htl; simp only [List.cons_append, List.mem_cons, List.mem_append] at hz ⊢; rcases hz with (h | h) | h | h | h | h <;> simp [h])); (case u5 => k_asm); (case u6 => first | exact rfl | assumption); (case u7 => ktr_room); (case u8 => ktr_units))
      rintro v6 led6 h6 tk6 F6 N6 ⟨D, qq, rr, w1, w2, cD, tbx', tby', hqq, hrr, hSx', hSy', o1, o2, o3⟩
      have hqD : @Ne Nat q D := fun e => o1 (q, _) List.mem_cons_self (by simp [e])
      have hO6 : OwnOff ((pr ++ own) ++ (tbx' ++ tby')) [q] := fun p hp b hb => by
        rw [List.mem_singleton.mp hb]
        rcases List.mem_append.mp hp with hp | hp
        · rcases List.mem_append.mp hp with hp | hp
          · exact ho9 p hp
          · rw [hown p hp]; exact Ne.symm hqI
        · intro e
          exact o1 (q, _) List.mem_cons_self (List.mem_cons_of_mem _ (List.mem_map.mpr ⟨p, hp, e⟩))
      have N6' : News g' _ h6 ((q, W.listOf rs.toArray cq) :: (D, pairObj qq rr w1 w2 cD) :: (l, W.listOf vs.toArray c) :: ((pr ++ own) ++ (tbx' ++ tby'))) := fun z hz => N6 z (by
        simp only [List.cons_append, List.mem_cons, List.mem_append] at hz ⊢
        rcases hz with h | h | h | ((h | h) | (h | h)) <;> simp [h])
      clear N6
      (try k_fold)
      have hrl : rs.length ≤ 900 := by
        have h1 := hpr.length
        have h2 : (partL ps i).length = i := by simp [partL]
        lia
      k_steps
      rename_i h7 F7 N7
      simp only [List.push_toArray] at N7
      refine' EndM.intro (by k_asm) N7 ?m1 ?m2 ?m3 ⟨rs ++ [.ref D], cq + 1, (D, pairObj qq rr w1 w2 cD) :: pr, tbx', tby', hSx', hSy', ?m4, o2, ?m5, ?m6, ?m7⟩
      case m1 =>
        intro z hz
        simp only [List.cons_append, List.mem_cons, List.mem_append] at hz ⊢
        rcases hz with h | h | h | h | h | h <;> simp [h]
      case m2 =>
        intro z hz
        simp only [List.cons_append, List.mem_cons, List.mem_append]
        simp [hz]
      case m3 =>
        have hDI : ∀ z ∈ own, z.1 ≠ D ∧ z.1 ∉ (tbx' ++ tby').map (·.1) := fun z hz => by
          have := o1 z (List.mem_cons_of_mem _ (List.mem_cons_of_mem _ (List.mem_append_right _ hz)))
          exact ⟨fun e => this (by simp [e]), fun hm => this (List.mem_cons_of_mem _ hm)⟩
        obtain ⟨it, hit⟩ := hlive
        have hDI' := hDI _ hit
        intro z hz
        rcases List.mem_cons.mp hz with rfl | hz
        · exact hqI
        · rcases List.mem_cons.mp hz with rfl | hz
          · exact hlI
          · rcases List.mem_append.mp hz with hz | hz
            · rcases List.mem_cons.mp hz with rfl | hz
              · exact fun e => hDI'.1 e.symm
              · exact hnw z (List.mem_cons_of_mem _ (List.mem_cons_of_mem _ (htl ▸ List.mem_append_left _ hz)))
            · intro e
              exact hDI'.2 (List.mem_map.mpr ⟨z, hz, e⟩)
      case m4 =>
        rw [partL_succ, hpp, ← hqq, ← hrr]
        exact hpr.snoc
      case m5 =>
        intro z hz
        rcases List.mem_cons.mp hz with rfl | hz
        · exact fun hm => o1 (q, _) List.mem_cons_self (List.mem_cons_of_mem _ hm)
        · rcases List.mem_cons.mp hz with rfl | hz
          · exact fun hm => o1 (l, _) (List.mem_cons_of_mem _ List.mem_cons_self) (List.mem_cons_of_mem _ hm)
          · rcases List.mem_cons.mp hz with rfl | hz
            · exact o3
            · exact fun hm => o1 z (List.mem_cons_of_mem _ (List.mem_cons_of_mem _ (List.mem_append_left _ hz))) (List.mem_cons_of_mem _ hm)
      case m6 =>
        intro z hz
        rcases List.mem_cons.mp hz with rfl | hz
        · exact Ne.symm hqD
        · exact ho9 z hz
      case m7 =>
        intro y h1 h2 h3 h4
        simp only [if_neg h1, if_neg h2, if_neg h3, if_neg h4]
    case hE2 => passes_own
  case done =>
    intro h tk₀ tk m₁ led₁ htk hJ F₁ N₁
    obtain ⟨rs, cq, pr, tbx, tby, hSx, hSy, hpr, ho7, ho8, ho9, hm⟩ := hJ
    obtain ⟨u1, u2, u3, u4, rfl⟩ := but4 hm
    (try k_fold)
    k_steps
    rename_i kF kN _ _
    have ap := RB'.apart N₁
    exact hret _ (((q, W.listOf rs.toArray cq) :: (l, W.listOf vs.toArray c) :: (pr ++ (tbx ++ tby))) ++ rest) _ _ (by k_asm) (back_news (by k_asm) kN RB')
      ⟨q, rs, cq, pr, tbx, tby, hSx, hSy, hpr, ap, ho7, ho8⟩
  case hE => passes_own
end Mine
end
section
set_option linter.unusedVariables false
set_option linter.unusedSimpArgs false
open PySem PySem.W PySem.Spec PySem.Calls PyProof.Rows
namespace Mine
local macro_rules | `(tactic| walk_at "none 0") => `(tactic| skip)
theorem noneBooked_of {w : World} {h : Heap} (X : (hk.heap_1 w.params).In h) : NoneBooked h := by
  have e : (hk.heap_1 w.params).lookup 2 = some { cls := Value.none, data := Data.dict #[] } := by rfl
  refine ⟨fun _ => none, ⟨_, #[], 0, X 2 _ e, rfl, ?_, ?_⟩, rfl⟩
  · intro e he; simp at he
  · intro x; rfl
theorem news_head {h₀ h : Heap} {L : Addr} {x : Addr × Obj} {r : List (Addr × Obj)} (N : News h₀ L h (x :: r)) : News h₀ L h [x] := fun p hp => N p (by rw [List.mem_singleton.mp hp]; exact List.mem_cons_self)
theorem strs_get {vs : List Value} {ys : List Str} (h : StrsAre vs ys) : ∀ {i : Nat} {v : Value}, vs[i]? = some v → ∃ y t, v = .str y t ∧ ys[i]? = some y := by
  induction h with
  | nil => intro i v hv; simp at hv
  | cons y t _ ih =>
    intro i v hv
    cases i with
    | zero => simp at hv; subst hv; exact ⟨y, t, rfl, by simp⟩
    | succ i => simp at hv; obtain ⟨y', t', e1, e2⟩ := ih hv; exact ⟨y', t', e1, by simpa using e2⟩
local macro_rules | `(tactic| walk_at "exec For Tuple Call cons cons") => `(tactic| refine Halt.out ?_)
local macro_rules | `(tactic| walk_at "call type:enumerate ref") => `(tactic| refine Halt.out ?_)
local macro_rules | `(tactic| walk_at "call type:enumerate") => `(tactic| refine Halt.out ?_)
local macro_rules | `(tactic| walk_at "compareOp Is str str") => `(tactic| refine Halt.out ?_)
set_option maxRecDepth 100000 in
set_option maxHeartbeats 8000000 in
theorem index_spec (w : World) (loose mean mg mb) (rest : List (Addr × Obj)) (l : Addr) (vs : List Value) (c : Nat) (p : Nat) (tw : Tok) (t1 : Nat) (hoff : ∀ q ∈ rest, q.1 ≠ l) (hst : StrsAre vs WORDS) (hp : p < 32) (ht : TokIn 1 t1 vs) (htw : t1 ≤ tw) :
    Claim0 w loose mean mg mb 134 1 20 ([(l, W.listOf vs.toArray c)] ++ rest) [.ref l, .str (wordAt p) tw] (fun t0 t1 v led' => PostI (p : Int) ([(l, W.listOf vs.toArray c)] ++ rest) v led') := by
  unfold Claim0
  w_top off
  k_fill
  intro dp un gd cn cs a ccd cl outer A₀ base h₀ L m s Q E B F X N T hk hd hu hret
  refine wpAny_call ?_
  k_dflt (refine' code_defR ?k1 ?k2 ?k3 ?k4 ?kO ?k5 ?kA ?kF ?kK ?k6 ?k7 ?k8 ?k9 ?kB ?_ ?c2 ?c3 ?c4 ?c5; (case kA => exact rfl); (case kF => exact rfl); (case kK => assumption); (case k1 => k_asm); (case k2 => k_asm); (case k3 => k_asm); (case k4 => k_asm); (case kO => (intro q hq; simpa using hoff q hq)); (case k5 => k_asm); (case k6 => k_is); (case k7 => k_is); (case k8 => ktr_room); (case k9 => exact BindsTo.of_eq rfl); (case c5 => decide); (case kB => exact locs rfl); (case c2 => exact rfl); (case c3 => exact rfl); (case c4 => exact rfl); k_whole; intro g' L' h' FG' F' N' B' X' T' RB' lR'; (try dsimp only); (try k_lift B'); (try k_fold))
  k_steps
  unfold Halt
  refine wpAny_For ?_
  k_steps
  unfold Halt
  have hbk := noneBooked_of X'
  refine loopM_enum (l := l) (vs := vs) (c := c) (led := [(l, W.listOf vs.toArray c)]) rfl (by k_mem) (by k_asm) (by k_asm) (fun i => i ≤ p) (Nat.zero_le _) ?turn ?done rfl rfl (by decide) rfl (by passes_own)
  case turn =>
    intro i v t h tk own hi htk hJ F₁ N₁
    simp only [List.cons_append, List.nil_append] at N₁
    obtain ⟨y, ty, rfl, hy⟩ := strs_get hst hi
    have hi32 : i < 32 := by
      have := hst.length
      rw [WORDS_length] at this
      have h2 : i < vs.length := by
        rcases Nat.lt_or_ge i vs.length with h | h
        · exact h
        · rw [List.getElem?_eq_none h] at hi; cases hi
      lia
    rw [WORDS_get hi32] at hy
    cases hy
    have htok : @LE.le Nat _ 1 ty ∧ @LT.lt Nat _ ty t1 := ht _ (List.mem_of_getElem? hi)
    have hbk' : NoneBooked h := noneBooked_of (Frag.In.keeps X' F₁.keep)
    (try k_fold)
    k_steps
    unfold Halt
    have n1 : @Ne Nat ty 0 := by lia
    have n2 : @Ne Nat tw 0 := by have := htok.1; have := htok.2; exact Nat.ne_of_gt (Nat.lt_of_lt_of_le (Nat.lt_of_lt_of_le Nat.zero_lt_one htok.1) (Nat.le_trans (Nat.le_of_lt htok.2) htw))
    have n3 : @Ne Nat ty tw := Nat.ne_of_lt (Nat.lt_of_lt_of_le htok.2 htw)
    refine is_str n1 n2 hbk' (fun _ => n3) ?_
    intro r hr
    by_cases hip : i = p
    · subst hip
      cases r with
      | true =>
        k_steps
        unfold PostE
        dsimp only
        k_steps
        rename_i kF kN _ _
        exact hret _ ([(l, W.listOf vs.toArray c)] ++ rest) _ _ (by k_asm) (back_news (by k_asm) (news_head kN) RB') ⟨_⟩
      | false =>
        k_steps
        · unfold PostE
          dsimp only
          k_steps
          rename_i kF kN _ _
          exact hret _ ([(l, W.listOf vs.toArray c)] ++ rest) _ _ (by k_asm) (back_news (by k_asm) (news_head kN) RB') ⟨_⟩
        · rename_i hq
          exact absurd hq (by simp)
    · have hne : wordAt i ≠ wordAt p := fun e => hip (wordAt_inj i hi32 p hp e)
      have hr' : r = false := by
        cases r with
        | true => exact absurd (hr rfl) hne
        | false => rfl
      subst hr'
      k_steps
      · rename_i hq
        exact absurd (by simpa using hq) hne
      · exact ⟨_, _, rfl, by k_asm, by k_asm, by lia⟩
  case done =>
    intro h tk m' htk hJ F₁ N₁
    exfalso
    have := hst.length
    rw [WORDS_length] at this
    lia
end Mine
end
section
set_option linter.unusedVariables false
set_option linter.unusedSimpArgs false
open PySem PySem.W PySem.Spec PySem.Calls PyProof.Rows
namespace Mine
/-- what _law_choices reckons -/
def chs (place : Int) (n : Nat) : Int := (List.foldl (fun (σ : Int × Unit) k => ((σ.fst * (place - k)).fdiv (k + 1), ())) (1, ()) (rangeInts 0 1 n)).fst
set_option maxRecDepth 100000 in
set_option maxHeartbeats 8000000 in
theorem choices_spec (w : World) (loose mean mg mb) (rest : List (Addr × Obj)) (place many : Int) (t1 t2 : Tok) (h0 : 0 ≤ place) (h1 : place ≤ 1000) (h2 : 0 ≤ many) (h3 : many ≤ 1000) :
    Claim0 w loose mean mg mb 155 1 8 ([] ++ rest) [.int place t1, .int many t2] (fun t0 t1 v led' => PostI (chs place many.toNat) (rest) v led') := by
  unfold Claim0
  w_top off
  k_fill
  intro dp un gd cn cs a ccd cl outer A₀ base h₀ L m s Q E B F X N T hk hd hu hret
  refine wpAny_call ?_
  k_dflt (refine' code_defR ?k1 ?k2 ?k3 ?k4 ?kO ?k5 ?kA ?kF ?kK ?k6 ?k7 ?k8 ?k9 ?kB ?_ ?c2 ?c3 ?c4 ?c5; (case kA => exact rfl); (case kF => exact rfl); (case kK => assumption); (case k1 => k_asm); (case k2 => k_asm); (case k3 => k_asm); (case k4 => k_asm); (case kO => exact off_nil); (case k5 => k_asm); (case k6 => k_is); (case k7 => k_is); (case k8 => ktr_room); (case k9 => exact BindsTo.of_eq rfl); (case c5 => decide); (case kB => exact locs rfl); (case c2 => exact rfl); (case c3 => exact rfl); (case c4 => exact rfl); k_whole; intro g' L' h' FG' F' N' B' X' T' RB' lR'; (try dsimp only); (try k_lift B'); (try k_fold))
  k_steps
  exact hret _ ([] ++ rest) _ _ (by k_asm) (back_news (by k_asm) (by k_asm) RB') (PostI.of (by rw [Int.sub_zero]; rfl))
end Mine
end
section
set_option linter.unusedVariables false
set_option linter.unusedSimpArgs false
open PySem PySem.W PySem.Spec PySem.Calls PyProof.Rows
namespace Mine
/-- what _law_rank reckons -/
def rankTs (ps : List Int) (n : Nat) : List Int := (List.range n).map fun k => chs (ps[k]?.getD 0) (k + 1)
def rankV (ps : List Int) : Int := (rankTs ps ps.length).sum
theorem rankTs_succ (ps : List Int) (n : Nat) : rankTs ps (n + 1) = rankTs ps n ++ [chs (ps[n]?.getD 0) (n + 1)] := by
  simp [rankTs, List.range_succ]
theorem toNat_zero_add (i : Nat) : (0 + (i : Int)).toNat = i := by lia
theorem toNat_zero_add1 (i : Nat) : (0 + (i : Int) + 1).toNat = i + 1 := by lia
theorem getD_mem {ps : List Int} {i : Nat} (h : i < ps.length) : ps[i]?.getD 0 ∈ ps := by
  rw [List.getElem?_eq_getElem h]; exact List.getElem_mem h
local macro_rules | `(tactic| walk_at "call ref") => `(tactic| ((with_reducible show wpAny _ _ (call (Value.ref 155) _) _ _ _); refine Halt.out ?_))

local macro_rules | `(tactic| walk_at "eval ListComp") => `(tactic| refine Halt.out ?_)
local macro_rules | `(tactic| walk_at "CompSrc") => `(tactic| refine Halt.out ?_)
local macro_rules | `(tactic| walk_at "CompEnd") => `(tactic| refine Halt.out ?_)
set_option maxRecDepth 100000 in
set_option maxHeartbeats 8000000 in
theorem rank_spec (w : World) (loose mean mg mb) (rest : List (Addr × Obj)) (l : Addr) (vs : List Value) (ps : List Int) (c : Nat) (hoff : ∀ q ∈ rest, q.1 ≠ l) (hi : IntsAre vs ps) (hp : ∀ p ∈ ps, 0 ≤ p ∧ p ≤ 1000) (hn : ps.length ≤ 900) :
    Claim0 w loose mean mg mb 160 2 40 ([(l, W.listOf vs.toArray c)] ++ rest) [.ref l] (fun t0 t1 v led' => PostI (rankV ps) ([(l, W.listOf vs.toArray c)] ++ rest) v led') := by
  unfold Claim0
  w_top off
  k_fill
  intro dp un gd cn cs a ccd cl outer A₀ base h₀ L m s Q E B F X N T hk hd hu hret
  refine wpAny_call ?_
  k_dflt (refine' code_defCR ?k1 ?k2 ?k3 ?k4 ?kO ?k5 ?kA ?kF ?kK ?k6 ?k7 ?k8 ?k9 ?kB ?kD ?_ ?c2 ?c3 ?c4; (case kA => exact rfl); (case kF => exact rfl); (case kK => assumption); (case k1 => k_asm); (case k2 => k_asm); (case k3 => k_asm); (case k4 => k_asm); (case kO => (intro q hq; simpa using hoff q hq)); (case k5 => k_asm); (case k6 => k_is); (case k7 => k_is); (case k8 => ktr_room); (case k9 => exact BindsTo.of_eq rfl); (case kB => exact rfl); (case kD => decide +kernel); (case c2 => exact rfl); (case c3 => exact rfl); (case c4 => exact rfl); k_whole; intro g' L' h' tk' cells' FG' F' N' Y' B' X' T' RB' lR'; (try k_lt lR'); k_cells Y'; (try simp only [List.cons_append, List.nil_append] at N'); (try dsimp only); (try k_lift B'); (try k_fold))
  k_steps
  unfold Halt
  k_dflt (refine LCg.ListComp_U (F₀ := by k_asm) (by with_unfolding_all rfl) (by decide) (by rfl) (by decide) (by rfl) ?_)
  k_steps
  unfold Halt
  refine LCg.CompSrc.range (n := ps.length) (by rfl) (by k_asm) (by k_asm) (by assumption) (small_one (by lia) (by lia) (by lia) (by lia)) (by first | exact rangeSize_nat _ _ | rfl) (by rw [PySem.sizeLine_eq]; lia) ?_
  intro gg
  refine compJ (fun i ys nw => nw = _ ∧ IntsAre ys (rankTs ps i)) ⟨rfl, .nil⟩ ?turn ?done
  case turn =>
    intro i v I oI C oC D m₂ ys nw h tk E' hin hv hJ hC hx F₁ N₁ off ne
    obtain ⟨rfl, hys⟩ := hJ
    obtain ⟨t, rfl⟩ := hv
    have off₀ := off
    (try simp only [LCg.Off3, and_true] at off)
    k_steps
    unfold Halt
    rw [List.getD_eq_getElem?_getD, toNat_zero_add]
    have hpi := hp _ (getD_mem hin)
    k_dflt (refine' Claim0.use (choices_spec w loose mean mg mb _ _ (0 + (i : Int) + 1) _ _ (by exact hpi.1) (by exact hpi.2) (by lia) (by lia)) ?u1 ?u2 ?u3 ?u4 ?u5 ?u6 ?u7 ?u8 ?_; (case u1 => k_asm); (case u2 => k_asm); (case u3 => k_asm); (case u4 => k_asm); (case u5 => k_asm); (case u6 => first | exact rfl | assumption); (case u7 => ktr_room); (case u8 => ktr_units))
    rintro v5 led5 h5 tk5 F5 N5 ⟨t5⟩
    rw [toNat_zero_add1]
    k_steps
    unfold Halt
    refine LCg.CompEnd.intro (by k_asm) (by k_asm) _ (fun p hp => hp) off₀ trivial ⟨rfl, ?_⟩
    rw [rankTs_succ]
    exact IntsAre.append hys (.cons _ _ .nil)
  case done =>
    intro ys nw ⟨hnw, hys⟩
    subst hnw
    k_steps
    rename_i kF kN _ _
    exact hret _ ([(l, W.listOf vs.toArray c)] ++ rest) _ _ (by k_asm) (back_news (by k_asm) (fun p hp => kN p (List.mem_cons_of_mem _ (List.mem_cons_of_mem _ hp))) RB') ⟨_⟩
end Mine
end
section
set_option linter.unusedVariables false
set_option linter.unusedSimpArgs false
open PySem PySem.W PySem.Spec PySem.Calls PyProof.Rows
namespace Mine
theorem but3 {m M : Str → Option Value} {x₁ x₂ x₃ : Str} (h : ∀ y, y ≠ x₁ → y ≠ x₂ → y ≠ x₃ → m y = M y) : ∃ u₁ u₂ u₃, m = fun y => if y = x₁ then u₁ else if y = x₂ then u₂ else if y = x₃ then u₃ else M y := by
  refine ⟨m x₁, m x₂, m x₃, ?_⟩
  funext y
  by_cases h1 : y = x₁
  · rw [if_pos h1, h1]
  · rw [if_neg h1]
    by_cases h2 : y = x₂
    · rw [if_pos h2, h2]
    · rw [if_neg h2]
      by_cases h3 : y = x₃
      · rw [if_pos h3, h3]
      · rw [if_neg h3]
        exact h y h1 h2 h3
local macro_rules | `(tactic| walk_at "exec For Name Call cons cons") => `(tactic| refine Halt.out ?_)
local macro_rules | `(tactic| walk_at "call builtin:dict.get") => `(tactic| refine Halt.out ?_)
local macro_rules | `(tactic| walk_at "getMethod ref") => `(tactic| ((with_reducible show wpAny _ _ (getMethod (Value.ref 57) _ _) _ _ _); refine Halt.out ?_))
local macro_rules | `(tactic| walk_at "call builtin:str.join") => `(tactic| refine Halt.out ?_)
local macro_rules | `(tactic| walk_at "call builtin:hex int") => `(tactic| refine Halt.out ?_)
local macro_rules | `(tactic| walk_at "call builtin:hex") => `(tactic| refine Halt.out ?_)
local macro_rules | `(tactic| walk_at "binaryOp LShift int int") => `(tactic| refine Halt.out ?_)
local macro_rules | `(tactic| walk_at "binaryOp BitAnd int int") => `(tactic| refine Halt.out ?_)
local macro_rules | `(tactic| walk_at "inplaceOp BitXor int int") => `(tactic| refine Halt.out ?_)
set_option maxRecDepth 100000 in
set_option maxHeartbeats 8000000 in
theorem pretty_spec (w : World) (loose mean mg mb) (rest : List (Addr × Obj)) (U : Nat) (tx : Tok) (hU : U < 2 ^ 32) :
    Claim0 w loose mean mg mb 64 1 20 ([] ++ rest) [.int (U : Int) tx] (fun t0 t1 v led' => PostS (prettyT U) ([] ++ rest) v led') := by
  unfold Claim0
  w_top off
  k_fill
  intro dp un gd cn cs a ccd cl outer A₀ base h₀ L m s Q E B F X N T hk hd hu hret
  refine wpAny_call ?_
  k_dflt (refine' code_defR ?k1 ?k2 ?k3 ?k4 ?kO ?k5 ?kA ?kF ?kK ?k6 ?k7 ?k8 ?k9 ?kB ?_ ?c2 ?c3 ?c4 ?c5; (case kA => exact rfl); (case kF => exact rfl); (case kK => assumption); (case k1 => k_asm); (case k2 => k_asm); (case k3 => k_asm); (case k4 => k_asm); (case kO => exact off_nil); (case k5 => k_asm); (case k6 => k_is); (case k7 => k_is); (case k8 => ktr_room); (case k9 => exact BindsTo.of_eq rfl); (case c5 => decide); (case kB => exact locs rfl); (case c2 => exact rfl); (case c3 => exact rfl); (case c4 => exact rfl); k_whole; intro g' L' h' FG' F' N' B' X' T' RB' lR'; (try dsimp only); (try k_lift B'); (try k_fold))
  k_steps
  unfold Halt
  refine wpAny_For ?_
  k_steps
  rename_i l hq0 ltq hq1 Fq Nq h3 tk2 a2 b2 c2 R2 F2 N2 K2
  clear Nq Fq K2
  refine loopM_range (a₀ := 0) (b₀ := 32) (n := 32) (led := [(l, W.listOf #[] 0)]) rfl R2 (by decide +kernel) (by decide +kernel) F2 N2
    (fun M i tk m led => ∃ ws c t, led = [(l, W.listOf ws.toArray c)] ∧ StrsAre ws (bitsW U i) ∧ (remN U i ≠ 0 ∨ U = 0) ∧ m (Str.ofString "flags") = some (.int (remN U i : Int) t) ∧
      ∀ y, y ≠ Str.ofString "flags" → y ≠ Str.ofString "flag" → y ≠ Str.ofString "i" → m y = M y)
    ⟨[], 0, tx, rfl, .nil, ?h1, ?h2, fun _ _ _ _ => rfl⟩ ?turn ?done rfl rfl ?hE
  case h1 => rw [remN_zero]; exact (Decidable.em (U = 0)).elim .inr .inl
  case h2 => rw [remN_zero]; rfl
  case turn =>
    intro i t tk₀ m₁ led₁ h tk I own hi htk hJ hnw hlive hown F₁ N₁
    obtain ⟨ws, c, t0, rfl, hws, hne, hf, hm⟩ := hJ
    obtain ⟨u1, u2, u3, rfl⟩ := but3 hm
    clear hm
    simp only [if_pos] at hf
    subst hf
    have hlI : @Ne Nat l I := hnw (l, _) List.mem_cons_self
    have hO : OwnOff own [l] := fun p hp b hb => by
      rw [List.mem_singleton.mp hb, hown p hp]; exact Ne.symm hlI
    have hwl : ws.length ≤ 32 := by
      have h1 := hws.length
      have h2 := bitsL_le U i
      unfold bitsW at h1
      rw [List.length_map] at h1
      lia
    simp only [List.cons_append, List.nil_append] at N₁
    (try k_fold)
    k_steps
    unfold Halt
    refine lshift_int (by lia) (by show ((Builtin.Int.intBits 1 : Nat) : Int) + _ ≤ _; rw [show Builtin.Int.intBits 1 = 1 from by decide]; lia) ?_
    rw [show (1 : Int) * 2 ^ ((0 : Int) + (i : Int)).toNat = 2 ^ i by rw [Int.one_mul]; congr 1; lia]
    k_steps
    unfold Halt
    refine and_int ?_
    rw [remN_andI]
    by_cases hb : U.testBit i = true
    · rw [if_pos hb]
      have hp2 : (0 : Int) < 2 ^ i := Int.pow_pos (by decide)
      have K57 : KTD.Keyed g' 57 D57 := kt_keyed_in X' (by kernel_rfl)
      k_steps
      · unfold Halt
        refine KTD.getMethod_keyed K57 (Fr.keep (by k_asm)) ?_
        k_steps
        unfold Halt
        refine P.hex_of_int ?_ (hexW_size i hi)
        rw [show baseText "0x" 16 (2 ^ i) = hexW i from rfl]
        k_steps
        unfold Halt
        refine call_get2_intTab (K57.keep (Fr.keep (by k_asm)) _ _) (PyProof.V.Flat.str _ _) ?_
        intro v hv
        obtain ⟨tv, rfl⟩ : ∃ tv, v = .str (wordAt i) tv := by
          rw [KTD.lookup_keyed, D57_at hi] at hv
          by_cases h10 : i < 10
          · rw [if_pos h10] at hv
            exact PyProof.V.Flat.str_inv hv
          · rw [if_neg h10] at hv
            obtain ⟨tv, e⟩ := PyProof.V.Flat.str_inv (show PyProof.V.Flat v (.str (hexW i)) from hv)
            exact ⟨tv, by rw [e, wordAt, if_neg h10]⟩
        k_steps
        unfold Halt
        refine ixor_int ?_
        rw [remN_xorI U i hb]
        have e2 : bitsW U (i + 1) = bitsW U i ++ [wordAt i] := by unfold bitsW; rw [bitsL_succ, if_pos hb, List.map_append]; rfl
        have hws' : StrsAre (ws ++ [Value.str (wordAt i) tv]) (bitsW U (i + 1)) := by
          rw [e2]; exact StrsAre.append hws (.cons _ _ .nil)
        k_steps
        · rename_i h7 F7 N7 hz
          simp only [List.push_toArray] at N7
          refine' EndM.intro (by k_asm) N7 mem_one (mem_own (l := [])) (fun p hp => by rw [List.mem_singleton.mp hp]; exact hlI) ⟨_, c + 1, _, rfl, hws', ?b1, rfl, ?b4⟩
          case b1 => exact .inl fun h => hz (by rw [h]; rfl)
          case b4 =>
            intro y h1 h2 h3
            simp only [if_neg h1, if_neg h2, if_neg h3]
        · rename_i h7 F7 N7 hz
          have hz' : remN U (i + 1) = 0 := by exact_mod_cast hz
          have hU0 : U ≠ 0 := by
            intro h0
            subst h0
            simp at hb
          have hfin : bitsW U (i + 1) = bitsW U 32 := by unfold bitsW; rw [bitsL_end hz' (by lia)]
          dsimp only
          simp only [List.push_toArray] at N7
          k_steps
          unfold PostM
          dsimp only
          k_steps
          unfold Halt
          refine join_listW (ys := bitsW U (i + 1)) (⟨_, (N7 _ List.mem_cons_self).1, rfl, _, rfl⟩) hws' (by decide +kernel) (bitsW_weight (by lia)) ?_
          intro t9 k9
          rw [hfin]
          k_steps
          exact hret _ ([] ++ rest) _ _ (by k_asm) (back_news (led' := []) (by k_asm) (fun _ hp => nomatch hp) RB') (PostS.of (by rw [prettyT, if_neg hU0]))
      · exfalso; lia
    · rw [if_neg hb]
      k_steps
      have e1 : remN U (i + 1) = remN U i := by
        have := remN_step U i
        rw [if_neg hb] at this
        lia
      have e2 : bitsW U (i + 1) = bitsW U i := by unfold bitsW; rw [bitsL_succ, if_neg hb, List.append_nil]
      refine' EndM.intro (by k_asm) (by k_asm) mem_one (mem_own (l := [])) hnw ⟨ws, c, t0, rfl, ?b1, ?b2, ?b3, ?b4⟩
      case b1 => rw [e2]; exact hws
      case b2 => rw [e1]; exact hne
      case b3 => rw [e1]; rfl
      case b4 =>
        intro y h1 h2 h3
        simp only [if_neg h1, if_neg h2, if_neg h3]
  case done =>
    intro h tk₀ tk m₁ led₁ htk hJ F₁ N₁
    obtain ⟨ws, c, t0, rfl, hws, hne, hf, hm⟩ := hJ
    obtain ⟨u1, u2, u3, rfl⟩ := but3 hm
    clear hm
    simp only [if_pos] at hf
    subst hf
    have hU0 : U = 0 := by
      rcases hne with h | h
      · exact absurd (remN_top hU) h
      · exact h
    subst hU0
    have hw0 : ws = [] := by
      have h1 := hws.length
      unfold bitsW at h1
      rw [bitsL_zero] at h1
      exact List.eq_nil_of_length_eq_zero h1
    subst hw0
    rw [remN_top hU] at *
    (try k_fold)
    k_steps
    unfold Halt
    refine P.hex_of_int ?_ (by decide +kernel)
    rw [show baseText "0x" 16 ((0 : Nat) : Int) = Str.ofString "0x0" by decide +kernel]
    k_steps
    unfold Halt
    rename_i h7 F7 N7
    simp only [List.push_toArray, List.nil_append] at N7
    refine join_listW (ys := [Str.ofString "0x0"]) (⟨_, (N7 _ List.mem_cons_self).1, rfl, _, rfl⟩) (.cons _ _ .nil) (by decide +kernel) (by decide +kernel) ?_
    intro t9 k9
    k_steps
    exact hret _ ([] ++ rest) _ _ (by k_asm) (back_news (led' := []) (by k_asm) (fun _ hp => nomatch hp) RB') ⟨_⟩
  case hE => passes_own
end Mine
end
section
set_option linter.unusedVariables false
set_option linter.unusedSimpArgs false
open PySem PySem.W PySem.Spec PySem.Calls PyProof.Rows
namespace Mine
/-- the places of a number's ones -/
def psOf (U : Nat) : List Int := (bitsL U 32).map fun (p : Nat) => (p : Int)
theorem psOf_length (U : Nat) : (psOf U).length = (bitsL U 32).length := by simp [psOf]
theorem psOf_bound {U : Nat} {p : Int} (h : p ∈ psOf U) : 0 ≤ p ∧ p < 32 := by
  obtain ⟨q, hq, rfl⟩ := List.mem_map.mp h
  have := bitsL_lt hq
  lia
theorem bits_sum (U i : Nat) : ((bitsL U i).map fun p => 2 ^ p).sum + remN U i = U := by
  induction i with
  | zero => simp [bitsL, remN]
  | succ i ih =>
    rw [bitsL_succ, List.map_append, List.sum_append]
    have h := remN_step U i
    by_cases hb : U.testBit i
    · rw [if_pos hb] at h ⊢
      simp only [List.map_cons, List.map_nil, List.sum_cons, List.sum_nil]
      lia
    · rw [if_neg hb] at h ⊢
      simp only [List.map_nil, List.sum_nil]
      lia
theorem cast_sum (l : List Nat) : (((l.map fun p => 2 ^ p).sum : Nat) : Int) = (l.map fun p => (2 : Int) ^ p).sum := by
  induction l with
  | nil => rfl
  | cons a l ih =>
    simp only [List.map_cons, List.sum_cons]
    rw [← ih, Int.natCast_add, cast_pow2]
theorem psOf_sum {U : Nat} (h : U < 2 ^ 32) : ((psOf U).map fun p => (2 : Int) ^ p.toNat).sum = U := by
  have h1 := bits_sum U 32
  rw [remN_top h, Nat.add_zero] at h1
  have h2 := cast_sum (bitsL U 32)
  rw [h1] at h2
  rw [h2]
  unfold psOf
  rw [List.map_map]
  rfl
theorem bitsL_sorted (U i : Nat) : (bitsL U i).Pairwise (· < ·) := by
  unfold bitsL
  exact List.Pairwise.filter _ List.pairwise_lt_range
theorem psOf_sorted {U i j : Nat} (h : i < j) (hj : j < (psOf U).length) : (psOf U)[i]?.getD 0 < (psOf U)[j]?.getD 0 := by
  have hs := bitsL_sorted U 32
  rw [psOf_length] at hj
  have := List.pairwise_iff_getElem.mp hs i j (by lia) hj h
  simp only [psOf, List.getElem?_map, List.getElem?_eq_getElem hj, List.getElem?_eq_getElem (show i < (bitsL U 32).length by lia), Option.map_some, Option.getD_some]
  lia
end Mine
end
section
set_option linter.unusedVariables false
set_option linter.unusedSimpArgs false
open PySem PySem.W PySem.Spec PySem.Calls PyProof.Rows
namespace Mine
theorem start1v {M : Str → Option Value} {x₁ : Str} : M = fun y => if y = x₁ then M x₁ else M y := by
  funext y
  by_cases h1 : y = x₁
  · rw [if_pos h1, h1]
  · rw [if_neg h1]
theorem step1 {M : Str → Option Value} {x₁ : Str} {v : Value} {u : Option Value} : (fun y => if y = x₁ then some v else if y = x₁ then u else M y) = fun y => if y = x₁ then some v else M y := by
  funext y
  by_cases h1 : y = x₁
  · simp only [if_pos h1]
  · simp only [if_neg h1]
theorem rangeSize_one' (n : Nat) : Builtin.Range.rangeSize 1 (1 + (n : Int)) 1 = (n : Int) := by
  unfold Builtin.Range.rangeSize
  simp
  lia
theorem mem_two {p q : Addr × Obj} {own : List (Addr × Obj)} : ∀ z ∈ [p, q], z ∈ p :: q :: own := fun z hz => by
  simp only [List.mem_cons, List.not_mem_nil, or_false] at hz ⊢
  rcases hz with h | h <;> simp [h]
theorem mem_own2 {p q : Addr × Obj} {own : List (Addr × Obj)} : ∀ z ∈ own, z ∈ p :: q :: own := fun z hz => List.mem_cons_of_mem _ (List.mem_cons_of_mem _ hz)
theorem strsAre_values (l : List (Str × Tok)) : StrsAre (strValues l) (l.map (·.1)) := strsAre_of_values l
local macro_rules | `(tactic| walk_at "call ref") => `(tactic| (k_here; refine wpAny_call ?_; k_dflt (refine' code_def ?k1 ?k2 ?k3 ?k4 ?k5 ?kA ?kF ?kK ?k6 ?k7 ?k8 ?k9 ?kB ?_ ?c2 ?c3 ?c4 ?c5; (case kA => exact rfl); (case kF => exact rfl); (case kK => first | exact rfl | assumption); (case k1 => k_asm); (case k2 => k_asm); (case k3 => k_asm); (case k4 => k_asm); (case k5 => k_asm); (case k6 => k_is); (case k7 => k_is); (case k8 => ktr_room); (case k9 => exact BindsTo.of_eq rfl); (case c5 => decide); (case kB => exact locs rfl); (case c2 => exact rfl); (case c3 => exact rfl); (case c4 => exact rfl); k_whole; intro g' L' h' FG' F' N' B' X' T'; (try dsimp only); (try k_lift B'); (try k_fold))))
local macro_rules | `(tactic| walk_at "call ref") => `(tactic| ((with_reducible show wpAny _ _ (call (Value.ref 64) _) _ _ _); refine Halt.out ?_))
local macro_rules | `(tactic| walk_at "call ref") => `(tactic| ((with_reducible show wpAny _ _ (call (Value.ref 134) _) _ _ _); refine Halt.out ?_))
local macro_rules | `(tactic| walk_at "call ref") => `(tactic| ((with_reducible show wpAny _ _ (call (Value.ref 160) _) _ _ _); refine Halt.out ?_))

local macro_rules | `(tactic| walk_at "exec Assign cons ListComp") => `(tactic| refine Halt.out ?_)
local macro_rules | `(tactic| walk_at "eval ListComp") => `(tactic| refine Halt.out ?_)
local macro_rules | `(tactic| walk_at "CompSrc") => `(tactic| refine Halt.out ?_)
local macro_rules | `(tactic| walk_at "CompEnd") => `(tactic| refine Halt.out ?_)
local macro_rules | `(tactic| walk_at "call builtin:str.split") => `(tactic| refine Halt.out ?_)
local macro_rules | `(tactic| walk_at "binaryOp LShift int int") => `(tactic| refine Halt.out ?_)
local macro_rules | `(tactic| walk_at "exec For Name Call cons nil") => `(tactic| refine Halt.out ?_)
local macro_rules | `(tactic| walk_at "execs cons") => `(tactic| refine wpAny_execs_cons ?_)
set_option maxRecDepth 100000 in
set_option maxHeartbeats 8000000 in
theorem told_spec (w : World) (loose mean mg mb) (rest : List (Addr × Obj)) (l : Addr) (vs : List Value) (c U many : Nat) (tx tm : Tok) (t1 : Nat) (hoff : ∀ q ∈ rest, q.1 ≠ l) (hst : StrsAre vs WORDS) (ht : TokIn 1 t1 vs) (hU : U < 2 ^ 32) (hmany : (bitsL U 32).length = many) (h2 : 2 ≤ many) :
    ClaimT w loose mean mg mb 172 3 60 ([(l, W.listOf vs.toArray c)] ++ rest) [.int (U : Int) tx, .int (many : Int) tm, .ref l] t1 (fun v led' => PostI (rankV (psOf U)) ([(l, W.listOf vs.toArray c)] ++ rest) v led') := by
  refine ClaimT.of ?_
  w_top off
  k_fill
  intro dp un gd cn cs a ccd cl outer A₀ base h₀ L m s Q E B F X N T hk hd hu hT hret
  refine wpAny_call ?_
  k_dflt (refine' code_defCRt ?k1 ?k2 ?k3 ?k4 ?kO ?k5 ?kA ?kF ?kK ?k6 ?k7 ?k8 ?k9 ?kB ?kD ?_ ?c2 ?c3 ?c4; (case kA => exact rfl); (case kF => exact rfl); (case kK => assumption); (case k1 => k_asm); (case k2 => k_asm); (case k3 => k_asm); (case k4 => k_asm); (case kO => (intro q hq; simpa using hoff q hq)); (case k5 => k_asm); (case k6 => k_is); (case k7 => k_is); (case k8 => ktr_room); (case k9 => exact BindsTo.of_eq rfl); (case kB => exact rfl); (case kD => decide +kernel); (case c2 => exact rfl); (case c3 => exact rfl); (case c4 => exact rfl); k_whole; intro g' L' h' tk' cells' htk' FG' F' N' Y' B' X' T' RB' lR'; (try k_lt lR'); k_cells Y'; (try simp only [List.cons_append, List.nil_append] at N'); (try dsimp only); (try k_lift B'); (try k_fold))
  k_steps
  rename_i o1 d1
  unfold Halt
  have hlen : (bitsL U 32).length ≤ 32 := bitsL_le U 32
  have hU0 : U ≠ 0 := by
    intro h0
    subst h0
    rw [bitsL_zero] at hmany
    simp at hmany
    lia
  have hwlen : (bitsW U 32).length = many := by unfold bitsW; rw [List.length_map, hmany]
  have hwfree : ∀ x ∈ bitsW U 32, 44 ∉ x.cps.toList := fun x hx => by
    obtain ⟨p, hp, rfl⟩ := List.mem_map.mp hx
    exact word_free p (bitsL_lt hp)
  have hwsz : ∀ x ∈ bitsW U 32, x.length ≤ 20 := fun x hx => by
    obtain ⟨p, hp, rfl⟩ := List.mem_map.mp hx
    exact word_size p (bitsL_lt hp)
  have hjl := join_len hwsz
  k_dflt (refine LCg.Assign_ListComp_U (F₀ := by k_asm) (by rfl) (by with_unfolding_all rfl) (by with_unfolding_all rfl) (by decide) (by rfl) (by decide) (by rfl) (by rfl) (by rfl) ?_)
  k_steps
  unfold Halt
  k_dflt (refine' Claim.use ((pretty_spec w loose mean mg mb ((L' + 1, o1) :: [(l, W.listOf vs.toArray c)]) U _ hU).toks) ?u1 ?u2 ?u3 ?u4 ?u5 ?u6 ?u7 ?u8 ?_; (case u1 => k_asm); (case u2 => k_asm); (case u3 => k_asm); (case u4 => k_asm); (case u5 => k_asm); (case u6 => first | exact rfl | assumption); (case u7 => ktr_room); (case u8 => ktr_units))
  rintro v5 led5 h5 tk5 htk5 F5 N5 ⟨t5⟩
  rw [prettyT, if_neg hU0, show Str.ofString ", " = sepW from rfl]
  simp only [List.nil_append] at N5
  k_steps
  unfold Halt
  have hsl : (Txt.join sepW (bitsW U 32)).length + 2 ≤ sizeLine := by rw [PySem.sizeLine_eq]; lia
  refine split_T (by lia) hwfree hsl F5 N5 ?_
  intro Dw lst h6 k6 hl6 htk6 F6 N6 lt6
  have hlD : @LT.lt Nat _ l Dw := lt6 (l, _) (List.mem_cons_of_mem _ List.mem_cons_self)
  have hoD : @LT.lt Nat _ (L' + 1) Dw := lt6 (L' + 1, _) List.mem_cons_self
  have hst6 : StrsAre (strValues lst) (bitsW U 32) := by rw [← hl6]; exact strsAre_of_values lst
  have htw6 : ∀ y t, Value.str y t ∈ strValues lst → t1 ≤ t := fun y t hv => by
    have h0 : t1 ≤ tk5 := Nat.le_trans hT (Nat.le_trans htk' htk5)
    obtain ⟨p, hp, e⟩ := List.mem_map.mp hv
    have h1 := htk6 p hp
    cases e
    exact Nat.le_trans h0 (Nat.le_trans (by simp only []; lia) h1)
  clear htk6 hl6 lt6
  generalize strValues lst = pv at *
  have hpl : pv.length = many := by rw [hst6.length, hwlen]
  k_steps
  unfold Halt
  refine LCg.CompSrc.ledger (its := pv.toArray) (by rfl) (by k_asm) (by k_asm) (by k_mem) (by rw [PySem.sizeLine_eq, List.size_toArray]; lia) ?_
  intro gg
  rw [List.size_toArray]
  refine compJ (fun i ys nw => nw = (Dw, W.listOf pv.toArray 0) :: (L' + 1, o1) :: [(l, W.listOf vs.toArray c)] ∧ IntsAre ys (((bitsL U 32).take i).map fun (p : Nat) => (p : Int))) ⟨rfl, .nil⟩ ?turn ?done
  case turn =>
    intro i v I oI C oC D m₂ ys nw h tk E' hin hv hJ hC hx F₁ N₁ off ne
    obtain ⟨rfl, hys⟩ := hJ
    obtain ⟨y, ty, rfl, hy⟩ := strs_get hst6 (show pv[i]? = some v by simpa using hv)
    have hib : i < (bitsL U 32).length := by lia
    have hp32 : (bitsL U 32)[i] < 32 := bitsL_lt (List.getElem_mem hib)
    have hyw : y = wordAt (bitsL U 32)[i] := by
      unfold bitsW at hy
      rw [List.getElem?_map, List.getElem?_eq_getElem hib] at hy
      simpa using hy.symm
    subst hyw
    have hty := htw6 _ ty (List.mem_of_getElem? (show pv[i]? = some _ by simpa using hv))
    have htake : (bitsL U 32).take (i + 1) = (bitsL U 32).take i ++ [(bitsL U 32)[i]] := by rw [List.take_add_one, List.getElem?_eq_getElem hib]; rfl
    generalize (bitsL U 32)[i] = p at *
    have off₀ := off
    (try simp only [LCg.Off3, and_true] at off)
    k_steps
    unfold Halt
    have hoffI : ∀ q ∈ (I, oI) :: (C, oC) :: (D, LCg.lst ys) :: (Dw, W.listOf pv.toArray 0) :: [(L' + 1, o1)], q.1 ≠ l := by
      intro q hq
      simp only [List.mem_cons, List.not_mem_nil, or_false] at hq
      rcases hq with rfl | rfl | rfl | rfl | rfl
      · exact Ne.symm off.2.2.1
      · exact Ne.symm off.2.2.2.1
      · exact Ne.symm off.2.2.2.2
      · exact Ne.symm (Nat.ne_of_lt hlD)
      · exact Ne.symm (Nat.ne_of_lt (Nat.lt_succ_of_lt lR'))
    k_dflt (refine' Claim0.use (index_spec w loose mean mg mb ((I, oI) :: (C, oC) :: (D, LCg.lst ys) :: (Dw, W.listOf pv.toArray 0) :: [(L' + 1, o1)]) l vs c p ty t1 hoffI hst hp32 ht hty) ?u1 ?u2 ?u3 ?u4 ?u5 ?u6 ?u7 ?u8 ?_; (case u1 => k_asm); (case u2 => k_asm); (case u3 => k_asm); (case u4 => exact fun z hz => N₁ z (by simp only [List.cons_append, List.nil_append, List.mem_cons, List.not_mem_nil, or_false] at hz ⊢; rcases hz with h | h | h | h | h | h <;> simp [h])); (case u5 => k_asm); (case u6 => first | exact rfl | assumption); (case u7 => ktr_room); (case u8 => ktr_units))
    rintro v7 led7 h7 tk7 F7 N7 ⟨t7⟩
    have N7' : News g' _ h7 ((I, oI) :: (C, oC) :: (D, LCg.lst ys) :: (Dw, W.listOf pv.toArray 0) :: (L' + 1, o1) :: [(l, W.listOf vs.toArray c)]) := fun z hz => N7 z (by
      simp only [List.cons_append, List.nil_append, List.mem_cons, List.not_mem_nil, or_false] at hz ⊢
      rcases hz with h | h | h | h | h | h <;> simp [h])
    clear N7
    k_steps
    unfold Halt
    refine LCg.CompEnd.intro (by k_asm) N7' _ (fun p hp => hp) off₀ (.inr ⟨_, List.mem_cons_self, rfl, _, rfl⟩) ⟨rfl, ?_⟩
    rw [htake, List.map_append]
    exact IntsAre.append hys (.cons _ _ .nil)
  case done =>
    intro ys nw ⟨hnw, hys⟩
    subst hnw
    rw [hpl, ← hmany, List.take_length] at hys
    have hsum := psOf_sum hU
    have hsorted : ∀ k, 1 ≤ k → k < many → (psOf U)[k - 1]?.getD 0 < (psOf U)[k]?.getD 0 := fun k h1 h2 => psOf_sorted (by lia) (by rw [psOf_length, hmany]; exact h2)
    have hbd : ∀ p ∈ psOf U, 0 ≤ p ∧ p < 32 := fun p hp => psOf_bound hp
    have hpsl : (psOf U).length = many := by rw [psOf_length, hmany]
    replace hys : IntsAre ys (psOf U) := hys
    generalize psOf U = ps at *
    have hyl : ys.length = many := by rw [hys.length, hpsl]
    k_steps
    · rename_i hx5 _ _ _ _
      exact absurd (congrArg (fun (n : Nat) => (n : Int)) hpsl) hx5
    · rename_i P1 hP1 tkP FP NP offP hlenP
      unfold Halt
      k_dflt (refine LCg.ListComp_U (F₀ := by k_asm) (by with_unfolding_all rfl) (by decide) (by rfl) (by decide) (by rfl) ?_)
      k_steps
      unfold Halt
      refine LCg.CompSrc.ledger (its := ys.toArray) (by rfl) (by k_asm) (by k_asm) (by k_mem) (by rw [PySem.sizeLine_eq, List.size_toArray]; lia) ?_
      intro gg2
      rw [List.size_toArray]
      refine compJ (fun i zs nw => nw = _ ∧ IntsAre zs ((ps.take i).map fun p => (2 : Int) ^ p.toNat)) ⟨rfl, .nil⟩ ?turn2 ?done2
      case turn2 =>
        intro i v I oI C oC D m₂ zs nw h tk E' hin hv hJ hC hx F₁ N₁ off ne
        obtain ⟨rfl, hzs⟩ := hJ
        have hip : i < ps.length := by lia
        have hvi : ys[i]? = some v := by simpa using hv
        obtain ⟨tv, hxi⟩ := hys.get i ps[i] (by simp)
        rw [hxi] at hvi
        cases hvi
        have hpb := hbd _ (List.getElem_mem hip)
        have htake : ps.take (i + 1) = ps.take i ++ [ps[i]] := by rw [List.take_add_one, List.getElem?_eq_getElem hip]; rfl
        generalize ps[i] = p at *
        have off₀ := off
        (try simp only [LCg.Off3, and_true] at off)
        k_steps
        unfold Halt
        refine lshift_int (by lia) (by show ((Builtin.Int.intBits 1 : Nat) : Int) + _ ≤ _; rw [show Builtin.Int.intBits 1 = 1 from by decide]; lia) ?_
        rw [Int.one_mul]
        k_steps
        unfold Halt
        refine LCg.CompEnd.intro (by k_asm) (by k_asm) _ (fun p hp => hp) off₀ (.inr ⟨_, List.mem_cons_self, rfl, _, rfl⟩) ⟨rfl, ?_⟩
        rw [htake, List.map_append]
        exact IntsAre.append hzs (.cons _ _ .nil)
      case done2 =>
        intro zs nw ⟨hnw, hzs⟩
        subst hnw
        rw [hyl, ← hpsl, List.take_length] at hzs
        k_steps
        · rename_i hx5 _ _ _ _
          exact absurd hsum hx5
        · rename_i P2 h2a tk2a F2a N2a off2 h3a tk3a t3a F3a N3a hs3a
          skip
          unfold Halt
          refine wpAny_For ?_
          k_steps
          rename_i h4 tk4 a4 b4 c4 R4 F4 N4 K4
          clear K4
          have hPl : @Ne Nat P1 l := Ne.symm offP.2.2
          refine loopM_range (a₀ := 1) (b₀ := (many : Int)) (n := many - 1) (led := [(P1, LCg.lst ys), (l, W.listOf vs.toArray c)]) rfl R4 (small_one (by lia) (by lia) (by lia) (by lia)) (by rw [show (many : Int) = 1 + ((many - 1 : Nat) : Int) by lia]; exact rangeSize_one' (many - 1)) F4 (fun p hp => N4 p (by simp only [List.mem_cons, List.not_mem_nil, or_false] at hp ⊢; rcases hp with h | h <;> simp [h]))
            (fun M i tk m led => led = [(P1, LCg.lst ys), (l, W.listOf vs.toArray c)] ∧ ∃ u, m = fun y => if y = Str.ofString "k" then u else M y)
            ⟨rfl, _, start1v⟩ ?turn3 ?done3 rfl rfl ?hE3
          case turn3 =>
            intro i t tk₀ m₁ led₁ h tk I own hin htk hJ hnw hlive hown F₁ N₁
            obtain ⟨rfl, u, rfl⟩ := hJ
            simp only [List.cons_append, List.nil_append] at N₁
            have hso := hsorted (i + 1) (by lia) (by lia)
            (try k_fold)
            k_steps
            · rename_i hle
              exfalso
              rw [List.getD_eq_getElem?_getD, List.getD_eq_getElem?_getD, show ((1 : Int) + (i : Int)).toNat = i + 1 by lia, show ((1 : Int) + (i : Int) - 1).toNat = i by lia] at hle
              rw [show i + 1 - 1 = i by lia] at hso
              lia
            · refine' EndM.intro (by k_asm) (by k_asm) mem_two (mem_own2) hnw ⟨rfl, _, step1⟩
          case done3 =>
            intro h tk₀ tk m₁ led₁ htk hJ F₁ N₁
            obtain ⟨rfl, u, rfl⟩ := hJ
            (try k_fold)
            k_steps
            unfold Halt
            k_dflt (refine' Claim0.use (rank_spec w loose mean mg mb [(l, W.listOf vs.toArray c)] P1 ys ps ys.length (fun q hq => by rw [List.mem_singleton.mp hq]; exact Ne.symm hPl) hys (fun p hp => by have := hbd p hp; lia) (by lia)) ?u1 ?u2 ?u3 ?u4 ?u5 ?u6 ?u7 ?u8 ?_; (case u1 => k_asm); (case u2 => k_asm); (case u3 => k_asm); (case u4 => k_asm); (case u5 => k_asm); (case u6 => first | exact rfl | assumption); (case u7 => ktr_room); (case u8 => ktr_units))
            rintro v9 led9 h9 tk9 F9 N9 ⟨t9⟩
            k_steps
            rename_i kF kN _ _
            exact hret _ ([(l, W.listOf vs.toArray c)] ++ rest) _ _ (by k_asm) (back_news (by k_asm) (fun p hp => kN p (List.mem_cons_of_mem _ hp)) RB') ⟨_⟩
          case hE3 => passes_own
end Mine
end
section
set_option linter.unusedVariables false
set_option linter.unusedSimpArgs false
open PySem PySem.W PySem.Spec PySem.Calls PyProof.Rows
namespace Mine
/-- and of two numbers alike from place n on -/
theorem and_hi_nat (A n u v : Nat) (hu : u < 2 ^ n) (hv : v < 2 ^ n) : (2 ^ n * A + u) &&& (2 ^ n * A + v) = 2 ^ n * A + (u &&& v) := by
  have huv : u &&& v < 2 ^ n := Nat.and_lt_two_pow u hv
  apply Nat.eq_of_testBit_eq
  intro j
  rw [Nat.testBit_and, Nat.testBit_two_pow_mul_add _ hu, Nat.testBit_two_pow_mul_add _ hv, Nat.testBit_two_pow_mul_add _ huv, Nat.testBit_and]
  by_cases h : j < n <;> simp [h]
theorem or_hi_nat (A n u v : Nat) (hu : u < 2 ^ n) (hv : v < 2 ^ n) : (2 ^ n * A + u) ||| (2 ^ n * A + v) = 2 ^ n * A + (u ||| v) := by
  have huv : u ||| v < 2 ^ n := Nat.or_lt_two_pow hu hv
  apply Nat.eq_of_testBit_eq
  intro j
  rw [Nat.testBit_or, Nat.testBit_two_pow_mul_add _ hu, Nat.testBit_two_pow_mul_add _ hv, Nat.testBit_two_pow_mul_add _ huv, Nat.testBit_or]
  by_cases h : j < n <;> simp [h]
theorem or_compl (n u v : Nat) (hu : u < 2 ^ n) (hv : v < 2 ^ n) : ((2 ^ n - (u + 1)) ||| (2 ^ n - (v + 1))) = 2 ^ n - ((u &&& v) + 1) := by
  have huv : u &&& v < 2 ^ n := Nat.and_lt_two_pow u hv
  apply Nat.eq_of_testBit_eq
  intro j
  rw [Nat.testBit_or, Nat.testBit_two_pow_sub_succ hu, Nat.testBit_two_pow_sub_succ hv, Nat.testBit_two_pow_sub_succ huv, Nat.testBit_and]
  by_cases h : j < n <;> simp [h]
theorem and_hi (A : Int) (n u v : Nat) (hu : u < 2 ^ n) (hv : v < 2 ^ n) : Builtin.bitAnd (2 ^ n * A + (u : Int)) (2 ^ n * A + (v : Int)) = 2 ^ n * A + ((u &&& v : Nat) : Int) := by
  have hp : (0 : Int) < 2 ^ n := Int.pow_pos (by decide)
  have huI : (u : Int) < 2 ^ n := by rw [← cast_pow2]; exact Int.ofNat_lt.mpr hu
  have hvI : (v : Int) < 2 ^ n := by rw [← cast_pow2]; exact Int.ofNat_lt.mpr hv
  rcases Int.lt_or_le A 0 with hA | hA
  · -- below nought
    have hm : 2 ^ n * A ≤ - 2 ^ n := by
      have := Int.mul_le_mul_of_nonneg_left (show A ≤ -1 by lia) (Int.le_of_lt hp)
      lia
    obtain ⟨B, hB⟩ : ∃ B : Nat, (B : Int) = -A - 1 := ⟨(-A - 1).toNat, by lia⟩
    have e1 : ∀ z : Nat, z < 2 ^ n → (z : Int) < 2 ^ n → (Builtin.bitNot (2 ^ n * A + (z : Int))).toNat = 2 ^ n * B + (2 ^ n - (z + 1)) := by
      intro z hz hzI
      have : Builtin.bitNot (2 ^ n * A + (z : Int)) = ((2 ^ n * B + (2 ^ n - (z + 1)) : Nat) : Int) := by
        unfold Builtin.bitNot
        rw [Int.natCast_add, Int.natCast_mul, hB, Int.natCast_sub (by lia), cast_pow2, Int.natCast_add, Int.mul_sub, Int.mul_neg]
        lia
      rw [this]; exact Int.toNat_natCast _
    rw [bitAnd_nn (by lia) (by lia), e1 u hu huI, e1 v hv hvI, or_hi_nat _ _ _ _ (by lia) (by lia), or_compl _ _ _ hu hv]
    have huv : u &&& v < 2 ^ n := Nat.and_lt_two_pow u hv
    unfold Builtin.bitNot
    rw [Int.natCast_add, Int.natCast_mul, hB, Int.natCast_sub (by lia), cast_pow2, Int.natCast_add, Int.mul_sub, Int.mul_neg]
    lia
  · obtain ⟨B, rfl⟩ := Int.eq_ofNat_of_zero_le hA
    have e1 : ∀ z : Nat, (2 : Int) ^ n * (B : Int) + (z : Int) = ((2 ^ n * B + z : Nat) : Int) := by
      intro z; rw [Int.natCast_add, Int.natCast_mul, cast_pow2]
    rw [e1 u, e1 v, bitAnd_nat, and_hi_nat _ _ _ _ hu hv, ← e1]
/-- a number with r ones from place t on, noughts below -/
def blk (A : Int) (t r : Nat) : Int := 2 ^ (t + r + 1) * A + (2 ^ r - 1) * 2 ^ t
/-- the next number with as many ones -/
def nxt (A : Int) (t r : Nat) : Int := 2 ^ (t + r + 1) * A + 2 ^ (t + r) + (2 ^ (r - 1) - 1)
theorem pow_pos' (n : Nat) : (0 : Int) < 2 ^ n := Int.pow_pos (by decide)
theorem lo_blk (A : Int) (t r : Nat) (hr : 1 ≤ r) : lo (blk A t r) = 2 ^ t := by
  unfold lo
  have e : blk A t r = 2 ^ t * (2 * (2 ^ r * A + 2 ^ (r - 1) - 1) + 1) := by
    unfold blk
    obtain ⟨k, rfl⟩ : ∃ k, r = k + 1 := ⟨r - 1, by lia⟩
    rw [Nat.add_sub_cancel, show t + (k + 1) + 1 = t + (k + 1 + 1) by lia, Int.pow_add, Int.pow_succ 2 (k + 1), Int.pow_succ 2 k]
    generalize (2 : Int) ^ k = K
    generalize (2 : Int) ^ t = TT
    grind
  rw [e, kbt_low]
theorem zed_blk (A : Int) (t r : Nat) (hr : 1 ≤ r) : blk A t r + 2 ^ t = 2 ^ (t + r + 1) * A + 2 ^ (t + r) ∧ zed (blk A t r) = (2 ^ (r + 1) - 1) * 2 ^ t := by
  have hy : blk A t r + 2 ^ t = 2 ^ (t + r + 1) * A + 2 ^ (t + r) := by
    unfold blk
    rw [Int.pow_add 2 t r]
    generalize (2 : Int) ^ (t + r + 1) * A = Z
    generalize (2 : Int) ^ r = R
    generalize (2 : Int) ^ t = TT
    grind
  refine ⟨hy, ?_⟩
  unfold zed
  rw [lo_blk A t r hr, hy, bitXor_and]
  have hR : 1 ≤ 2 ^ r := Nat.one_le_two_pow
  have hu : (2 ^ r - 1) * 2 ^ t < 2 ^ (t + r) := by
    rw [Nat.pow_add, Nat.mul_comm (2 ^ t)]
    exact Nat.mul_lt_mul_of_pos_right (by lia) (Nat.two_pow_pos t)
  have hlt : 2 ^ (t + r) < 2 ^ (t + r + 1) := Nat.pow_lt_pow_right (by decide) (by lia)
  have e1 : blk A t r = 2 ^ (t + r + 1) * A + (((2 ^ r - 1) * 2 ^ t : Nat) : Int) := by
    unfold blk
    rw [Int.natCast_mul, Int.natCast_sub hR, cast_pow2, cast_pow2]
    rfl
  have e2 : (2 : Int) ^ (t + r + 1) * A + 2 ^ (t + r) = 2 ^ (t + r + 1) * A + ((2 ^ (t + r) : Nat) : Int) := by rw [cast_pow2]
  have e3 : ((2 ^ r - 1) * 2 ^ t) &&& 2 ^ (t + r) = 0 := by
    apply Nat.eq_of_testBit_eq
    intro j
    rw [Nat.testBit_and, Nat.testBit_two_pow, Nat.zero_testBit]
    by_cases h : t + r = j
    · subst h
      rw [Nat.testBit_lt_two_pow hu]; rfl
    · simp [h]
  rw [e2, e1, and_hi A (t + r + 1) _ _ (by lia) hlt, e3, ← e1, cast_pow2]
  unfold blk
  rw [Int.pow_add 2 t r, Int.pow_succ 2 r]
  generalize (2 : Int) ^ (t + r + 1) * A = Z
  generalize (2 : Int) ^ r = R
  generalize (2 : Int) ^ t = TT
  grind
theorem fdiv_blk (t r : Nat) (hr : 1 ≤ r) : ((2 ^ (r + 1) - 1) * 2 ^ t : Int).fdiv (-4 * 2 ^ t) = -2 ^ (r - 1) ∧ ((2 ^ (r + 1) - 1) * 2 ^ t : Int).fmod (-4 * 2 ^ t) = -2 ^ t := by
  obtain ⟨k, rfl⟩ : ∃ k, r = k + 1 := ⟨r - 1, by lia⟩
  have hT := pow_pos' t
  have e : ((2 ^ (k + 1 + 1) - 1) * 2 ^ t : Int) = (-4 * 2 ^ t) * (-2 ^ k) + (-2 ^ t) := by
    rw [Int.pow_succ 2 (k + 1), Int.pow_succ 2 k]
    generalize (2 : Int) ^ k = K
    generalize (2 : Int) ^ t = TT
    grind
  have hd : ((2 ^ (k + 1 + 1) - 1) * 2 ^ t : Int).fdiv (-4 * 2 ^ t) = -2 ^ k := by
    rw [← Int.neg_fdiv_neg, e]
    rw [Int.fdiv_eq_ediv_of_nonneg _ (by lia)]
    have h2 : -((-4 * 2 ^ t) * (-2 ^ k) + (-2 ^ t)) = 2 ^ t + (-(-4 * 2 ^ t)) * (-2 ^ k) := by
      generalize (2 : Int) ^ k = K
      generalize (2 : Int) ^ t = TT
      grind
    rw [h2, Int.add_mul_ediv_left _ _ (by lia), Int.ediv_eq_zero_of_lt (by lia) (by lia), Int.zero_add]
  rw [Nat.add_sub_cancel]
  refine ⟨hd, ?_⟩
  rw [Int.fmod_def, hd, e]
  lia
/-- a step leads to the next number, its division leaves minus the lowest one -/
theorem step_blk (A : Int) (t r : Nat) (hr : 1 ≤ r) : stepV (blk A t r) = nxt A t r ∧ (stepR (blk A t r) == -lo (blk A t r)) = true := by
  have hz := zed_blk A t r hr
  have hd := fdiv_blk t r hr
  unfold stepV stepR
  rw [hz.2, lo_blk A t r hr, hd.1, hd.2, hz.1]
  refine ⟨?_, by simp⟩
  have e1 : Builtin.bitNot (-2 ^ (r - 1)) = 2 ^ (r - 1) - 1 := by unfold Builtin.bitNot; lia
  rw [e1, bitOr_and, kbt_mask]
  have e2 : ((2 : Int) ^ (t + r + 1) * A + 2 ^ (t + r)) % 2 ^ (r - 1) = 0 := by
    have e3 : (2 : Int) ^ (t + r + 1) * A + 2 ^ (t + r) = 2 ^ (r - 1) * (2 ^ (t + 1) * (2 * A + 1)) := by
      rw [show t + r + 1 = (r - 1) + (t + 1) + 1 by lia, show t + r = (r - 1) + (t + 1) by lia, Int.pow_succ 2 ((r - 1) + (t + 1)), Int.pow_add]
      generalize (2 : Int) ^ (r - 1) = K
      generalize (2 : Int) ^ (t + 1) = TT
      grind
    rw [e3, Int.mul_emod_right]
  rw [e2]
  unfold nxt
  lia
/-- a step of minus a power -/
theorem step_negpow (n : Nat) : stepV (-2 ^ n) = -1 ∧ (stepR (-2 ^ n) == -lo (-2 ^ n)) = true ∧ lo (-2 ^ n) = 2 ^ n ∧ zed (-2 ^ n) = -2 ^ n := by
  have hl : lo (-2 ^ n) = 2 ^ n := by
    unfold lo
    have e : -(2 : Int) ^ n = 2 ^ n * (2 * (-1) + 1) := by lia
    rw [e, kbt_low]
  have hz : zed (-2 ^ n) = -2 ^ n := by
    unfold zed
    rw [hl, show -(2 : Int) ^ n + 2 ^ n = 0 by lia, bitXor_zero]
  have hp := pow_pos' n
  have hd : (-2 ^ n : Int).fdiv (-4 * 2 ^ n) = 0 := by
    rw [← Int.neg_fdiv_neg, Int.fdiv_eq_ediv_of_nonneg _ (by lia), Int.neg_neg, Int.ediv_eq_zero_of_lt (by lia) (by lia)]
  have hm : (-2 ^ n : Int).fmod (-4 * 2 ^ n) = -2 ^ n := by rw [Int.fmod_def, hd]; lia
  refine ⟨?_, ?_, hl, hz⟩
  · unfold stepV
    rw [hz, hl, hd, show -(2 : Int) ^ n + 2 ^ n = 0 by lia, bitOr_and, bitAnd_comm, bitAnd_zero]
    unfold Builtin.bitNot
    lia
  · unfold stepR
    rw [hz, hl, hm]
    simp
end Mine
end
section
set_option linter.unusedVariables false
set_option linter.unusedSimpArgs false
open PySem PySem.W PySem.Spec PySem.Calls PyProof.Rows
namespace Mine
/-- Pascal's triangle -/
def CC : Nat → Nat → Nat
  | _, 0 => 1
  | 0, _ + 1 => 0
  | n + 1, k + 1 => CC n k + CC n (k + 1)
theorem CC_zero (n : Nat) : CC n 0 = 1 := by cases n <;> rfl
theorem CC_succ (n k : Nat) : CC (n + 1) (k + 1) = CC n k + CC n (k + 1) := rfl
theorem CC_above : ∀ {n k : Nat}, n < k → CC n k = 0
  | 0, _ + 1, _ => rfl
  | n + 1, k + 1, h => by rw [CC_succ, CC_above (by lia), CC_above (by lia)]
theorem CC_mul : ∀ (n k : Nat), (CC n (k + 1) : Int) * (k + 1) = CC n k * ((n : Int) - k)
  | 0, 0 => by simp [CC]
  | 0, k + 1 => by simp [CC]
  | n + 1, 0 => by
    have h := CC_mul n 0
    rw [CC_succ, CC_zero] at *
    rw [CC_zero]
    simp only [Int.natCast_add] at *
    grind
  | n + 1, k + 1 => by
    have h1 := CC_mul n k
    have h2 := CC_mul n (k + 1)
    rw [CC_succ n (k + 1), CC_succ n k]
    simp only [Int.natCast_add] at *
    grind
theorem chs_eq (p n : Nat) : chs (p : Int) n = (CC p n : Int) := by
  unfold chs
  have key : ∀ n : Nat, (List.foldl (fun (σ : Int × Unit) k => ((σ.fst * ((p : Int) - k)).fdiv (k + 1), ())) (1, ()) (rangeInts 0 1 n)).fst = (CC p n : Int) := by
    intro n
    induction n with
    | zero => rw [CC_zero]; rfl
    | succ n ih =>
      have e : rangeInts 0 1 (n + 1) = rangeInts 0 1 n ++ [(n : Int)] := by
        simp [rangeInts, List.range_succ]
      rw [e, List.foldl_append, List.foldl_cons, List.foldl_nil]
      show (((List.foldl (fun (σ : Int × Unit) k => ((σ.fst * ((p : Int) - k)).fdiv (k + 1), ())) (1, ()) (rangeInts 0 1 n)).fst) * ((p : Int) - (n : Int))).fdiv ((n : Int) + 1) = _
      rw [ih, ← CC_mul, Int.mul_fdiv_cancel _ (by lia)]
  exact key n
/-- the place of a set among its like, by Pascal's triangle -/
def rk : Nat → List Nat → Nat
  | _, [] => 0
  | k, p :: ps => CC p (k + 1) + rk (k + 1) ps
theorem rk_append (k : Nat) (a b : List Nat) : rk k (a ++ b) = rk k a + rk (k + a.length) b := by
  induction a generalizing k with
  | nil => simp [rk]
  | cons p a ih =>
    rw [List.cons_append]
    simp only [rk, ih, List.length_cons]
    rw [show k + 1 + a.length = k + (a.length + 1) by lia]
    lia
theorem rankTs_cons (ps : List Nat) : ∀ (j k : Nat) (h : j + k = ps.length), (((List.range' k j).map fun i => chs ((ps.map fun (p : Nat) => (p : Int))[i]?.getD 0) (i + 1)).sum) = (rk k (ps.drop k) : Int) := by
  intro j
  induction j with
  | zero =>
    intro k h
    rw [List.drop_eq_nil_of_le (by lia)]
    rfl
  | succ j ih =>
    intro k h
    have hk : k < ps.length := by lia
    rw [List.range'_succ, List.map_cons, List.sum_cons, ih (k + 1) (by lia), List.drop_eq_getElem_cons hk]
    simp only [rk, Int.natCast_add]
    rw [← chs_eq]
    simp [hk]
theorem rankV_eq (ps : List Nat) : rankV (ps.map fun (p : Nat) => (p : Int)) = (rk 0 ps : Int) := by
  have := rankTs_cons ps ps.length 0 (by lia)
  rw [List.drop_zero] at this
  rw [← this]
  unfold rankV rankTs
  rw [List.length_map, List.range_eq_range']
/-- the hockey stick -/
theorem rk_run (t r : Nat) : rk 0 (List.range' t r) + 1 = CC (t + r) r := by
  have key : ∀ (r k : Nat) , rk k (List.range' (t + k) r) + CC (t + k) k = CC (t + k + r) (k + r) := by
    intro r
    induction r with
    | zero => intro k; simp [rk]
    | succ r ih =>
      intro k
      rw [List.range'_succ]
      simp only [rk]
      have h1 := ih (k + 1)
      have h2 := CC_succ (t + k) k
      rw [show t + (k + 1) = t + k + 1 by lia] at h1
      rw [show t + k + (r + 1) = t + k + 1 + r by lia, show k + (r + 1) = k + 1 + r by lia, ← h1, h2]
      lia
  have h := key r 0
  simpa [CC_zero] using h
theorem rk_low (r : Nat) : rk 0 (List.range r) = 0 := by
  have h := rk_run 0 r
  rw [← List.range_eq_range', Nat.zero_add] at h
  have h2 : CC r r = 1 := by
    clear h
    induction r with
    | zero => rfl
    | succ r ih => rw [CC_succ, ih, CC_above (by lia)]
  lia
/-- a block's places, and those of the next -/
theorem rk_step (t r : Nat) (hr : 1 ≤ r) (up : List Nat) : rk 0 (List.range (r - 1) ++ [t + r] ++ up) = rk 0 (List.range' t r ++ up) + 1 := by
  rw [rk_append, rk_append, rk_append, rk_low]
  have h := rk_run t r
  simp only [List.length_append, List.length_range, List.length_range', List.length_cons, List.length_nil, rk]
  rw [show 0 + (r - 1) + 1 = r by lia, show 0 + (r - 1 + (0 + 1)) = r by lia, show 0 + r = r by lia]
  lia
theorem CC_pos : ∀ {n k : Nat}, k ≤ n → 0 < CC n k
  | n, 0, _ => by rw [CC_zero]; exact Nat.one_pos
  | n + 1, k + 1, h => by rw [CC_succ]; have := CC_pos (show k ≤ n by lia); lia
end Mine
end
section
set_option linter.unusedVariables false
set_option linter.unusedSimpArgs false
open PySem PySem.W PySem.Spec PySem.Calls PyProof.Rows
namespace Mine
theorem range_add (n m : Nat) : List.range (n + m) = List.range n ++ (List.range m).map (fun p => p + n) := by
  rw [List.range_add]
  congr 1
  apply List.map_congr_left
  intro a _
  lia
theorem bitsL_split (A n m u : Nat) (hu : u < 2 ^ n) : bitsL (2 ^ n * A + u) (n + m) = bitsL u n ++ (bitsL A m).map (fun p => p + n) := by
  unfold bitsL
  rw [range_add, List.filter_append, List.filter_map]
  congr 1
  · apply List.filter_congr
    intro p hp
    have := List.mem_range.mp hp
    rw [Nat.testBit_two_pow_mul_add _ hu, if_pos this]
  · congr 1
    apply List.filter_congr
    intro p _
    show (2 ^ n * A + u).testBit (p + n) = _
    rw [Nat.testBit_two_pow_mul_add _ hu, if_neg (by lia)]
    congr 1
    lia
theorem bitsL_run (t r : Nat) : bitsL ((2 ^ r - 1) * 2 ^ t) (t + r + 1) = List.range' t r := by
  have hb : ∀ j, ((2 ^ r - 1) * 2 ^ t).testBit j = decide (t ≤ j ∧ j < t + r) := by
    intro j
    rw [Nat.testBit_mul_two_pow, Nat.testBit_two_pow_sub_one]
    by_cases h1 : t ≤ j
    · by_cases h2 : j < t + r
      · have : j - t < r := by lia
        simp [h1, h2, this]
      · have : ¬ j - t < r := by lia
        simp [h2, this]
    · simp [h1]
  unfold bitsL
  rw [List.range_eq_range', show t + r + 1 = t + (r + 1) by lia, ← List.range'_append_1, List.filter_append, List.range'_concat, List.filter_append]
  have e1 : (List.range' 0 t).filter (fun p => ((2 ^ r - 1) * 2 ^ t).testBit p) = [] := by
    rw [List.filter_eq_nil_iff]
    intro p hp
    have := List.mem_range'_1.mp hp
    rw [hb]
    simp
    lia
  have e2 : (List.range' (0 + t) r).filter (fun p => ((2 ^ r - 1) * 2 ^ t).testBit p) = List.range' (0 + t) r := by
    rw [List.filter_eq_self]
    intro p hp
    have := List.mem_range'_1.mp hp
    rw [hb]
    simp
    lia
  have e3 : ([0 + t + 1 * r]).filter (fun p => ((2 ^ r - 1) * 2 ^ t).testBit p) = [] := by
    rw [List.filter_eq_nil_iff]
    intro p hp
    rw [List.mem_singleton.mp hp, hb]
    simp
  rw [e1, e2, e3, List.nil_append, List.append_nil, Nat.zero_add]
theorem bitsL_next (t r : Nat) (hr : 1 ≤ r) : bitsL (2 ^ (t + r) + (2 ^ (r - 1) - 1)) (t + r + 1) = List.range (r - 1) ++ [t + r] := by
  have hlt : 2 ^ (r - 1) - 1 < 2 ^ (t + r) := by
    have h1 : 2 ^ (r - 1) ≤ 2 ^ (t + r) := Nat.pow_le_pow_right (by decide) (by lia)
    have h2 := Nat.two_pow_pos (r - 1)
    lia
  have hs := bitsL_split 1 (t + r) 1 (2 ^ (r - 1) - 1) hlt
  rw [Nat.mul_one] at hs
  rw [hs]
  have e1 : bitsL (2 ^ (r - 1) - 1) (t + r) = List.range (r - 1) := by
    unfold bitsL
    rw [show t + r = (r - 1) + (t + 1) by lia, range_add, List.filter_append]
    have a1 : (List.range (r - 1)).filter (fun p => (2 ^ (r - 1) - 1).testBit p) = List.range (r - 1) := by
      rw [List.filter_eq_self]
      intro p hp
      have := List.mem_range.mp hp
      rw [Nat.testBit_two_pow_sub_one]
      simpa using this
    have a2 : ((List.range (t + 1)).map fun p => p + (r - 1)).filter (fun p => (2 ^ (r - 1) - 1).testBit p) = [] := by
      rw [List.filter_eq_nil_iff]
      intro p hp
      obtain ⟨q, _, rfl⟩ := List.mem_map.mp hp
      rw [Nat.testBit_two_pow_sub_one]
      simp
    rw [a1, a2, List.append_nil]
  have e2 : bitsL 1 1 = [0] := by decide
  rw [e1, e2]
  simp
/-- the next number with as many ones -/
def Nx (X Y : Nat) : Prop := ∃ A t r, 1 ≤ r ∧ X = 2 ^ (t + r + 1) * A + (2 ^ r - 1) * 2 ^ t ∧ Y = 2 ^ (t + r + 1) * A + (2 ^ (t + r) + (2 ^ (r - 1) - 1))
theorem odd_part : ∀ Y : Nat, 0 < Y → ∃ t A, Y = 2 ^ t * (2 * A + 1) := by
  intro Y
  induction Y using Nat.strongRecOn with
  | ind Y ih =>
    intro h
    rcases Nat.mod_two_eq_zero_or_one Y with h2 | h2
    · obtain ⟨t, A, e⟩ := ih (Y / 2) (by lia) (by lia)
      refine ⟨t + 1, A, ?_⟩
      have : Y = 2 * (Y / 2) := by lia
      rw [this, e, Nat.pow_succ]
      grind
    · exact ⟨0, Y / 2, by simp; lia⟩
theorem Nx.next : ∀ X : Nat, 0 < X → ∃ Y, Nx X Y := by
  have key : ∀ X : Nat, 0 < X → ∃ A t r, 1 ≤ r ∧ X = 2 ^ (t + r + 1) * A + (2 ^ r - 1) * 2 ^ t := by
    intro X
    induction X using Nat.strongRecOn with
    | ind X ih =>
      intro h
      rcases Nat.mod_two_eq_zero_or_one X with h2 | h2
      · obtain ⟨A, t, r, hr, e⟩ := ih (X / 2) (by lia) (by lia)
        refine ⟨A, t + 1, r, hr, ?_⟩
        have : X = 2 * (X / 2) := by lia
        rw [this, e, show t + 1 + r + 1 = t + r + 1 + 1 by lia, Nat.pow_succ 2 (t + r + 1), Nat.pow_succ 2 t]
        grind
      · rcases Nat.mod_two_eq_zero_or_one (X / 2) with h4 | h4
        · refine ⟨X / 4, 0, 1, Nat.le_refl _, ?_⟩
          simp
          lia
        · obtain ⟨A, t, r, hr, e⟩ := ih (X / 2) (by lia) (by lia)
          have ht : t = 0 := by
            rcases Nat.eq_zero_or_pos t with h0 | h0
            · exact h0
            · exfalso
              obtain ⟨k, rfl⟩ : ∃ k, t = k + 1 := ⟨t - 1, by lia⟩
              rw [show k + 1 + r + 1 = k + r + 1 + 1 by lia, Nat.pow_succ 2 (k + r + 1), Nat.pow_succ 2 k] at e
              have : X / 2 = 2 * (2 ^ (k + r + 1) * A + (2 ^ r - 1) * 2 ^ k) := by rw [e]; grind
              lia
          subst ht
          refine ⟨A, 0, r + 1, by lia, ?_⟩
          have e2 : X = 2 * (X / 2) + 1 := by lia
          have hR := Nat.two_pow_pos r
          rw [e2, e]
          simp only [Nat.zero_add, Nat.pow_zero, Nat.mul_one]
          rw [Nat.pow_succ 2 (r + 1), Nat.pow_succ 2 r]
          have e3 : 2 * (2 ^ r * 2 * A + (2 ^ r - 1)) + 1 = 2 ^ r * 2 * 2 * A + (2 * (2 ^ r - 1) + 1) := by grind
          rw [e3]
          lia
  intro X h
  obtain ⟨A, t, r, hr, e⟩ := key X h
  exact ⟨_, A, t, r, hr, e, rfl⟩
theorem Nx.prev : ∀ Y : Nat, 0 < Y → (∃ m, 1 ≤ m ∧ Y = 2 ^ m - 1) ∨ ∃ X, Nx X Y := by
  have key : ∀ Y : Nat, 0 < Y → (∃ m, 1 ≤ m ∧ Y = 2 ^ m - 1) ∨ ∃ A t r, 1 ≤ r ∧ Y = 2 ^ (t + r + 1) * A + (2 ^ (t + r) + (2 ^ (r - 1) - 1)) := by
    intro Y
    induction Y using Nat.strongRecOn with
    | ind Y ih =>
      intro h
      rcases Nat.mod_two_eq_zero_or_one Y with h2 | h2
      · right
        obtain ⟨t, A, e⟩ := odd_part (Y / 2) (by lia)
        refine ⟨A, t, 1, Nat.le_refl _, ?_⟩
        have : Y = 2 * (Y / 2) := by lia
        rw [this, e]
        simp only [Nat.sub_self, Nat.pow_zero, Nat.add_zero]
        rw [Nat.pow_succ 2 (t + 1), Nat.pow_succ 2 t]
        grind
      · rcases Nat.eq_zero_or_pos (Y / 2) with h0 | h0
        · left
          exact ⟨1, Nat.le_refl _, by lia⟩
        · rcases ih (Y / 2) (by lia) h0 with ⟨m, hm, e⟩ | ⟨A, t, r, hr, e⟩
          · left
            refine ⟨m + 1, by lia, ?_⟩
            have hM := Nat.two_pow_pos m
            rw [Nat.pow_succ]
            lia
          · right
            refine ⟨A, t, r + 1, by lia, ?_⟩
            obtain ⟨k, rfl⟩ : ∃ k, r = k + 1 := ⟨r - 1, by lia⟩
            have hK := Nat.two_pow_pos k
            rw [show t + (k + 1 + 1) + 1 = t + (k + 1) + 1 + 1 by lia, show t + (k + 1 + 1) = t + (k + 1) + 1 by lia, Nat.add_sub_cancel, Nat.pow_succ 2 (t + (k + 1) + 1), Nat.pow_succ 2 (t + (k + 1)), Nat.pow_succ 2 k]
            rw [Nat.add_sub_cancel, Nat.pow_succ 2 (t + (k + 1))] at e
            have e2 : Y = 2 * (Y / 2) + 1 := by lia
            rw [e2, e]
            generalize 2 ^ (t + (k + 1)) = P
            have e3 : 2 * (P * 2 * A + (P + (2 ^ k - 1))) + 1 = P * 2 * 2 * A + (P * 2 + (2 * (2 ^ k - 1) + 1)) := by grind
            rw [e3]
            lia
  intro Y h
  rcases key Y h with h | ⟨A, t, r, hr, e⟩
  · exact .inl h
  · exact .inr ⟨_, A, t, r, hr, rfl, e⟩
end Mine
end
section
set_option linter.unusedVariables false
set_option linter.unusedSimpArgs false
open PySem PySem.W PySem.Spec PySem.Calls PyProof.Rows
namespace Mine
theorem pow_le' {a b : Nat} (h : a ≤ b) : 2 ^ a ≤ 2 ^ b := Nat.pow_le_pow_right (by decide) h
theorem low_lt (t r : Nat) : (2 ^ r - 1) * 2 ^ t < 2 ^ (t + r) := by
  rw [Nat.pow_add, Nat.mul_comm (2 ^ t)]
  exact Nat.mul_lt_mul_of_pos_right (by have := Nat.two_pow_pos r; lia) (Nat.two_pow_pos t)
theorem top_lt (t r : Nat) (hr : 1 ≤ r) : 2 ^ (t + r) + (2 ^ (r - 1) - 1) < 2 ^ (t + r + 1) := by
  have h1 : 2 ^ (r - 1) ≤ 2 ^ (t + r) := pow_le' (by lia)
  have h2 := Nat.two_pow_pos (r - 1)
  rw [Nat.pow_succ]
  lia
theorem Nx.pos {X Y : Nat} (h : Nx X Y) : 0 < X ∧ X < Y := by
  obtain ⟨A, t, r, hr, rfl, rfl⟩ := h
  have h1 := low_lt t r
  have h2 : 2 ^ 1 ≤ 2 ^ r := pow_le' hr
  have h3 : 0 < (2 ^ r - 1) * 2 ^ t := Nat.mul_pos (by lia) (Nat.two_pow_pos t)
  lia
theorem Nx.size {X Y L : Nat} (h : Nx X Y) (hX : X < 2 ^ L) : Y < 2 ^ (L + 1) ∧ ∃ A t r, 1 ≤ r ∧ t + r ≤ L ∧ X = 2 ^ (t + r + 1) * A + (2 ^ r - 1) * 2 ^ t ∧ Y = 2 ^ (t + r + 1) * A + (2 ^ (t + r) + (2 ^ (r - 1) - 1)) := by
  obtain ⟨A, t, r, hr, rfl, rfl⟩ := h
  have htr : t + r ≤ L := by
    rcases Nat.lt_or_ge L (t + r) with h | h
    · exfalso
      have h1 : 2 ^ L ≤ 2 ^ (t + (r - 1)) := pow_le' (by lia)
      have h2 : 2 ^ (t + (r - 1)) ≤ (2 ^ r - 1) * 2 ^ t := by
        rw [Nat.pow_add, Nat.mul_comm]
        refine Nat.mul_le_mul_right _ ?_
        obtain ⟨k, rfl⟩ : ∃ k, r = k + 1 := ⟨r - 1, by lia⟩
        have := Nat.two_pow_pos k
        rw [Nat.pow_succ, Nat.add_sub_cancel]
        lia
      lia
    · exact h
  refine ⟨?_, A, t, r, hr, htr, rfl, rfl⟩
  have h1 := top_lt t r hr
  rcases Nat.eq_zero_or_pos A with h0 | h0
  · subst h0
    have h2 : 2 ^ (t + r + 1) ≤ 2 ^ (L + 1) := pow_le' (by lia)
    lia
  · have hn : t + r + 1 ≤ L := by
      rcases Nat.lt_or_ge L (t + r + 1) with h | h
      · exfalso
        have h1 : 2 ^ L ≤ 2 ^ (t + r + 1) := pow_le' (by lia)
        have h2 : 2 ^ (t + r + 1) * 1 ≤ 2 ^ (t + r + 1) * A := Nat.mul_le_mul_left _ h0
        lia
      · exact h
    have h2 : A < 2 ^ (L - (t + r + 1)) := by
      have e : 2 ^ L = 2 ^ (t + r + 1) * 2 ^ (L - (t + r + 1)) := by rw [← Nat.pow_add]; congr 1; lia
      refine Nat.lt_of_mul_lt_mul_left (a := 2 ^ (t + r + 1)) ?_
      lia
    have h3 : 2 ^ (t + r + 1) * A + 2 ^ (t + r + 1) ≤ 2 ^ L := by
      have e : 2 ^ L = 2 ^ (t + r + 1) * 2 ^ (L - (t + r + 1)) := by rw [← Nat.pow_add]; congr 1; lia
      rw [e, ← Nat.mul_succ]
      exact Nat.mul_le_mul_left _ h2
    have h4 : 2 ^ L ≤ 2 ^ (L + 1) := pow_le' (by lia)
    lia
theorem blk_cast (A t r : Nat) : ((2 ^ (t + r + 1) * A + (2 ^ r - 1) * 2 ^ t : Nat) : Int) = blk A t r := by
  unfold blk
  have hR : 1 ≤ 2 ^ r := Nat.one_le_two_pow
  rw [Int.natCast_add, Int.natCast_mul, Int.natCast_mul, Int.natCast_sub hR, cast_pow2, cast_pow2, cast_pow2]
  rfl
theorem nxt_cast (A t r : Nat) : ((2 ^ (t + r + 1) * A + (2 ^ (t + r) + (2 ^ (r - 1) - 1)) : Nat) : Int) = nxt A t r := by
  unfold nxt
  have hR : 1 ≤ 2 ^ (r - 1) := Nat.one_le_two_pow
  rw [Int.natCast_add, Int.natCast_mul, Int.natCast_add, Int.natCast_sub hR, cast_pow2, cast_pow2, cast_pow2]
  lia
/-- a step's bounds, as step_spec asks for them -/
def StepOk (x : Int) : Prop := 0 < lo x ∧ lo x < 2 ^ 60 ∧ -(2 ^ 64) < zed x ∧ zed x < 2 ^ 64 ∧ (stepR x == -lo x) = true
theorem stepOk_blk (A : Int) (t r : Nat) (hr : 1 ≤ r) (h : t + r ≤ 40) : StepOk (blk A t r) := by
  have hz := (zed_blk A t r hr).2
  have hl := lo_blk A t r hr
  have h1 := pow_pos' t
  have h2 : (2 : Int) ^ t ≤ 2 ^ 40 := by rw [← cast_pow2, ← cast_pow2]; exact Int.ofNat_le.mpr (pow_le' (by lia))
  have h3 : (2 : Int) ^ (r + 1) * 2 ^ t ≤ 2 ^ 41 := by
    rw [← Int.pow_add, ← cast_pow2, ← cast_pow2]
    exact Int.ofNat_le.mpr (pow_le' (by lia))
  have h4 : (1 : Int) ≤ 2 ^ (r + 1) := by rw [← cast_pow2]; exact Int.ofNat_le.mpr Nat.one_le_two_pow
  have h5 : 0 ≤ ((2 : Int) ^ (r + 1) - 1) * 2 ^ t := Int.mul_nonneg (by lia) (by lia)
  refine ⟨by rw [hl]; exact h1, by rw [hl]; lia, by rw [hz]; lia, ?_, (step_blk A t r hr).2⟩
  rw [hz, Int.sub_mul, Int.one_mul]
  lia
theorem stepOk_negpow (n : Nat) (h : n ≤ 40) : StepOk (-2 ^ n) ∧ stepV (-2 ^ n) = -1 := by
  obtain ⟨h1, h2, h3, h4⟩ := step_negpow n
  have hp := pow_pos' n
  have h5 : (2 : Int) ^ n ≤ 2 ^ 40 := by rw [← cast_pow2, ← cast_pow2]; exact Int.ofNat_le.mpr (pow_le' (by lia))
  exact ⟨⟨by rw [h3]; exact hp, by rw [h3]; lia, by rw [h4]; lia, by rw [h4]; lia, h2⟩, h1⟩
theorem Nx.forth {X Y : Nat} (h : Nx X Y) (hX : X < 2 ^ 32) : StepOk (X : Int) ∧ stepV (X : Int) = (Y : Int) := by
  obtain ⟨-, A, t, r, hr, htr, rfl, rfl⟩ := h.size hX
  rw [blk_cast, nxt_cast]
  exact ⟨stepOk_blk _ _ _ hr (by lia), (step_blk _ _ _ hr).1⟩
theorem Nx.back {X Y : Nat} (h : Nx X Y) (hX : X < 2 ^ 32) : StepOk (Builtin.bitNot (Y : Int)) ∧ Builtin.bitNot (stepV (Builtin.bitNot (Y : Int))) = (X : Int) := by
  obtain ⟨-, A, t, r, hr, htr, rfl, rfl⟩ := h.size hX
  rw [blk_cast, nxt_cast]
  obtain ⟨k, rfl⟩ : ∃ k, r = k + 1 := ⟨r - 1, by lia⟩
  have e : Builtin.bitNot (nxt A t (k + 1)) = blk (-A - 1) k (t + 1) := by
    unfold Builtin.bitNot nxt blk
    rw [Nat.add_sub_cancel, show k + (t + 1) + 1 = t + (k + 1) + 1 by lia, show t + (k + 1) = t + 1 + k by lia, Int.pow_succ 2 (t + 1 + k), Int.pow_add 2 (t + 1) k]
    generalize (2 : Int) ^ k = K
    generalize (2 : Int) ^ (t + 1) = TT
    grind
  rw [e]
  refine ⟨stepOk_blk _ _ _ (by lia) (by lia), ?_⟩
  rw [(step_blk _ _ _ (by lia)).1]
  unfold Builtin.bitNot nxt blk
  rw [Nat.add_sub_cancel, show k + (t + 1) + 1 = t + (k + 1) + 1 by lia, show k + (t + 1) = t + 1 + k by lia, show t + (k + 1) = t + 1 + k by lia, Int.pow_succ 2 (t + 1 + k), Int.pow_add 2 (t + 1) k, Int.pow_succ 2 t, Int.pow_succ 2 k]
  generalize (2 : Int) ^ k = K
  generalize (2 : Int) ^ t = TT
  grind
theorem back_first (m : Nat) (h : m ≤ 40) : StepOk (Builtin.bitNot ((2 ^ m - 1 : Nat) : Int)) ∧ Builtin.bitNot (stepV (Builtin.bitNot ((2 ^ m - 1 : Nat) : Int))) = 0 := by
  have e : Builtin.bitNot ((2 ^ m - 1 : Nat) : Int) = -2 ^ m := by
    unfold Builtin.bitNot
    rw [Int.natCast_sub Nat.one_le_two_pow, cast_pow2]
    lia
  rw [e]
  have h1 := stepOk_negpow m h
  refine ⟨h1.1, ?_⟩
  rw [h1.2]
  rfl
/-- the places of the next number: as many, one further in Pascal's order -/
theorem Nx.told {X Y : Nat} (h : Nx X Y) (hY : Y < 2 ^ 32) : (bitsL Y 32).length = (bitsL X 32).length ∧ rk 0 (bitsL Y 32) = rk 0 (bitsL X 32) + 1 := by
  have hX : X < 2 ^ 32 := Nat.lt_trans h.pos.2 hY
  obtain ⟨A, t, r, hr, rfl, rfl⟩ := h
  have h1 := top_lt t r hr
  have h2 : (2 ^ r - 1) * 2 ^ t < 2 ^ (t + r + 1) := Nat.lt_of_lt_of_le (low_lt t r) (pow_le' (by lia))
  have hn : t + r + 1 ≤ 32 := by
    rcases Nat.lt_or_ge 32 (t + r + 1) with h | h
    · exfalso
      have h3 : 2 ^ 32 ≤ 2 ^ (t + r) := pow_le' (by lia)
      lia
    · exact h
  obtain ⟨m, hm⟩ : ∃ m, 32 = (t + r + 1) + m := ⟨32 - (t + r + 1), by lia⟩
  rw [hm, bitsL_split _ _ _ _ h1, bitsL_split _ _ _ _ h2, bitsL_next t r hr, bitsL_run]
  refine ⟨?_, rk_step t r hr _⟩
  simp only [List.length_append, List.length_range, List.length_range', List.length_cons, List.length_nil]
  lia
theorem first_told (m : Nat) (h : m ≤ 32) : (bitsL (2 ^ m - 1) 32).length = m ∧ rk 0 (bitsL (2 ^ m - 1) 32) = 0 := by
  have e : bitsL (2 ^ m - 1) 32 = List.range m := by
    unfold bitsL
    obtain ⟨k, hk⟩ : ∃ k, 32 = m + k := ⟨32 - m, by lia⟩
    rw [hk, range_add, List.filter_append]
    have a1 : (List.range m).filter (fun p => (2 ^ m - 1).testBit p) = List.range m := by
      rw [List.filter_eq_self]
      intro p hp
      have := List.mem_range.mp hp
      rw [Nat.testBit_two_pow_sub_one]
      simpa using this
    have a2 : ((List.range k).map fun p => p + m).filter (fun p => (2 ^ m - 1).testBit p) = [] := by
      rw [List.filter_eq_nil_iff]
      intro p hp
      obtain ⟨q, _, rfl⟩ := List.mem_map.mp hp
      rw [Nat.testBit_two_pow_sub_one]
      simp
    rw [a1, a2, List.append_nil]
  rw [e, rk_low]
  simp
theorem first_small {m : Nat} (h : 2 ^ m - 1 < 2 ^ 32) : m ≤ 32 := by
  rcases Nat.lt_or_ge 32 m with h1 | h1
  · exfalso
    have h2 : 2 ^ 33 ≤ 2 ^ m := pow_le' h1
    lia
  · exact h1
end Mine
end
section
set_option linter.unusedVariables false
set_option linter.unusedSimpArgs false
open PySem PySem.W PySem.Spec PySem.Calls PyProof.Rows
namespace Mine
noncomputable def lawFd (p : Params) : Option FuncData := match (hk.heap_1 p).lookup 177 with
  | some o => (match o.data with
    | .func fd => some fd
    | _ => none)
  | none => none
noncomputable def lawBody (p : Params) : List Stmt := match lawFd p with
  | some fd => (match fd.body with
    | .stmts b => b
    | _ => [])
  | none => []
noncomputable def lawScope (p : Params) : Scope := match lawFd p with
  | some fd => fd.scope
  | none => default
noncomputable abbrev lawEnv (p : Params) (L : Addr) : Env := envOfC (Str.ofString "law") (lawScope p) L 177 (.ref 176)
/-- the law's body from its k-th statement on -/
abbrev LawAt (w : World) (L : Addr) (k : Nat) (Q : Flow → Shared → Prop) (s : Shared) : Prop :=
  wpAny (model PySem.Challenge.rw_un0019_01.row.prog w) (callerA.deeper (lawEnv w.params L)) (execs ((lawBody w.params).drop k) (lawEnv w.params L)) Q (fun _ _ => False) s
/-- how the law ends -/
abbrev LawRet (g : Heap) (L : Addr) (Q : Flow → Shared → Prop) (s : Shared) : Prop :=
  ∀ h' tk' m' led o3 o7, Fr g L h' m' → News g L h' led → (30, tabObj o3) ∈ led → (37, tabObj o7) ∈ led → Q (.ret (.bool true)) { s with heap := h', toks := tk' }
/-- a row that i numbers of the script have made -/
structure RowOk (i : Nat) (rs : List Int) : Prop where
  bits : ∀ x ∈ rs, x = 0 ∨ x = 1
  len : rs.length ≤ 5 * i + i % 2
  ones : (rs.filter fun x => decide (x = 1)).length ≤ 4 * (i / 2)
theorem TokIn.nil {a b : Nat} : TokIn a b [] := fun v hv => by cases hv
theorem fmod_two (i : Nat) : Int.fmod (0 + (i : Int)) 2 = ((i % 2 : Nat) : Int) := by
  rw [Int.fmod_eq_emod_of_nonneg _ (by decide)]
  lia
theorem row_times {a : Int} (i : Nat) : 0 ≤ Int.fmod a (7 - Int.fmod (0 + (i : Int)) 2 * 2) ∧ Int.fmod a (7 - Int.fmod (0 + (i : Int)) 2 * 2) < 7 - 2 * ((i % 2 : Nat) : Int) := by
  rw [fmod_two]
  have h : (0 : Int) < 7 - ((i % 2 : Nat) : Int) * 2 := by lia
  rw [Int.fmod_eq_emod_of_nonneg _ (Int.le_of_lt h)]
  have h1 := Int.emod_nonneg a (Int.ne_of_gt h)
  have h2 := Int.emod_lt_of_pos a h
  lia
theorem RowOk.step {i : Nat} {rs : List Int} {x : Int} (h : RowOk i rs) (h0 : 0 ≤ x) (h1 : x < 7 - 2 * ((i % 2 : Nat) : Int)) : RowOk (i + 1) (rs ++ List.replicate x.toNat (Int.fmod (0 + (i : Int)) 2)) := by
  rw [fmod_two]
  have hl := h.len
  have ho := h.ones
  refine ⟨?_, ?_, ?_⟩
  · intro y hy
    rcases List.mem_append.mp hy with hy | hy
    · exact h.bits y hy
    · rw [(List.mem_replicate.mp hy).2]
      lia
  · rw [List.length_append, List.length_replicate]
    lia
  · rw [List.filter_append, List.length_append, List.filter_replicate]
    rcases Nat.mod_two_eq_zero_or_one i with h2 | h2
    · rw [h2] at h1 ⊢
      rw [if_neg (by simp)]
      simp only [List.length_nil]
      lia
    · rw [h2] at h1 ⊢
      rw [if_pos (by simp)]
      rw [List.length_replicate]
      lia
theorem RowOk.nil : RowOk 0 [] := ⟨fun _ h => (nomatch h), Nat.le_refl _, Nat.le_refl _⟩
/-- a fresh place lies above all that the law keeps -/
abbrev Above (L l : Addr) : Prop := @LT.lt Nat _ (L + 1 + 1 + 1 + 1) l ∧ @LT.lt Nat _ (L + 1 + 1 + 1) l ∧ @LT.lt Nat _ (L + 1 + 1) l ∧ @LT.lt Nat _ (L + 1) l ∧ @LT.lt Nat _ 30 l ∧ @LT.lt Nat _ 37 l
/-- and one that only is none of them -/
abbrev Aside (L l : Addr) : Prop := @Ne Nat (L + 1 + 1 + 1 + 1) l ∧ @Ne Nat (L + 1 + 1 + 1) l ∧ @Ne Nat (L + 1 + 1) l ∧ @Ne Nat (L + 1) l ∧ @Ne Nat 30 l ∧ @Ne Nat 37 l
end Mine
end
section
set_option linter.unusedVariables false
set_option linter.unusedSimpArgs false
open PySem PySem.W PySem.Spec PySem.Calls PyProof.Rows
namespace Mine
section
variable {prog : Program} {w : World} {A₀ : Around} {E : Value → Shared → Prop} {s' : Shared} {h₀ h : Heap} {outer : List Env} {L a e : Addr} {m : Str → Option Value} {name : Str} {scope : Scope} {cd : Value} {cl : List (Str × Addr)} {K : Frag}
  {b₀ : Stmt} {suite : List Stmt} {pos np : Pos} {rest : List ExceptHandler} {Q : Flow → Shared → Prop} {news : List (Addr × Obj)}
  {p : Program} {loose : List Str} {mean : ExcName → Option Value} {mg mb : Str → Option Value} {x : Str} {X T' : String}
/-- a clause by a built-in's name meets what a callee raised, in a frame with cells -/
theorem caught_cells (B : Below A₀ h₀ outer h₀) (F : Fr h₀ L h m) (hsm : h.UpToSlots s'.heap) (R : RaisedN h₀ (envX name scope L a cd cl :: outer) e (.type X) news s'.heap)
    (XK : K.In h₀) (T : TopRead p loose mg mb h₀) (he : nsIn K mainGlobals x = some none) (hv : bootBuiltins x = some (.type T')) (hn : x ≠ "__name__")
    (hexc : isSubtype (.type T') (.type "BaseException") = pure true) (hnt : isSubtype (.type ((Manifest.find? T').elim "type" fun y => y.metatype)) (.type "tuple") = pure false) (hsub : isSubtype (.type X) (.type T') = pure true)
    (k : ∀ h', Fr h₀ L h' m → News h₀ L h' news →
      wpAny (model prog w) ((A₀.deeper (envX name scope L a cd cl)).mark (some (.ref e))) (execs (b₀ :: suite) (envX name scope L a cd cl)) Q E { s' with heap := h' })
    (hk : scope.kind = .function) (hx : (envX name scope L a cd cl).kindOf x = some .globalImplicit) (hd : (x == ("__debug__" : Str)) = false)
    (hE : PassesOwnAt (model prog w) ((A₀.deeper (envX name scope L a cd cl)).mark (some (.ref e))) (A₀.deeper (envX name scope L a cd cl)) (envX name scope L a cd cl) E) :
    wpAny (model prog w) (A₀.deeper (envX name scope L a cd cl)) (noteFrame (.ref e) (envX name scope L a cd cl))
      (fun _ s₂ => wpAny (model prog w) (A₀.deeper (envX name scope L a cd cl)) (setFlight (.ref e) none) (fun _ s₃ =>
        wpAny (model prog w) (A₀.deeper (envX name scope L a cd cl)) (handleBy (.ref e) (envX name scope L a cd cl) (.ExceptHandler (some (.Name x np)) none (b₀ :: suite) pos :: rest)) Q E s₃) E s₂) E s' := by
  obtain ⟨H, a0, hH, hl, hfl⟩ := R
  have hL : H.get? L = none := by
    obtain ⟨_, ⟨L', _, hf, hn', _⟩, _⟩ := hfl.2.2.1
    have e1 : L = L' := Option.some.inj hf
    rw [e1]; exact hn'
  have apart : ∀ q ∈ news, q.1 ≠ L := fun q hq e1 => by
    have := (hl q hq).1
    rw [e1, hL] at this
    cases this
  refine wpAny_looks_onW (Around.frames_deeper B.stack) rfl hfl fun h₁ held₁ up₁ => ?_
  refine wpAny_landsW held₁ fun h₂ held₂ up₂ => ?_
  have based := flyingW_base hH held₂
  obtain ⟨ob, hob, hobc⟩ := based.there
  have F₂ := F.of_stays based.1 (hsm.trans (up₁.trans up₂))
  refine wpAny_handleBy_builtin (X := X) (T := T') (b := true) hexc hnt hsub (nameX_B F₂ XK T he hv hn ⟨rfl, ⟨ob, hob, hobc⟩, ?_⟩ hk hx hd)
  refine lands_againW held₂ fun h₃ fl₃ up₃ => ?_
  have F₃ := F.of_stays (flyingW_base hH fl₃).1 ((hsm.trans (up₁.trans up₂)).trans up₃)
  exact wpAny_passesOwnAt hE (k h₃ F₃ fun q hq => ⟨fl₃.1 _ _ (hl q hq).1, apart q hq, (hl q hq).2⟩)
end
end Mine
end
section
set_option linter.unusedVariables false
set_option linter.unusedSimpArgs false
open PySem PySem.W PySem.Spec PySem.Calls PyProof.Rows
namespace Mine
theorem fst_off {l : List (Addr × Obj)} {z : Addr × Obj} {a : Addr} (h : a ∉ l.map (·.1)) (hz : z ∈ l) : z.1 ≠ a := fun e => h (e ▸ List.mem_map_of_mem hz)
theorem subM {α : Type} {A B : List α} (h : ∀ z ∈ A, z ∈ B) {z : α} (hz : z ∈ A) : z ∈ B := h z hz
theorem own_off {A t own : List (Addr × Obj)} {I : Addr} (hnw : ∀ p ∈ A, p.1 ≠ I) (hsub : ∀ z ∈ t, z ∈ A) (hown : ∀ p ∈ own, p.1 = I) : ∀ z ∈ own, z.1 ∉ t.map (·.1) := fun z hz hm => by
  obtain ⟨q, hq, e⟩ := List.mem_map.mp hm
  exact hnw q (hsub q hq) (e.trans (hown z hz))
theorem off_tail {R A t : List (Addr × Obj)} {x : Addr × Obj} (o1 : ∀ z ∈ R, z.1 ∉ (x :: t).map (·.1)) (hsub : ∀ z ∈ A, z ∈ R) : ∀ z ∈ A, z.1 ∉ t.map (·.1) := fun z hz hm => o1 z (hsub z hz) (List.mem_cons_of_mem _ hm)
theorem ix_of {A B t : List (Addr × Obj)} {I : Addr} (hnw : ∀ p ∈ A, p.1 ≠ I) (hsub : ∀ z ∈ B, z ∈ A) (hIt : I ∉ t.map (·.1)) : ∀ z ∈ B ++ t, z.1 ≠ I := fun z hz => (List.mem_append.mp hz).elim (fun h => hnw z (hsub z h)) (fst_off hIt)
theorem tabSt_tab {P : Addr} {line col : Nat} {qual : Str} {tb : List (Addr × Obj)} (S : TabSt P line col qual tb) : ∃ o, (P, tabObj o) ∈ tb := by
  rcases S with rfl | ⟨c', oc, vs, t, rfl, _⟩
  · exact ⟨_, List.mem_cons_self⟩
  · exact ⟨_, List.mem_cons_self⟩
end Mine
end
section
set_option linter.unusedVariables false
set_option linter.unusedSimpArgs false
open PySem PySem.W PySem.Spec PySem.Calls PyProof.Rows
namespace Mine
/-- four numbers, each the next of the one ahead -/
structure ChainOk (c0 c1 c2 c3 r0 many : Nat) : Prop where
  n1 : Nx c0 c1
  n2 : Nx c1 c2
  n3 : Nx c2 c3
  small : c3 < 2 ^ 32
  len : (bitsL c0 32).length = many
  rank : rk 0 (bitsL c0 32) = r0
  many2 : 2 ≤ many
theorem ChainOk.told {c0 c1 c2 c3 r0 many : Nat} (h : ChainOk c0 c1 c2 c3 r0 many) :
    (c0 < 2 ^ 32 ∧ c1 < 2 ^ 32 ∧ c2 < 2 ^ 32) ∧ ((bitsL c1 32).length = many ∧ (bitsL c2 32).length = many ∧ (bitsL c3 32).length = many) ∧
      (rk 0 (bitsL c1 32) = r0 + 1 ∧ rk 0 (bitsL c2 32) = r0 + 2 ∧ rk 0 (bitsL c3 32) = r0 + 3) := by
  have p1 := h.n1.pos
  have p2 := h.n2.pos
  have p3 := h.n3.pos
  have s2 : c2 < 2 ^ 32 := Nat.lt_trans p3.2 h.small
  have s1 : c1 < 2 ^ 32 := Nat.lt_trans p2.2 s2
  have s0 : c0 < 2 ^ 32 := Nat.lt_trans p1.2 s1
  have t1 := h.n1.told s1
  have t2 := h.n2.told s2
  have t3 := h.n3.told h.small
  have l := h.len
  have r := h.rank
  exact ⟨⟨s0, s1, s2⟩, ⟨by lia, by lia, by lia⟩, by lia, by lia, by lia⟩
/-- what stands after i steps back -/
structure BackOk (c0 c1 c2 c3 r0 many i b : Nat) : Prop where
  at0 : i = 0 → b = c3
  at1 : i = 1 → b = c2
  at2 : i = 2 → b = c1
  at3 : i = 3 → b = c0
  told : i ≤ r0 + 3 → b < 2 ^ 32 ∧ (bitsL b 32).length = many ∧ rk 0 (bitsL b 32) + i = r0 + 3
  gone : r0 + 3 < i → b = 0
theorem BackOk.start {c0 c1 c2 c3 r0 many : Nat} (h : ChainOk c0 c1 c2 c3 r0 many) : BackOk c0 c1 c2 c3 r0 many 0 c3 :=
  ⟨fun _ => rfl, fun e => by lia, fun e => by lia, fun e => by lia, fun _ => ⟨h.small, h.told.2.1.2.2, by have := h.told.2.2.2.2; lia⟩, fun e => by lia⟩
theorem BackOk.step {c0 c1 c2 c3 r0 many i b : Nat} (C : ChainOk c0 c1 c2 c3 r0 many) (h : BackOk c0 c1 c2 c3 r0 many i b) :
    ∃ b', BackOk c0 c1 c2 c3 r0 many (i + 1) b' ∧ StepOk (Builtin.bitNot (b : Int)) ∧ Builtin.bitNot (stepV (Builtin.bitNot (b : Int))) = (b' : Int) := by
  obtain ⟨⟨s0, s1, s2⟩, ⟨l1, l2, l3⟩, r1, r2, r3⟩ := C.told
  have l0 := C.len
  have r0' := C.rank
  by_cases i0 : i = 0
  · have e := h.at0 i0
    subst i0; subst e
    have := C.n3.back s2
    exact ⟨c2, ⟨fun e => by lia, fun _ => rfl, fun e => by lia, fun e => by lia, fun _ => ⟨s2, l2, by lia⟩, fun e => by lia⟩, this.1, this.2⟩
  by_cases i1 : i = 1
  · have e := h.at1 i1
    subst i1; subst e
    have := C.n2.back s1
    exact ⟨c1, ⟨fun e => by lia, fun e => by lia, fun _ => rfl, fun e => by lia, fun _ => ⟨s1, l1, by lia⟩, fun e => by lia⟩, this.1, this.2⟩
  by_cases i2 : i = 2
  · have e := h.at2 i2
    subst i2; subst e
    have := C.n1.back s0
    exact ⟨c0, ⟨fun e => by lia, fun e => by lia, fun e => by lia, fun _ => rfl, fun _ => ⟨s0, l0, by lia⟩, fun e => by lia⟩, this.1, this.2⟩
  by_cases hr : i ≤ r0 + 3
  · obtain ⟨sb, lb, rb⟩ := h.told hr
    have hb : 0 < b := by
      rcases Nat.eq_zero_or_pos b with h0 | h0
      · exfalso
        subst h0
        rw [bitsL_zero] at lb
        have := C.many2
        simp at lb
        lia
      · exact h0
    rcases Nx.prev b hb with ⟨m, hm, e⟩ | ⟨X, hX⟩
    · subst e
      have hm32 := first_small sb
      have ft := first_told m hm32
      have bf := back_first m (by lia)
      exact ⟨0, ⟨fun e => by lia, fun e => by lia, fun e => by lia, fun e => by lia, fun e => by lia, fun _ => rfl⟩, bf.1, bf.2⟩
    · have hXs : X < 2 ^ 32 := Nat.lt_trans hX.pos.2 sb
      have ht := hX.told sb
      have hbk := hX.back hXs
      exact ⟨X, ⟨fun e => by lia, fun e => by lia, fun e => by lia, fun e => by lia, fun e => ⟨hXs, by lia, by lia⟩, fun e => by lia⟩, hbk.1, hbk.2⟩
  · have e := h.gone (by lia)
    subst e
    have bf := back_first 0 (by lia)
    exact ⟨0, ⟨fun e => by lia, fun e => by lia, fun e => by lia, fun e => by lia, fun e => by lia, fun _ => rfl⟩, bf.1, bf.2⟩
theorem ChainOk.of {c0 r0 many : Nat} (h0 : c0 < 2 ^ 29) (hl : (bitsL c0 32).length = many) (hr : rk 0 (bitsL c0 32) = r0) (hm : 2 ≤ many) : ∃ c1 c2 c3, ChainOk c0 c1 c2 c3 r0 many := by
  have hp : 0 < c0 := by
    rcases Nat.eq_zero_or_pos c0 with h | h
    · exfalso
      subst h
      rw [bitsL_zero] at hl
      simp at hl
      lia
    · exact h
  obtain ⟨c1, n1⟩ := Nx.next c0 hp
  obtain ⟨c2, n2⟩ := Nx.next c1 (Nat.lt_trans n1.pos.1 n1.pos.2)
  obtain ⟨c3, n3⟩ := Nx.next c2 (Nat.lt_trans n2.pos.1 n2.pos.2)
  have s1 := (n1.size (L := 29) h0).1
  have s2 := (n2.size (L := 30) s1).1
  have s3 := (n3.size (L := 31) s2).1
  exact ⟨c1, c2, c3, n1, n2, n3, s3, hl, hr, hm⟩
theorem ChainOk.forth {c0 c1 c2 c3 r0 many : Nat} (h : ChainOk c0 c1 c2 c3 r0 many) : (StepOk (c0 : Int) ∧ stepV (c0 : Int) = (c1 : Int)) ∧ (StepOk (c1 : Int) ∧ stepV (c1 : Int) = (c2 : Int)) ∧ (StepOk (c2 : Int) ∧ stepV (c2 : Int) = (c3 : Int)) := by
  obtain ⟨⟨s0, s1, s2⟩, -⟩ := h.told
  exact ⟨h.n1.forth s0, h.n2.forth s1, h.n3.forth s2⟩
end Mine
end
section
set_option linter.unusedVariables false
set_option linter.unusedSimpArgs false
open PySem PySem.W PySem.Spec PySem.Calls PyProof.Rows
namespace Mine
local macro_rules | `(tactic| walk_at "call ref") => `(tactic| (k_here; refine wpAny_call ?_; k_dflt (refine' code_def ?k1 ?k2 ?k3 ?k4 ?k5 ?kA ?kF ?kK ?k6 ?k7 ?k8 ?k9 ?kB ?_ ?c2 ?c3 ?c4 ?c5; (case kA => exact rfl); (case kF => exact rfl); (case kK => first | exact rfl | assumption); (case k1 => k_asm); (case k2 => k_asm); (case k3 => k_asm); (case k4 => k_asm); (case k5 => k_asm); (case k6 => k_is); (case k7 => k_is); (case k8 => ktr_room); (case k9 => exact BindsTo.of_eq rfl); (case c5 => decide); (case kB => exact locs rfl); (case c2 => exact rfl); (case c3 => exact rfl); (case c4 => exact rfl); k_whole; intro g' L' h' FG' F' N' B' X' T'; (try dsimp only); (try k_lift B'); (try k_fold))))
local macro_rules | `(tactic| walk_at "exec Raise some none") => `(tactic| (k_here; (with_reducible show wpAny _ _ (exec (Stmt.Raise (some (Expr.Name _ _)) none _) _) _ _ _); (with_reducible rename Fr _ _ _ _ => kF); k_dflt (refine' Raise_classB ?hh excClass_ZeroDivisionError ?hs ?hx ?_; (case hh => rfl); (case hs => (rw [isSubtype_type]; kernel_rfl)); (case hx => (refine' name_B kF ?k1 ?k2 ?k3 ?k4 ?k5 ?_; (case k1 => k_asm); (case k2 => k_asm); (case k3 => k_is); (case k4 => boot_by_name); (case k5 => decide); exact ⟨rfl, rfl⟩))); intro h' e' X1'))
local macro_rules | `(tactic| walk_at "execs cons") => `(tactic| refine wpAny_execs_cons ?_)
set_option maxRecDepth 100000 in
set_option maxHeartbeats 8000000 in
theorem seg13 (w : World) (loose mean mg mb) (g' : Heap) (L' : Addr) (s : Shared) (Q : Flow → Shared → Prop) (M : Str → Option Value) (o3 o7 : Array Value)
    (F : Fr g' L' s.heap M) (N : News g' L' s.heap [(30, tabObj o3), (37, tabObj o7)])
    (X' : (hk.heap_1 w.params).In g') (T' : Top topProg loose mean mg mb g') (B' : Below callerA g' [] g') (lL : 30 < L' ∧ 37 < L') (hret : LawRet g' L' Q s) : LawAt w L' 13 Q s := by
  revert X'
  unfold LawAt lawEnv
  w_top off
  k_fill
  intro X'
  generalize hsc : lawScope w.params = sc
  generalize hbd : List.drop 13 (lawBody w.params) = bd
  conv at hsc => lhs; whnf
  conv at hbd => lhs; whnf
  subst hsc
  subst hbd
  k_steps
  refine wpAny_Try_except ?_
  k_steps
  rename RaisedN _ _ _ _ _ _ => rkX
  k_dflt (refine' caught_cells ?k1 ?k2 ?k3 rkX ?k4 ?k5 ?k6 PyProof.Rows.Boot.«ZeroDivisionError» ?k7 PySem.F.isExc_ZeroDivisionError PySem.F.notTuple_ZeroDivisionError ?k8 ?_ ?k9 ?kA ?kB ?kC; (case k1 => exact B'); (case k3 => assumption); (case k2 => assumption); (case k4 => exact X'); (case k5 => k_asm); (case k6 => k_is); (case k7 => decide); (case k8 => (rw [isSubtype_type]; kernel_rfl)); (case k9 => exact rfl); (case kA => exact rfl); (case kB => decide); (case kC => passes_own); k_whole)
  intro h5 F5 N5
  k_steps
  exact hret _ _ _ _ _ _ (by k_asm) (by k_asm) (by k_mem) (by k_mem)
end Mine
end
section
set_option linter.unusedVariables false
set_option linter.unusedSimpArgs false
open PySem PySem.W PySem.Spec PySem.Calls PyProof.Rows
namespace Mine
def cnt (vs : List Value) : Int := ((vs.filter fun v => decide (valOf v = 1)).length : Nat)
theorem cnt_step {vs : List Value} {i : Nat} {v : Value} (h : vs[i]? = some v) : cnt (vs.take (i + 1)) = cnt (vs.take i) + (if valOf v = 1 then 1 else 0) := by
  unfold cnt
  rw [List.take_add_one, h, List.filter_append, List.length_append]
  by_cases hv : valOf v = 1 <;> simp [hv]
local macro_rules | `(tactic| walk_at "exec For Name Name cons nil") => `(tactic| refine Halt.out ?_)
local macro_rules | `(tactic| walk_at "compareOp Is int int") => `(tactic| (refine is_int ?p1 ?p2 ?p3 ?p4 ?_; (case p1 => assumption); (case p2 => assumption); (case p3 => decide); (case p4 => exact fun _ => by assumption)))
set_option maxRecDepth 100000 in
set_option maxHeartbeats 8000000 in
theorem count_spec (w : World) (loose mean mg mb) (rest : List (Addr × Obj)) (l : Addr) (vs : List Value) (c : Nat) (tx : Tok) (hoff : ∀ q ∈ rest, q.1 ≠ l) (hv : ∀ v ∈ vs, ∃ n t, v = .int n t ∧ (n = 0 ∨ n = 1) ∧ t ≠ 0 ∧ t ≠ tx) (hx : tx ≠ 0) :
    Claim0 w loose mean mg mb 127 1 8 ([(l, listOf vs.toArray c)] ++ rest) [.ref l, .int 1 tx] (fun t0 t1 v led' => PostI (cnt vs) ((l, listOf vs.toArray c) :: rest) v led') := by
  unfold Claim0
  w_top off
  k_fill
  intro dp un gd cn cs a ccd cl outer A₀ base h₀ L m s Q E B F X N T hk hd hu hret
  refine wpAny_call ?_
  k_dflt (refine' code_defR ?k1 ?k2 ?k3 ?k4 ?kO ?k5 ?kA ?kF ?kK ?k6 ?k7 ?k8 ?k9 ?kB ?_ ?c2 ?c3 ?c4 ?c5; (case kA => exact rfl); (case kF => exact rfl); (case kK => assumption); (case k1 => k_asm); (case k2 => k_asm); (case k3 => k_asm); (case k4 => k_asm); (case kO => (intro q hq; simpa using hoff q hq)); (case k5 => k_asm); (case k6 => k_is); (case k7 => k_is); (case k8 => ktr_room); (case k9 => exact BindsTo.of_eq rfl); (case c5 => decide); (case kB => exact locs rfl); (case c2 => exact rfl); (case c3 => exact rfl); (case c4 => exact rfl); k_whole; intro g' L' h' FG' F' N' B' X' T' RB' lR'; (try dsimp only); (try k_lift B'); (try k_fold))
  k_steps
  unfold Halt
  refine wpAny_For ?_
  k_steps
  refine loopM_list (l := l) (vs := vs) (c := c) rfl (by k_mem) (by k_asm) (by k_asm) (fun M i tk m led => led = [(l, W.listOf vs.toArray c)] ∧ ∃ t u, m = fun y => if y = Str.ofString "count" then some (.int (cnt (vs.take i)) t) else if y = Str.ofString "i" then u else M y) ⟨rfl, _, _, start1 (x₂ := Str.ofString "i") rfl⟩ ?turn ?done rfl rfl (by passes_own)
  case turn =>
    intro i v tk₀ m₁ led₁ h tk I own hi htk hJ hnw hlive hown F₁ N₁
    obtain ⟨rfl, t, u, rfl⟩ := hJ
    obtain ⟨n, tv, rfl, hn, h0, h1⟩ := hv v (List.mem_of_getElem? hi)
    simp only [List.cons_append, List.nil_append] at N₁
    have hc := cnt_step hi
    rcases hn with rfl | rfl
    all_goals (try k_fold)
    all_goals k_steps
    · refine' EndM.intro (by k_asm) (by k_asm) mem_one (mem_own (l := [])) hnw ⟨rfl, ?a1, ?a2, ?a3⟩
      case a3 =>
        rw [show cnt (vs.take (i + 1)) = cnt (vs.take i) by simpa [valOf] using hc]
        exact step0 (x₁ := Str.ofString "count") (x₂ := Str.ofString "i") (by decide)
    · refine' EndM.intro (by k_asm) (by k_asm) mem_one (mem_own (l := [])) hnw ⟨rfl, ?b1, ?b2, ?b3⟩
      case b3 =>
        rw [show cnt (vs.take (i + 1)) = cnt (vs.take i) + 1 by simpa [valOf] using hc]
        exact step2
  case done =>
    intro h tk₀ tk m₁ led₁ htk hJ F₁ N₁
    obtain ⟨rfl, t, u, rfl⟩ := hJ
    (try k_fold)
    k_steps
    exact hret _ ([(l, W.listOf vs.toArray c)] ++ rest) _ _ (by k_asm) (back_news (by k_asm) (by k_asm) RB') (PostI.of (by rw [List.take_length]))
end Mine
end
section
set_option linter.unusedVariables false
set_option linter.unusedSimpArgs false
open PySem PySem.W PySem.Spec PySem.Calls PyProof.Rows
namespace Mine
def onesN (rs : List Int) : Nat := (rs.filter fun x => decide (x = 1)).length
theorem cnt_ones {vs : List Value} {rs : List Int} (h : IntsAre vs rs) : cnt vs = (onesN rs : Int) := by
  unfold cnt onesN
  have key : (vs.filter fun v => decide (valOf v = 1)).length = (rs.filter fun x => decide (x = 1)).length := by
    induction h with
    | nil => rfl
    | cons n t _ ih =>
      by_cases hn : n = 1
      · rw [List.filter_cons_of_pos (by simp [valOf, hn]), List.filter_cons_of_pos (by simp [hn]), List.length_cons, List.length_cons, ih]
      · rw [List.filter_cons_of_neg (by simp [valOf, hn]), List.filter_cons_of_neg (by simp [hn]), ih]
  rw [key]
theorem d2i1_cons (x : Int) (xs : List Int) : d2i 1 (x :: xs) = x + d2i 1 xs * 2 := rfl
theorem d2i1_nat : ∀ (rs : List Int), (∀ x ∈ rs, x = 0 ∨ x = 1) → ∃ c : Nat, d2i 1 rs = (c : Int) ∧ c < 2 ^ rs.length ∧ ∀ p, c.testBit p = decide (rs[p]?.getD 0 = 1) := by
  intro rs
  induction rs with
  | nil => exact fun _ => ⟨0, rfl, by simp, fun p => by simp⟩
  | cons x xs ih =>
    intro h
    obtain ⟨c, hc, hl, hb⟩ := ih fun y hy => h y (List.mem_cons_of_mem _ hy)
    have hx : ∃ b : Bool, x = if b then 1 else 0 := by
      rcases h x List.mem_cons_self with e | e
      · exact ⟨false, by simp [e]⟩
      · exact ⟨true, by simp [e]⟩
    obtain ⟨b, rfl⟩ := hx
    refine ⟨2 * c + (if b then 1 else 0), ?_, ?_, ?_⟩
    · rw [d2i1_cons, hc]
      cases b <;> simp <;> omega
    · rw [List.length_cons, Nat.pow_succ]
      cases b <;> simp <;> omega
    · intro p
      cases p with
      | zero =>
        rw [Nat.testBit_zero]
        cases b <;> simp
      | succ p =>
        rw [Nat.testBit_succ, List.getElem?_cons_succ, ← hb p]
        congr 1
        cases b <;> simp <;> omega
/-- the places of a row's ones -/
def placesN (rs : List Int) (n : Nat) : List Nat := (List.range n).filter fun p => decide (rs[p]?.getD 0 = 1)
theorem placesN_succ (rs : List Int) (n : Nat) : placesN rs (n + 1) = placesN rs n ++ (if rs[n]?.getD 0 = 1 then [n] else []) := by
  unfold placesN
  rw [List.range_succ, List.filter_append]
  by_cases h : rs[n]?.getD 0 = 1 <;> simp [h]
theorem placesN_lt {rs : List Int} {n p : Nat} (h : p ∈ placesN rs n) : p < n := List.mem_range.mp (List.mem_filter.mp h).1
theorem placesN_length (rs : List Int) : (placesN rs rs.length).length = onesN rs := by
  have key : ∀ n, n ≤ rs.length → (placesN rs n).length = onesN (rs.take n) := by
    intro n
    induction n with
    | zero => intro _; rfl
    | succ n ih =>
      intro h
      have hn : n < rs.length := by omega
      rw [placesN_succ, List.length_append, ih (by omega), List.take_add_one, List.getElem?_eq_getElem hn]
      unfold onesN
      rw [List.filter_append, List.length_append]
      by_cases h1 : rs[n] = 1 <;> simp [h1]
  have := key rs.length (Nat.le_refl _)
  rwa [List.take_length] at this
theorem row_number {rs : List Int} {many : Nat} (hb : ∀ x ∈ rs, x = 0 ∨ x = 1) (hl : rs.length ≤ 29) (ho : onesN rs = many) (h2 : 2 ≤ many) :
    ∃ c0 c1 c2 c3 : Nat, d2i 1 rs = (c0 : Int) ∧ ChainOk c0 c1 c2 c3 (rk 0 (placesN rs rs.length)) many := by
  obtain ⟨c, hc, hlt, ht⟩ := d2i1_nat rs hb
  have e : bitsL c 32 = placesN rs rs.length := by
    obtain ⟨k, hk⟩ : ∃ k, 32 = rs.length + k := ⟨32 - rs.length, by omega⟩
    unfold bitsL placesN
    rw [hk, range_add, List.filter_append]
    have e1 : ((List.range k).map fun p => p + rs.length).filter (fun p => c.testBit p) = [] := by
      rw [List.filter_eq_nil_iff]
      intro p hp
      obtain ⟨q, _, rfl⟩ := List.mem_map.mp hp
      rw [ht, List.getElem?_eq_none (by omega)]
      simp
    rw [e1, List.append_nil]
    apply List.filter_congr
    intro p _
    rw [ht]
  have hc29 : c < 2 ^ 29 := Nat.lt_of_lt_of_le hlt (pow_le' hl)
  obtain ⟨c1, c2, c3, C⟩ := ChainOk.of (r0 := rk 0 (placesN rs rs.length)) (many := many) hc29 (by rw [e, placesN_length, ho]) (by rw [e]) h2
  exact ⟨c, c1, c2, c3, hc, C⟩
end Mine
end
section
set_option linter.unusedVariables false
set_option linter.unusedSimpArgs false
open PySem PySem.W PySem.Spec PySem.Calls PyProof.Rows
namespace Mine
local macro_rules | `(tactic| walk_at "call ref") => `(tactic| (k_here; refine wpAny_call ?_; k_dflt (refine' code_def ?k1 ?k2 ?k3 ?k4 ?k5 ?kA ?kF ?kK ?k6 ?k7 ?k8 ?k9 ?kB ?_ ?c2 ?c3 ?c4 ?c5; (case kA => exact rfl); (case kF => exact rfl); (case kK => first | exact rfl | assumption); (case k1 => k_asm); (case k2 => k_asm); (case k3 => k_asm); (case k4 => k_asm); (case k5 => k_asm); (case k6 => k_is); (case k7 => k_is); (case k8 => ktr_room); (case k9 => exact BindsTo.of_eq rfl); (case c5 => decide); (case kB => exact locs rfl); (case c2 => exact rfl); (case c3 => exact rfl); (case c4 => exact rfl); k_whole; intro g' L' h' FG' F' N' B' X' T'; (try dsimp only); (try k_lift B'); (try k_fold))))
local macro_rules | `(tactic| walk_at "call ref") => `(tactic| ((with_reducible show wpAny _ _ (call (Value.ref 141) _) _ _ _); refine Halt.out ?_))
local macro_rules | `(tactic| walk_at "call ref") => `(tactic| ((with_reducible show wpAny _ _ (call (Value.ref 127) _) _ _ _); refine Halt.out ?_))
local macro_rules | `(tactic| walk_at "call ref") => `(tactic| ((with_reducible show wpAny _ _ (call (Value.ref 160) _) _ _ _); refine Halt.out ?_))
local macro_rules | `(tactic| walk_at "call ref") => `(tactic| ((with_reducible show wpAny _ _ (call (Value.ref 167) _) _ _ _); refine Halt.out ?_))
local macro_rules | `(tactic| walk_at "call ref") => `(tactic| ((with_reducible show wpAny _ _ (call (Value.ref 155) _) _ _ _); refine Halt.out ?_))
local macro_rules | `(tactic| walk_at "call ref") => `(tactic| ((with_reducible show wpAny _ _ (call (Value.ref 42) _) _ _ _); refine Halt.out ?_))
local macro_rules | `(tactic| walk_at "call ref") => `(tactic| ((with_reducible show wpAny _ _ (call (Value.ref 148) _) _ _ _); refine Halt.out ?_))
local macro_rules | `(tactic| walk_at "call ref") => `(tactic| ((with_reducible show wpAny _ _ (call (Value.ref 172) _) _ _ _); refine Halt.out ?_))
local macro_rules | `(tactic| walk_at "call ref") => `(tactic| ((with_reducible show wpAny _ _ (call (Value.ref 64) _) _ _ _); refine Halt.out ?_))
local macro_rules | `(tactic| walk_at "eval ListComp") => `(tactic| refine Halt.out ?_)
local macro_rules | `(tactic| walk_at "CompSrc") => `(tactic| refine Halt.out ?_)
local macro_rules | `(tactic| walk_at "CompSrcT") => `(tactic| refine Halt.out ?_)
local macro_rules | `(tactic| walk_at "CompEnd") => `(tactic| refine Halt.out ?_)
local macro_rules | `(tactic| walk_at "exec For Name Call cons nil") => `(tactic| refine Halt.out ?_)
local macro_rules | `(tactic| walk_at "binaryOp Mult ref int") => `(tactic| refine Halt.out ?_)
local macro_rules | `(tactic| walk_at "binaryOp Add ref ref") => `(tactic| refine Halt.out ?_)
local macro_rules | `(tactic| walk_at "compareOp NotEq ref ref") => `(tactic| refine Halt.out ?_)
local macro_rules | `(tactic| walk_at "exec Try") => `(tactic| refine Halt.out ?_)
local macro_rules | `(tactic| walk_at "execs cons") => `(tactic| refine wpAny_execs_cons ?_)
local macro_rules | `(tactic| walk_at "execs nil") => `(tactic| refine wpAny_execs_nil ?_)
local macro_rules | `(tactic| walk_at "exec If") => `(tactic| refine wpAny_If ?_)
local macro_rules | `(tactic| k_mem) => `(tactic| first | exact subI | exact subN | (refine subC ?_ ?_ <;> k_mem) | (refine subA ?_ ?_ <;> k_mem) | (refine subT ?_; k_mem) | (refine subL ?_; k_mem) | (refine subR ?_; k_mem) | (refine memL ?_; k_mem) | (refine memR ?_; k_mem))
theorem but5 {m M : Str → Option Value} {x₁ x₂ x₃ x₄ x₅ : Str} (h : ∀ y, y ≠ x₁ → y ≠ x₂ → y ≠ x₃ → y ≠ x₄ → y ≠ x₅ → m y = M y) : ∃ u₂ u₃ u₄ u₅, m = fun y => if y = x₁ then m x₁ else if y = x₂ then u₂ else if y = x₃ then u₃ else if y = x₄ then u₄ else if y = x₅ then u₅ else M y := by
  refine ⟨m x₂, m x₃, m x₄, m x₅, ?_⟩
  funext y
  by_cases h1 : y = x₁
  · rw [if_pos h1, h1]
  · rw [if_neg h1]
    by_cases h2 : y = x₂
    · rw [if_pos h2, h2]
    · rw [if_neg h2]
      by_cases h3 : y = x₃
      · rw [if_pos h3, h3]
      · rw [if_neg h3]
        by_cases h4 : y = x₄
        · rw [if_pos h4, h4]
        · rw [if_neg h4]
          by_cases h5 : y = x₅
          · rw [if_pos h5, h5]
          · rw [if_neg h5]
            exact h y h1 h2 h3 h4 h5
/-- between the steps back -/
inductive J11 (L' lw lc : Addr) (vw vc : List Value) (cw cc : Nat) (oP oM oR oW : Obj) (c0 c1 c2 c3 r0 many t1 : Nat) (M : Str → Option Value) (i tk : Nat) (m : Str → Option Value) : List (Addr × Obj) → Prop
  | mk (b : Nat) (tb : Tok) (tbx tby : List (Addr × Obj)) (hSx : TabSt 30 32 4 qual30 tbx) (hSy : TabSt 37 47 4 qual37 tby) (ho7 : ∀ q ∈ tby, q.1 ∉ tbx.map (·.1)) (ho8 : ∀ z ∈ (lw, W.listOf vw.toArray cw) :: (lc, W.listOf vc.toArray cc) :: (L' + 1 + 1 + 1 + 1, oP) :: (L' + 1 + 1 + 1, oM) :: (L' + 1 + 1, oR) :: (L' + 1, oW) :: [], z.1 ∉ (tbx ++ tby).map (·.1))
      (hB : BackOk c0 c1 c2 c3 r0 many i b) (ht : t1 ≤ tk) (hb : m (Str.ofString "back") = some (.int (b : Int) tb))
      (hm : ∀ y, y ≠ Str.ofString "back" → y ≠ Str.ofString "k" → y ≠ Str.ofString "opposite" → y ≠ Str.ofString "fits" → y ≠ Str.ofString "due" → m y = M y) :
    J11 L' lw lc vw vc cw cc oP oM oR oW c0 c1 c2 c3 r0 many t1 M i tk m ((lw, W.listOf vw.toArray cw) :: (lc, W.listOf vc.toArray cc) :: (L' + 1 + 1 + 1 + 1, oP) :: (L' + 1 + 1 + 1, oM) :: (L' + 1 + 1, oR) :: (L' + 1, oW) :: (tbx ++ tby))
set_option maxRecDepth 100000 in
set_option maxHeartbeats 8000000 in
theorem seg11 (w : World) (loose mean mg mb) (g' : Heap) (L' : Addr) (s : Shared) (Q : Flow → Shared → Prop) (M : Str → Option Value) (lw lc : Addr) (vw vc : List Value) (cw cc : Nat) (oP oM oR oW : Obj) (tb3 tb7 : List (Addr × Obj)) (c0 c1 c2 c3 r0 many : Nat) (tf tm : Tok) (t1 : Nat)
    (F : Fr g' L' s.heap (fun y => if y = Str.ofString "first" then some (.int (r0 : Int) tf) else if y = Str.ofString "chain" then some (.ref lc) else M y))
    (N : News g' L' s.heap ((lw, W.listOf vw.toArray cw) :: (lc, W.listOf vc.toArray cc) :: (L' + 1 + 1 + 1 + 1, oP) :: (L' + 1 + 1 + 1, oM) :: (L' + 1 + 1, oR) :: (L' + 1, oW) :: (tb3 ++ tb7)))
    (dM : oM.data = .cell (some (.int (many : Int) tm))) (dW : oW.data = .cell (some (.ref lw)))
    (hic : IntsAre vc [(c0 : Int), (c1 : Int), (c2 : Int), (c3 : Int)]) (C : ChainOk c0 c1 c2 c3 r0 many) (hw2 : StrsAre vw WORDS) (hw3 : TokIn 1 t1 vw) (ht : t1 ≤ s.toks)
    (hS3 : TabSt 30 32 4 qual30 tb3) (hS7 : TabSt 37 47 4 qual37 tb7) (hoff7 : ∀ q ∈ tb7, q.1 ∉ tb3.map (·.1)) (hoff : ∀ z ∈ (lw, W.listOf vw.toArray cw) :: (lc, W.listOf vc.toArray cc) :: (L' + 1 + 1 + 1 + 1, oP) :: (L' + 1 + 1 + 1, oM) :: (L' + 1 + 1, oR) :: (L' + 1, oW) :: [], z.1 ∉ (tb3 ++ tb7).map (·.1))
    (hlc : @Ne Nat lc lw) (hlw : Aside L' lw)
    (X' : (hk.heap_1 w.params).In g') (T' : Top topProg loose mean mg mb g') (B' : Below callerA g' [] g') (lL : 30 < L' ∧ 37 < L') (hret : LawRet g' L' Q s) : LawAt w L' 11 Q s := by
  revert X'
  unfold LawAt lawEnv
  w_top off
  k_fill
  intro X'
  generalize hsc : lawScope w.params = sc
  generalize hbd : List.drop 11 (lawBody w.params) = bd
  conv at hsc => lhs; whnf
  conv at hbd => lhs; whnf
  subst hsc
  subst hbd
  obtain ⟨tl, htl⟩ : ∃ tl, tl = tb3 ++ tb7 := ⟨_, rfl⟩
  rw [← htl] at N
  k_steps
  unfold Halt
  refine wpAny_For (with_toksQ (n := t1) (Nat.le_trans ht (Nat.le_add_right s.toks 2)) ?_)
  k_steps
  rename_i tb _ _ _ h4 tk4 a4 b4 c4 R4 F4 N4 K4 htk4
  clear K4
  rw [htl] at N4
  refine loopM_range (a₀ := 0) (b₀ := 7) (n := 7) (led := (lw, W.listOf vw.toArray cw) :: (lc, W.listOf vc.toArray cc) :: (L' + 1 + 1 + 1 + 1, oP) :: (L' + 1 + 1 + 1, oM) :: (L' + 1 + 1, oR) :: (L' + 1, oW) :: (tb3 ++ tb7)) rfl R4 (small_one (by lia) (by lia) (by lia) (by lia)) (by decide) F4 N4
    (fun M i tk m led => J11 L' lw lc vw vc cw cc oP oM oR oW c0 c1 c2 c3 r0 many t1 M i tk m led)
    ⟨c3, tb, tb3, tb7, hS3, hS7, hoff7, hoff, BackOk.start C, htk4, rfl, fun _ _ _ _ _ _ => rfl⟩ ?turn ?done rfl rfl ?hE
  case turn =>
    intro i t tk₀ m₁ led₁ h tk I own hin htk hJ hnw hlive hown F₁ N₁
    obtain ⟨b, tbi, tbx, tby, hSx, hSy, ho7, ho8, hB, htb, hmb, hmm⟩ := hJ
    obtain ⟨u2, u3, u4, u5, hmE⟩ := but5 hmm
    rw [hmb] at hmE
    subst hmE
    clear hmm hmb
    obtain ⟨b', hB', hst, hbk⟩ := hB.step C
    obtain ⟨tl2, htl2⟩ : ∃ tl, tl = tbx ++ tby := ⟨_, rfl⟩
    rw [← htl2] at N₁ hnw
    simp only [List.cons_append] at N₁
    (try k_fold)
    k_steps
    rename_i kN _ _
    unfold Halt
    have hrest : ∀ z ∈ (lw, W.listOf vw.toArray cw) :: (lc, W.listOf vc.toArray cc) :: (L' + 1 + 1 + 1 + 1, oP) :: (L' + 1 + 1 + 1, oM) :: (L' + 1 + 1, oR) :: (L' + 1, oW) :: own, z.1 ∉ (tbx ++ tby).map (·.1) := (List.forall_mem_append (l₁ := (lw, W.listOf vw.toArray cw) :: (lc, W.listOf vc.toArray cc) :: (L' + 1 + 1 + 1 + 1, oP) :: (L' + 1 + 1 + 1, oM) :: (L' + 1 + 1, oR) :: (L' + 1, oW) :: []) (l₂ := own)).mpr ⟨ho8, own_off hnw (by rw [htl2]; k_mem) hown⟩
    k_dflt (refine' Claim.use ((step_spec w loose mean mg mb ((lw, W.listOf vw.toArray cw) :: (lc, W.listOf vc.toArray cc) :: (L' + 1 + 1 + 1 + 1, oP) :: (L' + 1 + 1 + 1, oM) :: (L' + 1 + 1, oR) :: (L' + 1, oW) :: own) tbx tby (Builtin.bitNot (b : Int)) _ hSx hSy ho7 hrest hst.1 hst.2.1 hst.2.2.1 hst.2.2.2.1).toks) ?u1 ?u2 ?u3 ?u4 ?u5 ?u6 ?u7 ?u8 ?_; (case u1 => k_asm); (case u2 => k_asm); (case u3 => k_asm); (case u4 => exact news_pick' kN (by subst htl2; k_mem)); (case u5 => k_asm); (case u6 => first | exact rfl | assumption); (case u7 => ktr_room); (case u8 => ktr_units))
    rintro v6 led6 h6 tk6 htk6 F6 N6 ⟨D, w1, cD, tbx', tby', hSx', hSy', o1, o2, o3⟩
    rw [hst.2.2.2.2] at N6 o1
    have htk6' : t1 ≤ tk6 := by
      dsimp only at htk6
      lia
    clear htk6
    generalize stepV (Builtin.bitNot (b : Int)) = sv at *
    have N6' : News g' _ h6 ((D, stepObj sv true w1 cD) :: (lw, W.listOf vw.toArray cw) :: (lc, W.listOf vc.toArray cc) :: (L' + 1 + 1 + 1 + 1, oP) :: (L' + 1 + 1 + 1, oM) :: (L' + 1 + 1, oR) :: (L' + 1, oW) :: (own ++ (tbx' ++ tby'))) := news_pick' N6 (by
    k_mem)
    clear N6
    obtain ⟨it, hit⟩ := hlive
    have hIt : I ∉ (tbx' ++ tby').map (·.1) := off_tail o1 (A := [(I, it)]) (fun z hz => by rw [List.mem_singleton.mp hz]; exact List.mem_append_right ((lw, W.listOf vw.toArray cw) :: (lc, W.listOf vc.toArray cc) :: (L' + 1 + 1 + 1 + 1, oP) :: (L' + 1 + 1 + 1, oM) :: (L' + 1 + 1, oR) :: (L' + 1, oW) :: []) hit) (I, it) List.mem_cons_self
    have hofx : ∀ z ∈ (lw, W.listOf vw.toArray cw) :: (lc, W.listOf vc.toArray cc) :: (L' + 1 + 1 + 1 + 1, oP) :: (L' + 1 + 1 + 1, oM) :: (L' + 1 + 1, oR) :: (L' + 1, oW) :: [], z.1 ∉ (tbx' ++ tby').map (·.1) := off_tail o1 (by k_mem)
    have hIx : ∀ z ∈ (lw, W.listOf vw.toArray cw) :: (lc, W.listOf vc.toArray cc) :: (L' + 1 + 1 + 1 + 1, oP) :: (L' + 1 + 1 + 1, oM) :: (L' + 1 + 1, oR) :: (L' + 1, oW) :: (tbx' ++ tby'), z.1 ≠ I := ix_of (B := (lw, W.listOf vw.toArray cw) :: (lc, W.listOf vc.toArray cc) :: (L' + 1 + 1 + 1 + 1, oP) :: (L' + 1 + 1 + 1, oM) :: (L' + 1 + 1, oR) :: (L' + 1, oW) :: []) hnw (by k_mem) hIt
    have hoffw : ∀ z ∈ (lc, W.listOf vc.toArray cc) :: (L' + 1 + 1 + 1 + 1, oP) :: (L' + 1 + 1 + 1, oM) :: (L' + 1 + 1, oR) :: (L' + 1, oW) :: (own ++ (tbx' ++ tby')), z.1 ≠ lw := List.forall_mem_cons.mpr ⟨hlc, List.forall_mem_cons.mpr ⟨hlw.1, List.forall_mem_cons.mpr ⟨hlw.2.1, List.forall_mem_cons.mpr ⟨hlw.2.2.1, List.forall_mem_cons.mpr ⟨hlw.2.2.2.1, List.forall_mem_append.mpr
      ⟨fun z h => by rw [hown z h]; exact Ne.symm (hnw (lw, _) List.mem_cons_self), fun z h => fst_off (hofx (lw, _) List.mem_cons_self) h⟩⟩⟩⟩⟩⟩
    (try k_fold)
    k_steps
    · rename_i hi3 _ hne
      exfalso
      rw [hbk] at hne
      have h3 : i = 0 ∨ i = 1 ∨ i = 2 := by lia
      rcases h3 with rfl | rfl | rfl
      · exact hne (by rw [hB'.at1 rfl]; rfl)
      · exact hne (by rw [hB'.at2 rfl]; rfl)
      · exact hne (by rw [hB'.at3 rfl]; rfl)
    ·
      refine' EndM.intro (led' := (lw, W.listOf vw.toArray cw) :: (lc, W.listOf vc.toArray cc) :: (L' + 1 + 1 + 1 + 1, oP) :: (L' + 1 + 1 + 1, oM) :: (L' + 1 + 1, oR) :: (L' + 1, oW) :: (tbx' ++ tby')) (by k_asm) (by k_asm) ?m1 ?m2 hIx ⟨b', _, tbx', tby', hSx', hSy', o2, hofx, hB', ?m3, congrArg (fun z => some (Value.int z _)) hbk, ?m4⟩
      case m1 =>
        k_mem
      case m2 =>
        k_mem
      case m3 =>
        dsimp only at *
        lia
      case m4 =>
        intro y h1 h2 h3 h4 h5
        simp only [if_neg h1, if_neg h2, if_neg h3, if_neg h4, if_neg h5]

    · rename_i N7 hi3 hdue
      unfold Halt
      have hbt := hB'.told (by lia)
      rw [hbk]
      k_dflt (refine' ClaimT.use (told_spec w loose mean mg mb ((lc, W.listOf vc.toArray cc) :: (L' + 1 + 1 + 1 + 1, oP) :: (L' + 1 + 1 + 1, oM) :: (L' + 1 + 1, oR) :: (L' + 1, oW) :: (own ++ (tbx' ++ tby'))) lw vw cw b' many _ _ t1 hoffw hw2 hw3 hbt.1 hbt.2.1 C.many2) ?u1 ?u2 ?u3 ?u4 ?u5 ?u6 ?u7 ?u8 ?u9 ?_; (case u1 => k_asm); (case u2 => k_asm); (case u3 => k_asm); (case u4 => exact news_pick' N7 (by k_mem)); (case u5 => k_asm); (case u6 => first | exact rfl | assumption); (case u7 => ktr_room); (case u8 => ktr_units); (case u9 => (dsimp only at *; lia)))
      rintro v8 led8 h8 tk8 htk8 F8 N8 ⟨t8⟩
      k_steps
      · rename_i hne
        exfalso
        refine hne ?_
        rw [show rankV (psOf b') = (rk 0 (bitsL b' 32) : Int) from rankV_eq _]
        lia
      ·
        refine' EndM.intro (led' := (lw, W.listOf vw.toArray cw) :: (lc, W.listOf vc.toArray cc) :: (L' + 1 + 1 + 1 + 1, oP) :: (L' + 1 + 1 + 1, oM) :: (L' + 1 + 1, oR) :: (L' + 1, oW) :: (tbx' ++ tby')) (by k_asm) (by k_asm) ?m1 ?m2 hIx ⟨b', _, tbx', tby', hSx', hSy', o2, hofx, hB', ?m3, congrArg (fun z => some (Value.int z _)) hbk, ?m4⟩
        case m1 =>
          k_mem
        case m2 =>
          k_mem
        case m3 =>
          dsimp only at *
          lia
        case m4 =>
          intro y h1 h2 h3 h4 h5
          simp only [if_neg h1, if_neg h2, if_neg h3, if_neg h4, if_neg h5]

    · rename_i hi3 hdue hne
      exfalso
      rw [hbk] at hne
      have := hB'.gone (by lia)
      lia
    · rename_i N7 hi3 hdue he0
      unfold Halt
      have hb0 := hB'.gone (by lia)
      rw [hbk, hb0]
      k_dflt (refine' Claim.use ((pretty_spec w loose mean mg mb ((lw, W.listOf vw.toArray cw) :: (lc, W.listOf vc.toArray cc) :: (L' + 1 + 1 + 1 + 1, oP) :: (L' + 1 + 1 + 1, oM) :: (L' + 1 + 1, oR) :: (L' + 1, oW) :: (own ++ (tbx' ++ tby'))) 0 _ (by decide)).toks) ?u1 ?u2 ?u3 ?u4 ?u5 ?u6 ?u7 ?u8 ?_; (case u1 => k_asm); (case u2 => k_asm); (case u3 => k_asm); (case u4 => exact news_pick' N7 (by k_mem)); (case u5 => k_asm); (case u6 => first | exact rfl | assumption); (case u7 => ktr_room); (case u8 => ktr_units))
      rintro v8 led8 h8 tk8 htk8 F8 N8 ⟨t8⟩
      rw [show prettyT 0 = Str.ofString "0x0" from rfl]
      k_steps
      refine' EndM.intro (led' := (lw, W.listOf vw.toArray cw) :: (lc, W.listOf vc.toArray cc) :: (L' + 1 + 1 + 1 + 1, oP) :: (L' + 1 + 1 + 1, oM) :: (L' + 1 + 1, oR) :: (L' + 1, oW) :: (tbx' ++ tby')) (by k_asm) (by k_asm) ?m1 ?m2 hIx ⟨b', _, tbx', tby', hSx', hSy', o2, hofx, hB', ?m3, congrArg (fun z => some (Value.int z _)) hbk, ?m4⟩
      case m1 =>
        k_mem
      case m2 =>
        k_mem
      case m3 =>
        dsimp only at *
        lia
      case m4 =>
        intro y h1 h2 h3 h4 h5
        simp only [if_neg h1, if_neg h2, if_neg h3, if_neg h4, if_neg h5]

  case done =>
    intro h tk₀ tk m₁ led₁ htk hJ F₁ N₁
    obtain ⟨b, tbi, tbx, tby, hSx, hSy, ho7, ho8, hB, htb, hmb, hmm⟩ := hJ
    obtain ⟨o3, ho3⟩ := tabSt_tab hSx
    obtain ⟨o7, ho7'⟩ := tabSt_tab hSy
    refine wpAny_execs_nil ?_
    exact seg13 w loose mean mg mb g' L' _ Q _ o3 o7 F₁ (fun z hz => N₁ z (List.mem_append_right ((lw, W.listOf vw.toArray cw) :: (lc, W.listOf vc.toArray cc) :: (L' + 1 + 1 + 1 + 1, oP) :: (L' + 1 + 1 + 1, oM) :: (L' + 1 + 1, oR) :: (L' + 1, oW) :: []) (List.mem_append.mpr ((List.mem_cons.mp hz).imp (fun e => by rw [e]; exact ho3) (fun h => by rw [List.mem_singleton.mp h]; exact ho7'))))) X' T' B' lL hret
  case hE => passes_own
local macro_rules | `(tactic| walk_at "execs cons") => `(tactic| refine Halt.out ?_)
theorem ints_get {vs : List Value} {ns : List Int} (h : IntsAre vs ns) : ∀ {i : Nat} {v : Value}, vs[i]? = some v → ∃ n t, v = .int n t ∧ ns[i]? = some n := by
  induction h with
  | nil => intro i v hv; simp at hv
  | cons n t _ ih =>
    intro i v hv
    cases i with
    | zero =>
      rw [List.getElem?_cons_zero] at hv
      exact ⟨n, t, (Option.some.inj hv).symm, rfl⟩
    | succ i => exact ih hv
theorem chain_at {c0 c1 c2 c3 r0 many : Nat} {vc : List Value} (C : ChainOk c0 c1 c2 c3 r0 many) (hic : IntsAre vc [(c0 : Int), (c1 : Int), (c2 : Int), (c3 : Int)]) {i : Nat} {v : Value} (hv : vc[i]? = some v) :
    ∃ (U : Nat) (t : Tok), v = .int (U : Int) t ∧ U < 2 ^ 32 ∧ (bitsL U 32).length = many ∧ ([(r0 : Int), (r0 : Int) + 1, (r0 : Int) + 2, (r0 : Int) + 3]).take (i + 1) = ([(r0 : Int), (r0 : Int) + 1, (r0 : Int) + 2, (r0 : Int) + 3]).take i ++ [rankV (psOf U)] ∧ i < 4 := by
  obtain ⟨n, t, rfl, hn⟩ := ints_get hic hv
  obtain ⟨⟨s0, s1, s2⟩, ⟨l1, l2, l3⟩, q1, q2, q3⟩ := C.told
  have key : ∀ U : Nat, rankV (psOf U) = (rk 0 (bitsL U 32) : Int) := fun U => rankV_eq _
  match i, hn with
  | 0, hn => cases hn; exact ⟨c0, t, rfl, s0, C.len, by rw [key, C.rank]; rfl, by lia⟩
  | 1, hn => cases hn; exact ⟨c1, t, rfl, s1, l1, by rw [key, q1]; simp, by lia⟩
  | 2, hn => cases hn; exact ⟨c2, t, rfl, s2, l2, by rw [key, q2]; simp, by lia⟩
  | 3, hn => cases hn; exact ⟨c3, t, rfl, C.small, l3, by rw [key, q3]; simp, by lia⟩
set_option maxRecDepth 100000 in
set_option maxHeartbeats 8000000 in
theorem seg10 (w : World) (loose mean mg mb) (g' : Heap) (L' : Addr) (s : Shared) (Q : Flow → Shared → Prop) (M : Str → Option Value) (lw lc : Addr) (vw vc : List Value) (cw cc : Nat) (oP oM oR oW : Obj) (tb3 tb7 : List (Addr × Obj)) (c0 c1 c2 c3 r0 many : Nat) (tf tm : Tok) (t1 : Nat)
    (F : Fr g' L' s.heap (fun y => if y = Str.ofString "first" then some (.int (r0 : Int) tf) else if y = Str.ofString "chain" then some (.ref lc) else M y))
    (N : News g' L' s.heap ((lw, W.listOf vw.toArray cw) :: (lc, W.listOf vc.toArray cc) :: (L' + 1 + 1 + 1 + 1, oP) :: (L' + 1 + 1 + 1, oM) :: (L' + 1 + 1, oR) :: (L' + 1, oW) :: (tb3 ++ tb7)))
    (dM : oM.data = .cell (some (.int (many : Int) tm))) (dW : oW.data = .cell (some (.ref lw)))
    (hic : IntsAre vc [(c0 : Int), (c1 : Int), (c2 : Int), (c3 : Int)]) (C : ChainOk c0 c1 c2 c3 r0 many) (hw2 : StrsAre vw WORDS) (hw3 : TokIn 1 t1 vw) (ht : t1 ≤ s.toks)
    (hS3 : TabSt 30 32 4 qual30 tb3) (hS7 : TabSt 37 47 4 qual37 tb7) (hoff7 : ∀ q ∈ tb7, q.1 ∉ tb3.map (·.1)) (hoff : ∀ z ∈ (lw, W.listOf vw.toArray cw) :: (lc, W.listOf vc.toArray cc) :: (L' + 1 + 1 + 1 + 1, oP) :: (L' + 1 + 1 + 1, oM) :: (L' + 1 + 1, oR) :: (L' + 1, oW) :: [], z.1 ∉ (tb3 ++ tb7).map (·.1))
    (hlc : @Ne Nat lc lw) (hlw : Aside L' lw)
    (X' : (hk.heap_1 w.params).In g') (T' : Top topProg loose mean mg mb g') (B' : Below callerA g' [] g') (lL : 30 < L' ∧ 37 < L') (hret : LawRet g' L' Q s) : LawAt w L' 10 Q s := by
  revert X'
  unfold LawAt lawEnv
  w_top off
  k_fill
  intro X'
  generalize hsc : lawScope w.params = sc
  generalize hbd : List.drop 10 (lawBody w.params) = bd
  conv at hsc => lhs; whnf
  conv at hbd => lhs; whnf
  subst hsc
  subst hbd
  obtain ⟨tl, htl⟩ : ∃ tl, tl = tb3 ++ tb7 := ⟨_, rfl⟩
  have N0 := N
  rw [← htl] at N
  have hofl : ∀ z ∈ (lc, W.listOf vc.toArray cc) :: (L' + 1 + 1 + 1 + 1, oP) :: (L' + 1 + 1 + 1, oM) :: (L' + 1 + 1, oR) :: (L' + 1, oW) :: tl, z.1 ≠ lw := List.forall_mem_cons.mpr ⟨hlc, List.forall_mem_cons.mpr ⟨hlw.1, List.forall_mem_cons.mpr ⟨hlw.2.1, List.forall_mem_cons.mpr ⟨hlw.2.2.1, List.forall_mem_cons.mpr ⟨hlw.2.2.2.1,
    fun z h => fst_off (hoff (lw, _) List.mem_cons_self) (htl ▸ h)⟩⟩⟩⟩⟩
  refine wpAny_execs_cons ?_
  k_steps
  unfold Halt
  k_dflt (refine ListComp_M (h₀ := g') (L := L') (m := fun y => if y = Str.ofString "first" then some (.int (r0 : Int) tf) else if y = Str.ofString "chain" then some (.ref lc) else M y) (by with_unfolding_all rfl) (by decide) (by rfl) (by decide) (by rfl) ?_)
  k_steps
  refine ⟨lc, vc, cc, (lw, W.listOf vw.toArray cw) :: (lc, W.listOf vc.toArray cc) :: (L' + 1 + 1 + 1 + 1, oP) :: (L' + 1 + 1 + 1, oM) :: (L' + 1 + 1, oR) :: (L' + 1, oW) :: tl, t1, fun i ys => IntsAre ys (([(r0 : Int), (r0 : Int) + 1, (r0 : Int) + 2, (r0 : Int) + 3]).take i), rfl, rfl, F, N, by k_mem, ht, by rw [hic.length, PySem.sizeLine_eq]; simp, .nil, ?turn, ?done⟩
  case turn =>
    intro i v I oI C₁ oC D m₂ ys h tk E' hT hv hys hC hx F₁ N₁ off ne
    have off₀ := off
    (try simp only [LCg.Off3, and_true] at off)
    obtain ⟨U, tv, rfl, hU, hUl, hUr, hi4⟩ := chain_at C hic hv
    k_steps
    unfold Halt
    have hoffw : ∀ z ∈ (I, oI) :: (C₁, oC) :: (D, LCg.lst ys) :: (lc, W.listOf vc.toArray cc) :: (L' + 1 + 1 + 1 + 1, oP) :: (L' + 1 + 1 + 1, oM) :: (L' + 1 + 1, oR) :: (L' + 1, oW) :: tl, z.1 ≠ lw := List.forall_mem_cons.mpr ⟨Ne.symm off.1.1, List.forall_mem_cons.mpr ⟨Ne.symm off.1.2.1, List.forall_mem_cons.mpr ⟨Ne.symm off.1.2.2, hofl⟩⟩⟩
    k_dflt (refine' ClaimT.use (told_spec w loose mean mg mb ((I, oI) :: (C₁, oC) :: (D, LCg.lst ys) :: (lc, W.listOf vc.toArray cc) :: (L' + 1 + 1 + 1 + 1, oP) :: (L' + 1 + 1 + 1, oM) :: (L' + 1 + 1, oR) :: (L' + 1, oW) :: tl) lw vw cw U many tv _ t1 hoffw hw2 hw3 hU hUl C.many2) ?u1 ?u2 ?u3 ?u4 ?u5 ?u6 ?u7 ?u8 ?u9 ?_; (case u1 => k_asm); (case u2 => k_asm); (case u3 => k_asm); (case u4 => exact news_pick' N₁ (by k_mem)); (case u5 => k_asm); (case u6 => first | exact rfl | assumption); (case u7 => ktr_room); (case u8 => ktr_units); (case u9 => (dsimp only at *; lia)))
    rintro v8 led8 h8 tk8 htk8 F8 N8 ⟨t8⟩
    have N8' : News g' _ h8 ((I, oI) :: (C₁, oC) :: (D, LCg.lst ys) :: (lw, W.listOf vw.toArray cw) :: (lc, W.listOf vc.toArray cc) :: (L' + 1 + 1 + 1 + 1, oP) :: (L' + 1 + 1 + 1, oM) :: (L' + 1 + 1, oR) :: (L' + 1, oW) :: tl) := news_pick' N8 (by
    k_mem)
    clear N8
    k_steps
    unfold Halt
    refine LCg.CompEnd.intro (by k_asm) N8' _ (fun p hp => hp) off₀ trivial ⟨rfl, ?_⟩
    dsimp only
    rw [hUr]
    exact IntsAre.append hys (.cons _ _ .nil)
  case done =>
    intro ys D h tk hT hys F₁ N₁ off
    rw [hic.length] at hys
    replace hys : IntsAre ys [(r0 : Int), (r0 : Int) + 1, (r0 : Int) + 2, (r0 : Int) + 3] := hys
    (try k_fold)
    k_steps
    unfold Halt
    rename_i l2 _ F7 N7 _
    refine ne_intsK (ns := [(r0 : Int), (r0 : Int) + 1, (r0 : Int) + 2, (r0 : Int) + 3]) (ms := [(r0 : Int), (r0 : Int) + 1, (r0 : Int) + 2, (r0 : Int) + 3]) ⟨_, (N7 (D, LCg.lst ys) (by k_mem)).1, rfl, _, rfl⟩ hys ⟨_, (N7 (l2, _) List.mem_cons_self).1, rfl, _, rfl⟩ (.cons _ _ (.cons _ _ (.cons _ _ (.cons _ _ .nil)))) (by units_room) ?_
    rw [decide_eq_true rfl]
    simp only [Bool.not_true]
    k_steps
    unfold Halt
    rw [htl] at N7
    exact seg11 w loose mean mg mb g' L' _ Q M lw lc vw vc cw cc oP oM oR oW tb3 tb7 c0 c1 c2 c3 r0 many tf tm t1 F7 (fun z hz => N7 z (List.mem_cons_of_mem _ (List.mem_cons_of_mem _ hz))) dM dW hic C hw2 hw3 (by dsimp only at *; lia) hS3 hS7 hoff7 hoff hlc hlw X' T' B' lL hret
theorem offs_of {A t : List (Addr × Obj)} {x : Addr × Obj} (h : ∀ q ∈ t, q.1 ∉ A.map (·.1)) (hx : ∀ z ∈ A, z.1 ≠ x.1) : ∀ z ∈ A, z.1 ∉ (x :: t).map (·.1) := by
  intro z hz hm
  rcases List.mem_cons.mp hm with e | hm
  · exact hx z hz e
  · obtain ⟨q, hq, e⟩ := List.mem_map.mp hm
    exact h q hq (List.mem_map.mpr ⟨z, hz, e.symm⟩)
theorem two_of {m : Str → Option Value} {x₁ x₂ : Str} {v₁ v₂ : Option Value} (h1 : m x₁ = v₁) (h2 : m x₂ = v₂) : m = fun y => if y = x₁ then v₁ else if y = x₂ then v₂ else m y := by
  funext y
  by_cases e1 : y = x₁
  · rw [if_pos e1, e1, h1]
  · rw [if_neg e1]
    by_cases e2 : y = x₂
    · rw [if_pos e2, e2, h2]
    · rw [if_neg e2]
theorem chain_step {c0 c1 c2 c3 r0 many : Nat} (C : ChainOk c0 c1 c2 c3 r0 many) {i : Nat} (hi : i < 3) : ∃ cv cn : Int,
    List.getD (List.take (i + 1) [(c0 : Int), (c1 : Int), (c2 : Int), (c3 : Int)]) (Int.toNat (-1 + ((List.take (i + 1) [(c0 : Int), (c1 : Int), (c2 : Int), (c3 : Int)]).length : Int))) 0 = cv ∧ StepOk cv ∧ stepV cv = cn ∧
      List.take (i + 1 + 1) [(c0 : Int), (c1 : Int), (c2 : Int), (c3 : Int)] = List.take (i + 1) [(c0 : Int), (c1 : Int), (c2 : Int), (c3 : Int)] ++ [cn] := by
  obtain ⟨⟨a1, a2⟩, ⟨b1, b2⟩, d1, d2⟩ := C.forth
  match i, hi with
  | 0, _ => exact ⟨c0, c1, rfl, a1, a2, rfl⟩
  | 1, _ => exact ⟨c1, c2, rfl, b1, b2, rfl⟩
  | 2, _ => exact ⟨c2, c3, rfl, d1, d2, rfl⟩
/-- between the chain's steps -/
inductive J8 (L' lc lw : Addr) (vw : List Value) (cw : Nat) (oP oM oR oW : Obj) (c0 c1 c2 c3 t1 : Nat) (M : Str → Option Value) (i tk : Nat) (m : Str → Option Value) : List (Addr × Obj) → Prop
  | mk (vc : List Value) (cc : Nat) (tbx tby : List (Addr × Obj)) (hSx : TabSt 30 32 4 qual30 tbx) (hSy : TabSt 37 47 4 qual37 tby) (ho7 : ∀ q ∈ tby, q.1 ∉ tbx.map (·.1))
      (ho8 : ∀ z ∈ (lc, W.listOf vc.toArray cc) :: (lw, W.listOf vw.toArray cw) :: (L' + 1 + 1 + 1 + 1, oP) :: (L' + 1 + 1 + 1, oM) :: (L' + 1 + 1, oR) :: (L' + 1, oW) :: [], z.1 ∉ (tbx ++ tby).map (·.1))
      (hvc : IntsAre vc (([(c0 : Int), (c1 : Int), (c2 : Int), (c3 : Int)]).take (i + 1))) (ht : t1 ≤ tk)
      (hm : ∀ y, y ≠ Str.ofString "k" → y ≠ Str.ofString "following" → y ≠ Str.ofString "fits" → m y = M y) :
    J8 L' lc lw vw cw oP oM oR oW c0 c1 c2 c3 t1 M i tk m ((lc, W.listOf vc.toArray cc) :: (lw, W.listOf vw.toArray cw) :: (L' + 1 + 1 + 1 + 1, oP) :: (L' + 1 + 1 + 1, oM) :: (L' + 1 + 1, oR) :: (L' + 1, oW) :: (tbx ++ tby))
set_option maxRecDepth 100000 in
set_option maxHeartbeats 8000000 in
theorem seg8 (w : World) (loose mean mg mb) (g' : Heap) (L' : Addr) (s : Shared) (Q : Flow → Shared → Prop) (M : Str → Option Value) (lr lw : Addr) (vr vw : List Value) (cr cw : Nat) (rs : List Int) (oP oM oR oW : Obj) (tb3 tb7 : List (Addr × Obj)) (c0 c1 c2 c3 r0 many : Nat) (tf tm : Tok) (t1 : Nat)
    (F : Fr g' L' s.heap (fun y => if y = Str.ofString "first" then some (.int (r0 : Int) tf) else M y))
    (N : News g' L' s.heap ((lr, W.listOf vr.toArray cr) :: (lw, W.listOf vw.toArray cw) :: (L' + 1 + 1 + 1 + 1, oP) :: (L' + 1 + 1 + 1, oM) :: (L' + 1 + 1, oR) :: (L' + 1, oW) :: (tb3 ++ tb7)))
    (dM : oM.data = .cell (some (.int (many : Int) tm))) (dR : oR.data = .cell (some (.ref lr))) (dW : oW.data = .cell (some (.ref lw)))
    (hir : IntsAre vr rs) (hbits : ∀ x ∈ rs, x = 0 ∨ x = 1) (hrl : 0 < rs.length ∧ rs.length ≤ 64) (hd2 : d2i 1 rs = (c0 : Int)) (C : ChainOk c0 c1 c2 c3 r0 many) (hw2 : StrsAre vw WORDS) (hw3 : TokIn 1 t1 vw) (ht : t1 ≤ s.toks)
    (hS3 : TabSt 30 32 4 qual30 tb3) (hS7 : TabSt 37 47 4 qual37 tb7) (hoff7 : ∀ q ∈ tb7, q.1 ∉ tb3.map (·.1)) (hoff : ∀ z ∈ (lr, W.listOf vr.toArray cr) :: (lw, W.listOf vw.toArray cw) :: (L' + 1 + 1 + 1 + 1, oP) :: (L' + 1 + 1 + 1, oM) :: (L' + 1 + 1, oR) :: (L' + 1, oW) :: [], z.1 ∉ (tb3 ++ tb7).map (·.1))
    (hlr : @LT.lt Nat _ lw lr ∧ Above L' lr) (hlw : Aside L' lw)
    (X' : (hk.heap_1 w.params).In g') (T' : Top topProg loose mean mg mb g') (B' : Below callerA g' [] g') (lL : 30 < L' ∧ 37 < L') (hret : LawRet g' L' Q s) : LawAt w L' 8 Q s := by
  revert X'
  unfold LawAt lawEnv
  w_top off
  k_fill
  intro X'
  generalize hsc : lawScope w.params = sc
  generalize hbd : List.drop 8 (lawBody w.params) = bd
  conv at hsc => lhs; whnf
  conv at hbd => lhs; whnf
  subst hsc
  subst hbd
  have hbb : ∀ x ∈ rs, 0 ≤ x ∧ x < 2 ^ 1 := fun x hx => by rcases hbits x hx with rfl | rfl <;> decide
  have hlt7 : lr ∉ tb7.map (·.1) := fun hm => hoff (lr, _) List.mem_cons_self (by rw [List.map_append]; exact List.mem_append_right _ hm)
  have hoffr : ∀ q ∈ (lw, W.listOf vw.toArray cw) :: (L' + 1 + 1 + 1 + 1, oP) :: (L' + 1 + 1 + 1, oM) :: (L' + 1 + 1, oR) :: (L' + 1, oW) :: tb3, q.1 ∉ ((lr, W.listOf vr.toArray cr) :: tb7).map (·.1) := by
    have key : ∀ z ∈ (lr, W.listOf vr.toArray cr) :: (lw, W.listOf vw.toArray cw) :: (L' + 1 + 1 + 1 + 1, oP) :: (L' + 1 + 1 + 1, oM) :: (L' + 1 + 1, oR) :: (L' + 1, oW) :: [], z.1 ≠ lr → z.1 ∉ ((lr, W.listOf vr.toArray cr) :: tb7).map (·.1) := by
      intro z hz hne hm
      rcases List.mem_cons.mp hm with e | hm
      · exact hne e
      · exact hoff z hz (by rw [List.map_append]; exact List.mem_append_right _ hm)
    exact List.forall_mem_cons.mpr ⟨key _ (.tail _ (.head _)) (Nat.ne_of_lt hlr.1), List.forall_mem_cons.mpr ⟨key _ (.tail _ (.tail _ (.head _))) (Nat.ne_of_lt hlr.2.1), List.forall_mem_cons.mpr ⟨key _ (.tail _ (.tail _ (.tail _ (.head _)))) (Nat.ne_of_lt hlr.2.2.1),
      List.forall_mem_cons.mpr ⟨key _ (.tail _ (.tail _ (.tail _ (.tail _ (.head _))))) (Nat.ne_of_lt hlr.2.2.2.1), List.forall_mem_cons.mpr ⟨key _ (.tail _ (.tail _ (.tail _ (.tail _ (.tail _ (.head _)))))) (Nat.ne_of_lt hlr.2.2.2.2.1), offs_of (x := (lr, W.listOf vr.toArray cr)) hoff7 (fun z hz e => hoff (lr, _) List.mem_cons_self (by rw [List.map_append]; exact List.mem_append_left _ (List.mem_map.mpr ⟨z, hz, e⟩)))⟩⟩⟩⟩⟩
  refine wpAny_execs_cons ?_
  k_steps
  unfold Halt
  k_dflt (refine' Claim.use ((d2i_spec w loose mean mg mb ((lw, W.listOf vw.toArray cw) :: (L' + 1 + 1 + 1 + 1, oP) :: (L' + 1 + 1 + 1, oM) :: (L' + 1 + 1, oR) :: (L' + 1, oW) :: tb3) tb7 lr vr rs cr 1 _ hS7 hir (by lia) (by lia) hbb hrl.1 hrl.2 hlt7 hoffr).toks) ?u1 ?u2 ?u3 ?u4 ?u5 ?u6 ?u7 ?u8 ?_; (case u1 => k_asm); (case u2 => k_asm); (case u3 => k_asm); (case u4 => exact news_pick' N (by k_mem)); (case u5 => k_asm); (case u6 => first | exact rfl | assumption); (case u7 => ktr_room); (case u8 => ktr_units))
  rintro v2 led2 h2 tk2 htk2 F2 N2 ⟨tb7', t2, hS7', ho1, ho2⟩
  rw [hd2]
  obtain ⟨tl, htl⟩ : ∃ tl, tl = tb3 ++ tb7' := ⟨_, rfl⟩
  have N2' : News g' L' h2 ((lr, W.listOf vr.toArray cr) :: (lw, W.listOf vw.toArray cw) :: (L' + 1 + 1 + 1 + 1, oP) :: (L' + 1 + 1 + 1, oM) :: (L' + 1 + 1, oR) :: (L' + 1, oW) :: tl) := news_pick' N2 (by
    subst htl
    k_mem)
  clear N2 N
  k_steps
  rename_i lc _ ltc _ F3 N3
  unfold Halt
  have hofx0 : ∀ z ∈ (lr, W.listOf vr.toArray cr) :: (lw, W.listOf vw.toArray cw) :: (L' + 1 + 1 + 1 + 1, oP) :: (L' + 1 + 1 + 1, oM) :: (L' + 1 + 1, oR) :: (L' + 1, oW) :: [], z.1 ∉ (tb3 ++ tb7').map (·.1) := by
    intro z hz hm
    rw [List.map_append] at hm
    rcases List.mem_append.mp hm with hm | hm
    · exact hoff z hz (by rw [List.map_append]; exact List.mem_append_left _ hm)
    · rcases List.mem_cons.mp hz with rfl | hz
      · exact ho2 hm
      · exact ho1 z (subM (by k_mem) hz) hm
  have ho70 : ∀ q ∈ tb7', q.1 ∉ tb3.map (·.1) := by
    intro q hq hm
    obtain ⟨z, hz, e⟩ := List.mem_map.mp hm
    exact ho1 z (subM (by k_mem) hz) (List.mem_map.mpr ⟨q, hq, e.symm⟩)
  have hlct : lc ∉ (tb3 ++ tb7').map (·.1) := by
    intro hm
    obtain ⟨z, hz, e⟩ := List.mem_map.mp hm
    exact absurd e (Nat.ne_of_lt (allLt_mem ltc.2.2.2.2.2.2 z (htl ▸ hz)))
  have hlcP : @Ne Nat (L' + 1 + 1 + 1 + 1) lc := Nat.ne_of_lt ltc.2.2.1
  have hlcM : @Ne Nat (L' + 1 + 1 + 1) lc := Nat.ne_of_lt ltc.2.2.2.1
  have hlcR : @Ne Nat (L' + 1 + 1) lc := Nat.ne_of_lt ltc.2.2.2.2.1
  have hlcW : @Ne Nat (L' + 1) lc := Nat.ne_of_lt ltc.2.2.2.2.2.1
  have hlcw : @Ne Nat lw lc := Nat.ne_of_lt ltc.2.1
  have hfor := C.forth
  have N3' : News g' L' _ ((lc, W.listOf [Value.int (c0 : Int) t2].toArray 0) :: (lw, W.listOf vw.toArray cw) :: (L' + 1 + 1 + 1 + 1, oP) :: (L' + 1 + 1 + 1, oM) :: (L' + 1 + 1, oR) :: (L' + 1, oW) :: (tb3 ++ tb7')) := news_pick' N3 (by
    subst htl
    k_mem)
  clear N3 ltc ho1 ho2 hoffr hlt7
  refine wpAny_execs_cons ?_
  refine wpAny_For (with_toksQ (n := t1) (by dsimp only at *; lia) ?_)
  k_steps
  rename_i h4 tk4 a4 b4 c4 R4 F4 N4 K4 htk4
  clear K4
  refine loopM_range (a₀ := 0) (b₀ := 3) (n := 3) (led := (lc, W.listOf [Value.int (c0 : Int) t2].toArray 0) :: (lw, W.listOf vw.toArray cw) :: (L' + 1 + 1 + 1 + 1, oP) :: (L' + 1 + 1 + 1, oM) :: (L' + 1 + 1, oR) :: (L' + 1, oW) :: (tb3 ++ tb7')) rfl R4 (small_one (by lia) (by lia) (by lia) (by lia)) (by decide) F4 N4
    (fun M i tk m led => J8 L' lc lw vw cw oP oM oR oW c0 c1 c2 c3 t1 M i tk m led)
    ⟨[Value.int (c0 : Int) t2], 0, tb3, tb7', hS3, hS7', ho70, ?h1, .cons _ _ .nil, htk4, fun _ _ _ _ => rfl⟩ ?turn ?done rfl rfl ?hE
  case h1 =>
    intro z hz
    rcases List.mem_cons.mp hz with rfl | hz
    · exact hlct
    · exact hofx0 z (List.mem_cons_of_mem _ hz)
  case turn =>
    intro i t tk₀ m₁ led₁ h tk I own hin htk hJ hnw hlive hown F₁ N₁
    obtain ⟨vc, cc, tbx, tby, hSx, hSy, ho7, ho8, hvc, htb, hmm⟩ := hJ
    obtain ⟨u1, u2, u3, rfl⟩ := but3 hmm
    clear hmm
    obtain ⟨tl2, htl2⟩ : ∃ tl, tl = tbx ++ tby := ⟨_, rfl⟩
    rw [← htl2] at N₁ hnw
    simp only [List.cons_append] at N₁
    have hvl := hvc.length
    (try k_fold)
    refine wpAny_execs_cons ?_
    k_steps
    unfold Halt
    obtain ⟨cv, cn, hcv, hst, hsv, htk2⟩ := chain_step C hin
    rw [hcv]
    have hrest : ∀ z ∈ (lc, W.listOf vc.toArray cc) :: (lw, W.listOf vw.toArray cw) :: (L' + 1 + 1 + 1 + 1, oP) :: (L' + 1 + 1 + 1, oM) :: (L' + 1 + 1, oR) :: (L' + 1, oW) :: own, z.1 ∉ (tbx ++ tby).map (·.1) := (List.forall_mem_append (l₁ := (lc, W.listOf vc.toArray cc) :: (lw, W.listOf vw.toArray cw) :: (L' + 1 + 1 + 1 + 1, oP) :: (L' + 1 + 1 + 1, oM) :: (L' + 1 + 1, oR) :: (L' + 1, oW) :: []) (l₂ := own)).mpr ⟨ho8, own_off hnw (by rw [htl2]; k_mem) hown⟩
    k_dflt (refine' Claim.use ((step_spec w loose mean mg mb ((lc, W.listOf vc.toArray cc) :: (lw, W.listOf vw.toArray cw) :: (L' + 1 + 1 + 1 + 1, oP) :: (L' + 1 + 1 + 1, oM) :: (L' + 1 + 1, oR) :: (L' + 1, oW) :: own) tbx tby cv _ hSx hSy ho7 hrest hst.1 hst.2.1 hst.2.2.1 hst.2.2.2.1).toks) ?u1 ?u2 ?u3 ?u4 ?u5 ?u6 ?u7 ?u8 ?_; (case u1 => k_asm); (case u2 => k_asm); (case u3 => k_asm); (case u4 => exact news_pick' N₁ (by subst htl2; k_mem)); (case u5 => k_asm); (case u6 => first | exact rfl | assumption); (case u7 => ktr_room); (case u8 => ktr_units))
    rintro v6 led6 h6 tk6 htk6 F6 N6 ⟨D, w1, cD, tbx', tby', hSx', hSy', o1, o2, o3⟩
    rw [hst.2.2.2.2, hsv] at N6 o1
    have htk6' : t1 ≤ tk6 := by
      dsimp only at htk6
      lia
    clear htk6
    have N6' : News g' _ h6 ((D, stepObj cn true w1 cD) :: (lc, W.listOf vc.toArray cc) :: (lw, W.listOf vw.toArray cw) :: (L' + 1 + 1 + 1 + 1, oP) :: (L' + 1 + 1 + 1, oM) :: (L' + 1 + 1, oR) :: (L' + 1, oW) :: (own ++ (tbx' ++ tby'))) := news_pick' N6 (by
    k_mem)
    clear N6
    obtain ⟨it, hit⟩ := hlive
    have hIt : I ∉ (tbx' ++ tby').map (·.1) := off_tail o1 (A := [(I, it)]) (fun z hz => by rw [List.mem_singleton.mp hz]; exact List.mem_append_right ((lc, W.listOf vc.toArray cc) :: (lw, W.listOf vw.toArray cw) :: (L' + 1 + 1 + 1 + 1, oP) :: (L' + 1 + 1 + 1, oM) :: (L' + 1 + 1, oR) :: (L' + 1, oW) :: []) hit) (I, it) List.mem_cons_self
    have hlcD : @Ne Nat lc D := fun e => o1 (lc, _) List.mem_cons_self (by rw [e]; exact List.mem_cons_self)
    have hlcx : lc ∉ (tbx' ++ tby').map (·.1) := fun hmm => o1 (lc, _) List.mem_cons_self (List.mem_cons_of_mem _ hmm)
    have hlcI : @Ne Nat lc I := hnw (lc, _) List.mem_cons_self
    have hO6 : OwnOff (own ++ (tbx' ++ tby')) [lc] := fun p hp b hb => by
      rw [List.mem_singleton.mp hb]
      rcases List.mem_append.mp hp with hp | hp
      · rw [hown p hp]; exact Ne.symm hlcI
      · exact fst_off hlcx hp
    have hofx : ∀ z ∈ (lc, W.listOf (vc ++ [Value.int cn w1]).toArray (cc + 1)) :: (lw, W.listOf vw.toArray cw) :: (L' + 1 + 1 + 1 + 1, oP) :: (L' + 1 + 1 + 1, oM) :: (L' + 1 + 1, oR) :: (L' + 1, oW) :: [], z.1 ∉ (tbx' ++ tby').map (·.1) := List.forall_mem_cons.mpr ⟨hlcx, off_tail o1 (by k_mem)⟩
    have hIx : ∀ z ∈ (lc, W.listOf (vc ++ [Value.int cn w1]).toArray (cc + 1)) :: (lw, W.listOf vw.toArray cw) :: (L' + 1 + 1 + 1 + 1, oP) :: (L' + 1 + 1 + 1, oM) :: (L' + 1 + 1, oR) :: (L' + 1, oW) :: (tbx' ++ tby'), z.1 ≠ I := List.forall_mem_cons.mpr ⟨hlcI, ix_of (B := (lw, W.listOf vw.toArray cw) :: (L' + 1 + 1 + 1 + 1, oP) :: (L' + 1 + 1 + 1, oM) :: (L' + 1 + 1, oR) :: (L' + 1, oW) :: []) hnw (by k_mem) hIt⟩
    have hvl6 : vc.length ≤ 4 := by
      rw [hvl]
      simp only [List.length_take, List.length_cons, List.length_nil]
      lia
    (try k_fold)
    k_steps
    unfold Halt
    refine wpAny_execs_cons ?_
    k_steps
    unfold Halt
    refine wpAny_execs_cons ?_
    k_steps
    rename_i h9 F9 N9
    simp only [List.push_toArray] at N9
    refine' EndM.intro (led' := (lc, W.listOf (vc ++ [Value.int cn w1]).toArray (cc + 1)) :: (lw, W.listOf vw.toArray cw) :: (L' + 1 + 1 + 1 + 1, oP) :: (L' + 1 + 1 + 1, oM) :: (L' + 1 + 1, oR) :: (L' + 1, oW) :: (tbx' ++ tby')) (by k_asm) N9 ?m1 ?m2 hIx ⟨vc ++ [Value.int cn w1], cc + 1, tbx', tby', hSx', hSy', o2, hofx, ?m5, ?m3, ?m4⟩
    case m1 =>
      k_mem
    case m2 =>
      k_mem
    case m5 =>
      rw [htk2]
      exact IntsAre.append hvc (.cons _ _ .nil)
    case m3 =>
      dsimp only at *
      lia
    case m4 =>
      intro y h1 h2 h3
      simp only [if_neg h1, if_neg h2, if_neg h3]
  case done =>
    intro h tk₀ tk m₁ led₁ htk hJ F₁ N₁
    obtain ⟨vc, cc, tbx, tby, hSx, hSy, ho7, ho8, hvc, htb, hmm⟩ := hJ
    replace hvc : IntsAre vc [(c0 : Int), (c1 : Int), (c2 : Int), (c3 : Int)] := hvc
    have hm1 : m₁ (Str.ofString "first") = some (.int (r0 : Int) tf) := by rw [hmm _ (by decide) (by decide) (by decide)]; rfl
    have hm2 : m₁ (Str.ofString "chain") = some (.ref lc) := by rw [hmm _ (by decide) (by decide) (by decide)]; rfl
    rw [two_of hm1 hm2] at F₁
    refine wpAny_execs_nil ?_
    exact seg10 w loose mean mg mb g' L' _ Q m₁ lw lc vw vc cw cc oP oM oR oW tbx tby c0 c1 c2 c3 r0 many tf tm t1 F₁ (news_pick' N₁ (by k_mem)) dM dW hvc C hw2 hw3 (Nat.le_trans htb htk) hSx hSy ho7 (fun z hz => ho8 z (subM (by k_mem) hz)) (Ne.symm hlcw) hlw X' T' B' lL hret
  case hE => passes_own
theorem subA6 {α : Type} {l t : List α} {u x a b c d : α} (h : ∀ z ∈ l, z ∈ u :: x :: a :: b :: c :: d :: t) : ∀ z ∈ a :: b :: c :: d :: l, z ∈ u :: x :: a :: b :: c :: d :: t :=
  List.forall_mem_cons.mpr ⟨.tail _ (.tail _ (.head _)), List.forall_mem_cons.mpr ⟨.tail _ (.tail _ (.tail _ (.head _))), List.forall_mem_cons.mpr ⟨.tail _ (.tail _ (.tail _ (.tail _ (.head _)))), List.forall_mem_cons.mpr ⟨.tail _ (.tail _ (.tail _ (.tail _ (.tail _ (.head _))))), h⟩⟩⟩⟩
def ptOk (p k : Nat) : Bool := decide (-(2 ^ 64) < (pt (p : Int) k).1 ∧ (pt (p : Int) k).1 < 2 ^ 64 ∧ (pt (p : Int) k).2 < 0 ∧ -(2 ^ 64) < (pt (p : Int) k).2 ∧ (pt (p : Int) k).1.fdiv (pt (p : Int) k).2 = -chs (p : Int) (k + 1) ∧ (pt (p : Int) k).1.fmod (pt (p : Int) k).2 = 0)
theorem ptOk_all : ((List.range 29).all fun p => (List.range 10).all fun k => ptOk p k) = true := by decide +kernel
theorem pt_ok {p : Int} {k : Nat} (h0 : 0 ≤ p) (h1 : p < 29) (hk : k < 10) : -(2 ^ 64) < (pt p k).1 ∧ (pt p k).1 < 2 ^ 64 ∧ (pt p k).2 < 0 ∧ -(2 ^ 64) < (pt p k).2 ∧ (pt p k).1.fdiv (pt p k).2 = -chs p (k + 1) ∧ (pt p k).1.fmod (pt p k).2 = 0 := by
  obtain ⟨q, rfl⟩ := Int.eq_ofNat_of_zero_le h0
  have h2 := List.all_eq_true.mp (List.all_eq_true.mp ptOk_all q (List.mem_range.mpr (by lia))) k (List.mem_range.mpr hk)
  exact of_decide_eq_true h2
/-- what the law says of the parted places -/
def negL (ps : List Int) (n : Nat) : List (Int × Int) := (List.range n).map fun k => (-chs (ps[k]?.getD 0) (k + 1), 0)
theorem negL_succ (ps : List Int) (n : Nat) : negL ps (n + 1) = negL ps n ++ [(-chs (ps[n]?.getD 0) (n + 1), 0)] := by
  simp [negL, List.range_succ]
theorem part_neg {ps : List Int} (hpb : ∀ p ∈ ps, 0 ≤ p ∧ p < 29) (hpl : ps.length ≤ 10) : partL ps ps.length = negL ps ps.length := by
  unfold partL negL
  apply List.map_congr_left
  intro k hk
  have hk' := List.mem_range.mp hk
  have hp := hpb _ (getD_mem hk')
  obtain ⟨-, -, -, -, e1, e2⟩ := pt_ok (k := k) hp.1 hp.2 (by lia)
  rw [e1, e2]
theorem mem6 {α : Type} {l : List α} {x a b c d e f : α} (h : x ∈ l) : x ∈ a :: b :: c :: d :: e :: f :: l := .tail _ (.tail _ (.tail _ (.tail _ (.tail _ (.tail _ h)))))
def datP (q : Int × Int) : Dat := .tuple [.int q.1, .int q.2]
theorem dat_pairs {pr : List (Addr × Obj)} {rs : List Value} {qs : List (Int × Int)} (h : PairsIn pr rs qs) : DatAll pr rs (qs.map datP) := by
  induction h with
  | nil => exact .nil
  | @cons D q r u1 u2 c rs qs hm hr ih => exact .cons (.tuple (vs := [.int q u1, .int r u2]) hm (.cons (.int _ _) (.cons (.int _ _) .nil))) ih
theorem dat_snoc {n : List (Addr × Obj)} {vs : List Value} {ds : List Dat} {v : Value} {d : Dat} (h : DatAll n vs ds) (hv : DatIn n v d) : DatAll n (vs ++ [v]) (ds ++ [d]) := by
  induction vs generalizing ds with
  | nil => cases h; exact .cons hv .nil
  | cons u us ih => cases h with | cons hu hr => exact .cons hu (ih hr)
theorem datP_ok (qs : List (Int × Int)) : ∀ d ∈ qs.map datP, kqdOk 8 d = true := by
  intro d hd
  obtain ⟨q, _, rfl⟩ := List.mem_map.mp hd
  rfl
set_option maxRecDepth 100000 in
set_option maxHeartbeats 8000000 in
theorem seg7 (w : World) (loose mean mg mb) (g' : Heap) (L' : Addr) (s : Shared) (Q : Flow → Shared → Prop) (M : Str → Option Value) (lp lr lw : Addr) (vp vr vw : List Value) (cp cr cw : Nat) (ps rs : List Int) (oP oM oR oW : Obj) (c0 c1 c2 c3 r0 many : Nat) (tf tm : Tok) (t1 : Nat)
    (F : Fr g' L' s.heap (fun y => if y = Str.ofString "first" then some (.int (r0 : Int) tf) else M y))
    (N : News g' L' s.heap ((lp, W.listOf vp.toArray cp) :: (lr, W.listOf vr.toArray cr) :: (lw, W.listOf vw.toArray cw) :: (L' + 1 + 1 + 1 + 1, oP) :: (L' + 1 + 1 + 1, oM) :: (L' + 1 + 1, oR) :: (L' + 1, oW) :: (30, tabObj #[]) :: [(37, tabObj #[])]))
    (dP : oP.data = .cell (some (.ref lp))) (dM : oM.data = .cell (some (.int (many : Int) tm))) (dR : oR.data = .cell (some (.ref lr))) (dW : oW.data = .cell (some (.ref lw)))
    (hip : IntsAre vp ps) (hpb : ∀ p ∈ ps, 0 ≤ p ∧ p < 29) (hpl : ps.length ≤ 10)
    (hir : IntsAre vr rs) (hbits : ∀ x ∈ rs, x = 0 ∨ x = 1) (hrl : 0 < rs.length ∧ rs.length ≤ 64) (hd2 : d2i 1 rs = (c0 : Int)) (C : ChainOk c0 c1 c2 c3 r0 many) (hw2 : StrsAre vw WORDS) (hw3 : TokIn 1 t1 vw) (ht : t1 ≤ s.toks)
    (hlp : @Ne Nat lr lp ∧ @Ne Nat lw lp ∧ @Ne Nat (L' + 1 + 1 + 1 + 1) lp ∧ @Ne Nat (L' + 1 + 1 + 1) lp ∧ @Ne Nat (L' + 1 + 1) lp ∧ @Ne Nat (L' + 1) lp ∧ @Ne Nat 30 lp ∧ @Ne Nat 37 lp) (hlr : @LT.lt Nat _ lw lr ∧ Above L' lr) (hlw : Aside L' lw)
    (X' : (hk.heap_1 w.params).In g') (T' : Top topProg loose mean mg mb g') (B' : Below callerA g' [] g') (lL : 30 < L' ∧ 37 < L') (hret : LawRet g' L' Q s) : LawAt w L' 7 Q s := by
  revert X'
  unfold LawAt lawEnv
  w_top off
  k_fill
  intro X'
  generalize hsc : lawScope w.params = sc
  generalize hbd : List.drop 7 (lawBody w.params) = bd
  conv at hsc => lhs; whnf
  conv at hbd => lhs; whnf
  subst hsc
  subst hbd
  have h37 : ∀ q ∈ ([(37, tabObj #[])] : List (Addr × Obj)), q.1 ∉ ([(30, tabObj #[])] : List (Addr × Obj)).map (·.1) := by
    intro q hq
    rw [List.mem_singleton.mp hq]
    decide
  have a30 : @Ne Nat 30 lp := hlp.2.2.2.2.2.2.1
  have a37 : @Ne Nat 37 lp := hlp.2.2.2.2.2.2.2
  have hl7 : lp ∉ ([(30, tabObj #[]), (37, tabObj #[])] : List (Addr × Obj)).map (·.1) := by
    intro hmm
    rcases List.mem_cons.mp hmm with e | hmm
    · exact a30 e.symm
    · exact a37 (List.mem_singleton.mp hmm).symm
  have hoff : ∀ z ∈ (lr, W.listOf vr.toArray cr) :: (lw, W.listOf vw.toArray cw) :: (L' + 1 + 1 + 1 + 1, oP) :: (L' + 1 + 1 + 1, oM) :: (L' + 1 + 1, oR) :: (L' + 1, oW) :: [], z.1 ∉ ([(lp, W.listOf vp.toArray cp), (30, tabObj #[]), (37, tabObj #[])] : List (Addr × Obj)).map (·.1) := by
    have lL1 : @LT.lt Nat _ 37 L' := lL.2
    have key : ∀ a : Nat, a ≠ lp → 37 ≠ a → 30 ≠ a → a ∉ ([(lp, W.listOf vp.toArray cp), (30, tabObj #[]), (37, tabObj #[])] : List (Addr × Obj)).map (·.1) := fun a h1 h2 h3 hm => by
      rcases List.mem_cons.mp hm with e | hm
      · exact h1 e
      · rcases List.mem_cons.mp hm with e | hm
        · exact h3 e.symm
        · exact h2 (List.mem_singleton.mp hm).symm
    have k37 : ∀ n : Nat, @Ne Nat 37 (L' + n) := fun n => Nat.ne_of_lt (Nat.lt_of_lt_of_le lL1 (Nat.le_add_right _ n))
    have k30 : ∀ n : Nat, @Ne Nat 30 (L' + n) := fun n => Nat.ne_of_lt (Nat.lt_of_lt_of_le (Nat.lt_trans (by decide) lL1) (Nat.le_add_right _ n))
    exact List.forall_mem_cons.mpr ⟨key _ hlp.1 (Nat.ne_of_lt hlr.2.2.2.2.2.2) (Nat.ne_of_lt hlr.2.2.2.2.2.1), List.forall_mem_cons.mpr ⟨key _ hlp.2.1 hlw.2.2.2.2.2 hlw.2.2.2.2.1,
      List.forall_mem_cons.mpr ⟨key (L' + 1 + 1 + 1 + 1) hlp.2.2.1 (k37 4) (k30 4), List.forall_mem_cons.mpr ⟨key (L' + 1 + 1 + 1) hlp.2.2.2.1 (k37 3) (k30 3), List.forall_mem_cons.mpr ⟨key (L' + 1 + 1) hlp.2.2.2.2.1 (k37 2) (k30 2), List.forall_mem_cons.mpr ⟨key (L' + 1) hlp.2.2.2.2.2.1 (k37 1) (k30 1), fun _ h => nomatch h⟩⟩⟩⟩⟩⟩
  have hbd : ∀ k p, ps[k]? = some p → -(2 ^ 64) < (pt p k).1 ∧ (pt p k).1 < 2 ^ 64 ∧ (pt p k).2 < 0 ∧ -(2 ^ 64) < (pt p k).2 := by
    intro k p hk
    have hp := hpb p (List.mem_of_getElem? hk)
    have hkl := (List.getElem?_eq_some_iff.mp hk).1
    obtain ⟨e1, e2, e3, e4, -⟩ := pt_ok (k := k) hp.1 hp.2 (by lia)
    exact ⟨e1, e2, e3, e4⟩
  refine wpAny_execs_cons ?_
  k_steps
  unfold Halt
  k_dflt (refine' Claim.use ((parted_spec w loose mean mg mb ((lr, W.listOf vr.toArray cr) :: (lw, W.listOf vw.toArray cw) :: (L' + 1 + 1 + 1 + 1, oP) :: (L' + 1 + 1 + 1, oM) :: (L' + 1 + 1, oR) :: (L' + 1, oW) :: []) [(30, tabObj #[])] [(37, tabObj #[])] lp vp ps cp (.inl rfl) (.inl rfl) h37 hl7 hoff hip (by lia) (fun p hp => by have := hpb p hp; lia) hbd).toks) ?u1 ?u2 ?u3 ?u4 ?u5 ?u6 ?u7 ?u8 ?_; (case u1 => k_asm); (case u2 => k_asm); (case u3 => k_asm); (case u4 => exact news_pick' N (by k_mem)); (case u5 => k_asm); (case u6 => first | exact rfl | assumption); (case u7 => ktr_room); (case u8 => ktr_units))
  rintro v2 led2 h2 tk2 htk2 F2 N2 ⟨P, rp, cP, pr, tbx, tby, hSx, hSy, hpr, o1, o2, o3⟩
  have N2' : News g' L' h2 ((lp, W.listOf vp.toArray cp) :: (L' + 1 + 1 + 1 + 1, oP) :: (L' + 1 + 1 + 1, oM) :: (L' + 1 + 1, oR) :: (L' + 1, oW) :: ((P, W.listOf rp.toArray cP) :: (lr, W.listOf vr.toArray cr) :: (lw, W.listOf vw.toArray cw) :: (pr ++ (tbx ++ tby)))) := news_pick' N2 (by
    k_mem)
  clear N2 N
  obtain ⟨tl, htl⟩ : ∃ tl, tl = (P, W.listOf rp.toArray cP) :: (lr, W.listOf vr.toArray cr) :: (lw, W.listOf vw.toArray cw) :: (pr ++ (tbx ++ tby)) := ⟨_, rfl⟩
  rw [← htl] at N2'
  k_steps
  unfold Halt
  refine with_toksQ (n := t1) (by dsimp only at *; lia) ?_
  k_dflt (refine LCg.ListComp_U (F₀ := by k_asm) (by with_unfolding_all rfl) (by decide) (by rfl) (by decide) (by rfl) ?_)
  k_steps
  unfold Halt
  refine LCg.CompSrc.range (n := ps.length) (by rfl) (by k_asm) (by k_asm) (by assumption) (small_one (by lia) (by lia) (by lia) (by lia)) (by first | exact rangeSize_nat _ _ | rfl) (by rw [PySem.sizeLine_eq]; lia) ?_
  intro gg
  refine compJ (fun i ys nw => ∃ tlx, nw = (lp, W.listOf vp.toArray cp) :: (L' + 1 + 1 + 1 + 1, oP) :: (L' + 1 + 1 + 1, oM) :: (L' + 1 + 1, oR) :: (L' + 1, oW) :: tlx ∧ (∀ z ∈ tl, z ∈ tlx) ∧ DatAll tlx ys ((negL ps i).map datP)) ⟨tl, rfl, fun _ h => h, .nil⟩ ?turn ?done
  case turn =>
    intro i v I oI C₁ oC D m₂ ys nw h tk E' hin hv hJ hC hx F₁ N₁ off ne
    obtain ⟨tlx, rfl, hsub, hys⟩ := hJ
    obtain ⟨t, rfl⟩ := hv
    have off₀ := off
    (try simp only [LCg.Off3, and_true] at off)
    k_steps
    unfold Halt
    rw [List.getD_eq_getElem?_getD, toNat_zero_add]
    have hpi := hpb _ (getD_mem hin)
    k_dflt (refine' Claim0.use (choices_spec w loose mean mg mb _ _ (0 + (i : Int) + 1) _ _ (by exact hpi.1) (by exact Int.le_of_lt (Int.lt_of_lt_of_le hpi.2 (by decide))) (by lia) (by lia)) ?u1 ?u2 ?u3 ?u4 ?u5 ?u6 ?u7 ?u8 ?_; (case u1 => k_asm); (case u2 => k_asm); (case u3 => k_asm); (case u4 => k_asm); (case u5 => k_asm); (case u6 => first | exact rfl | assumption); (case u7 => ktr_room); (case u8 => ktr_units))
    rintro v5 led5 h5 tk5 F5 N5 ⟨t5⟩
    rw [toNat_zero_add1]
    k_steps
    rename_i T _ F7 N7 l7
    unfold Halt
    refine LCg.CompEnd.intro (by k_asm) N7 ((lp, W.listOf vp.toArray cp) :: (L' + 1 + 1 + 1 + 1, oP) :: (L' + 1 + 1 + 1, oM) :: (L' + 1 + 1, oR) :: (L' + 1, oW) :: (T, { cls := .type "tuple", data := .seq #[.int (-chs (ps[i]?.getD 0) (i + 1)) tk5, .int 0 (tk5 + 1)] }) :: tlx) ?s1 ?s2 trivial ⟨_, rfl, fun z hz => List.mem_cons_of_mem _ (hsub z hz), ?s3⟩
    case s1 =>
      k_mem
    case s2 =>
      exact ⟨off₀.1, off₀.2.1, off₀.2.2.1, off₀.2.2.2.1, off₀.2.2.2.2.1, ⟨Nat.ne_of_gt l7.1, Nat.ne_of_gt l7.2.1, Nat.ne_of_gt l7.2.2.1⟩, off₀.2.2.2.2.2⟩
    case s3 =>
      rw [negL_succ, List.map_append]
      exact dat_snoc (hys.mono fun z hz => List.mem_cons_of_mem _ hz) (.tuple (vs := [.int _ _, .int _ _]) List.mem_cons_self (.cons (.int _ _) (.cons (.int _ _) .nil)))
  case done =>
    intro ys nw hJ
    obtain ⟨tlx, rfl, hsub, hys⟩ := hJ
    k_steps
    rename_i D₂ _ _ _ N9 _ htk9
    unfold Halt
    rw [show (D₂, LCg.lst ys) = (D₂, LCg.lst ys) from rfl] at N9
    have hPx : (P, W.listOf rp.toArray cP) ∈ tlx := hsub _ (by rw [htl]; exact List.mem_cons_self)
    have hdp : DatAll tlx rp ((partL ps ps.length).map datP) := (dat_pairs hpr).mono (fun z hz => hsub z (by rw [htl]; exact subM (by k_mem) hz))
    refine kqd_ne (n₁ := tlx) (n₂ := tlx) N9 (mem6 hPx) rfl rfl hdp (fun z hz => mem6 hz) List.mem_cons_self rfl rfl hys (fun z hz => mem6 hz) (datP_ok _) (datP_ok _) (by units_room) ?_
    have hde : ∀ i : Decidable (List.map datP (negL ps ps.length) = List.map datP (negL ps ps.length)), @decide _ i = true := fun i => decide_eq_true rfl
    rw [part_neg hpb hpl, hde _]
    simp only [Bool.not_true]
    k_steps
    unfold Halt
    have hofx : ∀ z ∈ (lr, W.listOf vr.toArray cr) :: (lw, W.listOf vw.toArray cw) :: (L' + 1 + 1 + 1 + 1, oP) :: (L' + 1 + 1 + 1, oM) :: (L' + 1 + 1, oR) :: (L' + 1, oW) :: [], z.1 ∉ (tbx ++ tby).map (·.1) := by
      intro z hz hmm
      refine o1 z hz ?_
      obtain ⟨q, hq, e⟩ := List.mem_map.mp hmm
      exact List.mem_map.mpr ⟨q, List.mem_cons_of_mem _ (List.mem_cons_of_mem _ (List.mem_append_right _ hq)), e⟩
    exact seg8 w loose mean mg mb g' L' _ Q M lr lw vr vw cr cw rs oP oM oR oW tbx tby c0 c1 c2 c3 r0 many tf tm t1 (by k_asm) (List.forall_mem_cons.mpr ⟨N9 _ (mem6 (hsub _ (by rw [htl]; k_mem))), List.forall_mem_cons.mpr ⟨N9 _ (mem6 (hsub _ (by rw [htl]; k_mem))), fun z hz => N9 z (subM (A := (L' + 1 + 1 + 1 + 1, oP) :: (L' + 1 + 1 + 1, oM) :: (L' + 1 + 1, oR) :: (L' + 1, oW) :: (tbx ++ tby)) (subA6 (fun z h => mem6 (hsub z (by rw [htl]; exact subM (by k_mem) h)))) hz)⟩⟩) dM dR dW hir hbits hrl hd2 C hw2 hw3 htk9 hSx hSy o2 hofx hlr hlw X' T' B' lL hret
set_option maxRecDepth 100000 in
set_option maxHeartbeats 8000000 in
theorem seg5 (w : World) (loose mean mg mb) (g' : Heap) (L' : Addr) (s : Shared) (Q : Flow → Shared → Prop) (M : Str → Option Value) (lr lw : Addr) (vr vw : List Value) (cr cw : Nat) (rs : List Int) (oP oM oR oW : Obj) (many : Nat) (tm : Tok) (t1 : Nat) (x0 : Option Value)
    (F : Fr g' L' s.heap M)
    (N : News g' L' s.heap ((lr, W.listOf vr.toArray cr) :: (lw, W.listOf vw.toArray cw) :: (L' + 1 + 1 + 1 + 1, oP) :: (L' + 1 + 1 + 1, oM) :: (L' + 1 + 1, oR) :: (L' + 1, oW) :: (30, tabObj #[]) :: [(37, tabObj #[])]))
    (dP : oP.data = .cell x0) (dM : oM.data = .cell (some (.int (many : Int) tm))) (dR : oR.data = .cell (some (.ref lr))) (dW : oW.data = .cell (some (.ref lw)))
    (hir : IntsAre vr rs) (hbits : ∀ x ∈ rs, x = 0 ∨ x = 1) (hrl : rs.length ≤ 29) (hone : onesN rs = many) (h2 : 2 ≤ many ∧ many ≤ 10) (hw2 : StrsAre vw WORDS) (hw3 : TokIn 1 t1 vw) (ht : t1 ≤ s.toks)
    (hlr : @LT.lt Nat _ lw lr ∧ Above L' lr) (hlw : Aside L' lw)
    (X' : (hk.heap_1 w.params).In g') (T' : Top topProg loose mean mg mb g') (B' : Below callerA g' [] g') (lL : 30 < L' ∧ 37 < L') (hret : LawRet g' L' Q s) : LawAt w L' 5 Q s := by
  revert X'
  unfold LawAt lawEnv
  w_top off
  k_fill
  intro X'
  generalize hsc : lawScope w.params = sc
  generalize hbd : List.drop 5 (lawBody w.params) = bd
  conv at hsc => lhs; whnf
  conv at hbd => lhs; whnf
  subst hsc
  subst hbd
  refine wpAny_execs_cons ?_
  k_steps
  unfold Halt
  have hvl := hir.length
  refine with_toksQ (n := t1) ht ?_
  k_dflt (refine LCt.ListComp_T (F₀ := by k_asm) (by with_unfolding_all rfl) (by decide) (by rfl) (by decide) (by rfl) ?_)
  k_steps
  unfold Halt
  refine LCt.CompSrcT.range (n := rs.length) (by rfl) (by k_asm) (by k_asm) (by assumption) (small_one (by lia) (by lia) (by lia) (by lia)) (by first | exact rangeSize_nat _ _ | rfl) (by rw [PySem.sizeLine_eq]; lia) ?_
  intro gg
  refine compJT (fun i ys nw => nw = (lr, W.listOf vr.toArray cr) :: (lw, W.listOf vw.toArray cw) :: (L' + 1 + 1 + 1 + 1, oP) :: (L' + 1 + 1 + 1, oM) :: (L' + 1 + 1, oR) :: (L' + 1, oW) :: (30, tabObj #[]) :: [(37, tabObj #[])] ∧ IntsAre ys ((placesN rs i).map fun (p : Nat) => (p : Int))) ⟨rfl, .nil⟩ ?turn ?done
  case turn =>
    intro i v I oI C₁ oC D m₂ ys nw h tk E' hin hv hJ hC hx F₁ N₁ off ne
    obtain ⟨rfl, hys⟩ := hJ
    obtain ⟨t, rfl⟩ := hv
    have off₀ := off
    (try simp only [LCg.Off3, and_true] at off)
    k_steps
    · rename_i h1
      unfold Halt
      refine LCg.CompEnd.intro (by k_asm) (by k_asm) _ (fun p hp => hp) off₀ trivial ⟨rfl, ?_⟩
      rw [List.getD_eq_getElem?_getD, toNat_zero_add] at h1
      rw [placesN_succ, if_pos h1, List.map_append]
      refine IntsAre.append hys ?_
      rw [Int.zero_add]
      exact .cons _ _ .nil
    · rename_i h1
      unfold Halt
      refine LCg.CompEnd.intro (by k_asm) (by k_asm) _ (fun p hp => hp) off₀ trivial ⟨rfl, ?_⟩
      rw [List.getD_eq_getElem?_getD, toNat_zero_add] at h1
      rw [placesN_succ, if_neg h1, List.append_nil]
      exact hys
  case done =>
    intro ys nw hJ
    obtain ⟨rfl, hys⟩ := hJ
    have lL1 : @LT.lt Nat _ 30 L' := lL.1
    have lL2 : @LT.lt Nat _ 37 L' := lL.2
    k_steps
    unfold Halt
    rename_i lp _ tk9 hnp htk9 _ oP2 F8 N8 dP2
    refine wpAny_execs_cons ?_
    k_steps
    unfold Halt
    have hlen : ys.length = many := by rw [hys.length, List.length_map, placesN_length, hone]
    have hpl0 : ((placesN rs rs.length).map fun (p : Nat) => (p : Int)).length = many := by rw [List.length_map, placesN_length, hone]
    have hpl' : ((placesN rs rs.length).map fun (p : Nat) => (p : Int)).length ≤ 900 := by lia
    have hpb : ∀ p ∈ (placesN rs rs.length).map (fun (p : Nat) => (p : Int)), 0 ≤ p ∧ p < 29 := by
      intro p hp
      obtain ⟨q, hq, rfl⟩ := List.mem_map.mp hp
      have := placesN_lt hq
      lia
    have hpb' : ∀ p ∈ (placesN rs rs.length).map (fun (p : Nat) => (p : Int)), 0 ≤ p ∧ p ≤ 1000 := fun p hp => by have := hpb p hp; lia
    have hofp : ∀ q ∈ (lr, W.listOf vr.toArray cr) :: (lw, W.listOf vw.toArray cw) :: (L' + 1 + 1 + 1 + 1, oP2) :: (L' + 1 + 1 + 1, oM) :: (L' + 1 + 1, oR) :: (L' + 1, oW) :: (30, tabObj #[]) :: [(37, tabObj #[])], q.1 ≠ lp := by
      exact List.forall_mem_cons.mpr ⟨hnp.1, List.forall_mem_cons.mpr ⟨hnp.2.1, List.forall_mem_cons.mpr ⟨hnp.2.2.1, List.forall_mem_cons.mpr ⟨hnp.2.2.2.1, List.forall_mem_cons.mpr ⟨hnp.2.2.2.2.1, List.forall_mem_cons.mpr ⟨hnp.2.2.2.2.2.1, List.forall_mem_cons.mpr ⟨hnp.2.2.2.2.2.2.1, List.forall_mem_cons.mpr ⟨hnp.2.2.2.2.2.2.2, fun _ h => nomatch h⟩⟩⟩⟩⟩⟩⟩⟩
    k_dflt (refine' Claim.use ((rank_spec w loose mean mg mb ((lr, W.listOf vr.toArray cr) :: (lw, W.listOf vw.toArray cw) :: (L' + 1 + 1 + 1 + 1, oP2) :: (L' + 1 + 1 + 1, oM) :: (L' + 1 + 1, oR) :: (L' + 1, oW) :: (30, tabObj #[]) :: [(37, tabObj #[])]) lp ys ((placesN rs rs.length).map fun (p : Nat) => (p : Int)) ys.length hofp hys hpb' hpl').toks) ?u1 ?u2 ?u3 ?u4 ?u5 ?u6 ?u7 ?u8 ?_; (case u1 => k_asm); (case u2 => k_asm); (case u3 => k_asm); (case u4 => exact news_pick' N8 (by k_mem)); (case u5 => k_asm); (case u6 => first | exact rfl | assumption); (case u7 => ktr_room); (case u8 => ktr_units))
    rintro v5 led5 h5 tk5 htk5 F5 N5 ⟨t5⟩
    have N5' : News g' L' h5 ((lp, LCg.lst ys) :: (lr, W.listOf vr.toArray cr) :: (lw, W.listOf vw.toArray cw) :: (L' + 1 + 1 + 1 + 1, oP2) :: (L' + 1 + 1 + 1, oM) :: (L' + 1 + 1, oR) :: (L' + 1, oW) :: (30, tabObj #[]) :: [(37, tabObj #[])]) := news_pick' N5 (by
    k_mem)
    clear N5
    rw [rankV_eq]
    k_steps
    rename_i F7 N7
    unfold Halt
    obtain ⟨c0, c1, c2, c3, hd2, C⟩ := row_number hbits hrl hone h2.1
    have hrp : 0 < rs.length := by
      have h1 : onesN rs ≤ rs.length := List.length_filter_le _ _
      lia
    exact seg7 w loose mean mg mb g' L' _ Q M lp lr lw ys vr vw ys.length cr cw ((placesN rs rs.length).map fun (p : Nat) => (p : Int)) rs oP2 oM oR oW c0 c1 c2 c3 (rk 0 (placesN rs rs.length)) many t5 tm t1 F7 N7 dP2 dM dR dW hys hpb (by lia) hir hbits ⟨hrp, by lia⟩ hd2 C hw2 hw3 (by dsimp only at *; lia) hnp hlr hlw X' T' B' lL hret
set_option maxRecDepth 100000 in
set_option maxHeartbeats 8000000 in
theorem seg3 (w : World) (loose mean mg mb) (g' : Heap) (L' : Addr) (s : Shared) (Q : Flow → Shared → Prop) (M : Str → Option Value) (lr lw : Addr) (vr vw : List Value) (cr cw : Nat) (rs : List Int) (oP oM oR oW : Obj) (t1 : Nat)
    (F : Fr g' L' s.heap M)
    (N : News g' L' s.heap ((lr, W.listOf vr.toArray cr) :: (lw, W.listOf vw.toArray cw) :: (L' + 1 + 1 + 1 + 1, oP) :: (L' + 1 + 1 + 1, oM) :: (L' + 1 + 1, oR) :: (L' + 1, oW) :: (30, tabObj #[]) :: [(37, tabObj #[])]))
    (dP : oP.data = .cell none) (dM : oM.data = .cell none) (dR : oR.data = .cell (some (.ref lr))) (dW : oW.data = .cell (some (.ref lw)))
    (hir : IntsAre vr rs) (hro : RowOk 5 rs) (htr : TokIn 1 s.toks vr) (hs1 : 1 ≤ s.toks) (hw2 : StrsAre vw WORDS) (hw3 : TokIn 1 t1 vw) (ht : t1 ≤ s.toks)
    (hlr : @LT.lt Nat _ lw lr ∧ Above L' lr) (hlw : Aside L' lw)
    (X' : (hk.heap_1 w.params).In g') (T' : Top topProg loose mean mg mb g') (B' : Below callerA g' [] g') (lL : 30 < L' ∧ 37 < L') (hret : LawRet g' L' Q s) : LawAt w L' 3 Q s := by
  revert X'
  unfold LawAt lawEnv
  w_top off
  k_fill
  intro X'
  generalize hsc : lawScope w.params = sc
  generalize hbd : List.drop 3 (lawBody w.params) = bd
  conv at hsc => lhs; whnf
  conv at hbd => lhs; whnf
  subst hsc
  subst hbd
  have lL1 : @LT.lt Nat _ 30 L' := lL.1
  have lL2 : @LT.lt Nat _ 37 L' := lL.2
  have hvl := hir.length
  have hrl := hro.len
  refine wpAny_execs_cons ?_
  k_steps
  unfold Halt
  k_dflt (refine add_two (vs := vr) (ws := [Value.int 0 s.toks, Value.int 1 (s.toks + 1), Value.int 1 (s.toks + 1 + 1)]) (by k_asm) (by k_asm) (by k_mem) (by k_mem) (by simp only [List.length_cons, List.length_nil]; lia) ?_)
  intro D h6 F6 N6 lt6
  k_lt lt6
  have hlD : @LT.lt Nat _ lw D ∧ Above L' D := ⟨lt6.2.2.1, lt6.2.2.2.1, lt6.2.2.2.2.1, lt6.2.2.2.2.2.1, lt6.2.2.2.2.2.2.1, lt6.2.2.2.2.2.2.2.1, lt6.2.2.2.2.2.2.2.2⟩
  have N6' : News g' L' h6 ((D, W.listOf (vr ++ [Value.int 0 s.toks, Value.int 1 (s.toks + 1), Value.int 1 (s.toks + 1 + 1)]).toArray 0) :: (lw, W.listOf vw.toArray cw) :: (L' + 1 + 1 + 1 + 1, oP) :: (L' + 1 + 1 + 1, oM) :: (L' + 1 + 1, oR) :: (L' + 1, oW) :: (30, tabObj #[]) :: [(37, tabObj #[])]) := news_pick' N6 (by
    k_mem)
  clear N6 lt6
  k_steps
  unfold Halt
  refine wpAny_execs_cons ?_
  k_steps
  rename_i _ oR2 F8 N8 dR2
  unfold Halt
  have hvq : ∀ v ∈ (vr ++ [Value.int 0 s.toks, Value.int 1 (s.toks + 1), Value.int 1 (s.toks + 1 + 1)]), ∃ n t, v = .int n t ∧ (n = 0 ∨ n = 1) ∧ t ≠ 0 ∧ t ≠ s.toks + 1 + 1 + 1 := by
    intro v hv
    rcases List.mem_append.mp hv with hv | hv
    · obtain ⟨j, hj⟩ := List.mem_iff_getElem?.mp hv
      obtain ⟨n, t, rfl, hn⟩ := ints_get hir hj
      have h1 := htr _ hv
      have h1' : 1 ≤ t ∧ t < s.toks := h1
      exact ⟨n, t, rfl, hro.bits n (List.mem_of_getElem? hn), show @Ne Nat t 0 from Nat.ne_of_gt h1'.1, show @Ne Nat t (s.toks + 1 + 1 + 1) from Nat.ne_of_lt (Nat.lt_of_lt_of_le h1'.2 (Nat.le_add_right s.toks 3))⟩
    · simp only [List.mem_cons, List.not_mem_nil, or_false] at hv
      rcases hv with rfl | rfl | rfl
      · exact ⟨0, s.toks, rfl, .inl rfl, show @Ne Nat s.toks 0 by lia, show @Ne Nat s.toks (s.toks + 1 + 1 + 1) by lia⟩
      · exact ⟨1, s.toks + 1, rfl, .inr rfl, show @Ne Nat (s.toks + 1) 0 by lia, show @Ne Nat (s.toks + 1) (s.toks + 1 + 1 + 1) by lia⟩
      · exact ⟨1, s.toks + 1 + 1, rfl, .inr rfl, show @Ne Nat (s.toks + 1 + 1) 0 by lia, show @Ne Nat (s.toks + 1 + 1) (s.toks + 1 + 1 + 1) by lia⟩
  have hofD : ∀ q ∈ (lw, W.listOf vw.toArray cw) :: (L' + 1 + 1 + 1 + 1, oP) :: (L' + 1 + 1 + 1, oM) :: (L' + 1 + 1, oR2) :: (L' + 1, oW) :: (30, tabObj #[]) :: [(37, tabObj #[])], q.1 ≠ D := by
    exact List.forall_mem_cons.mpr ⟨Nat.ne_of_lt hlD.1, List.forall_mem_cons.mpr ⟨Nat.ne_of_lt hlD.2.1, List.forall_mem_cons.mpr ⟨Nat.ne_of_lt hlD.2.2.1, List.forall_mem_cons.mpr ⟨Nat.ne_of_lt hlD.2.2.2.1, List.forall_mem_cons.mpr ⟨Nat.ne_of_lt hlD.2.2.2.2.1, List.forall_mem_cons.mpr ⟨Nat.ne_of_lt hlD.2.2.2.2.2.1, List.forall_mem_cons.mpr ⟨Nat.ne_of_lt hlD.2.2.2.2.2.2, fun _ h => nomatch h⟩⟩⟩⟩⟩⟩⟩
  have hiq : IntsAre (vr ++ [Value.int 0 s.toks, Value.int 1 (s.toks + 1), Value.int 1 (s.toks + 1 + 1)]) (rs ++ [0, 1, 1]) := IntsAre.append hir (.cons _ _ (.cons _ _ (.cons _ _ .nil)))
  k_dflt (refine' Claim.use ((count_spec w loose mean mg mb ((lw, W.listOf vw.toArray cw) :: (L' + 1 + 1 + 1 + 1, oP) :: (L' + 1 + 1 + 1, oM) :: (L' + 1 + 1, oR2) :: (L' + 1, oW) :: (30, tabObj #[]) :: [(37, tabObj #[])]) D (vr ++ [Value.int 0 s.toks, Value.int 1 (s.toks + 1), Value.int 1 (s.toks + 1 + 1)]) 0 (s.toks + 1 + 1 + 1) hofD hvq (show @Ne Nat (s.toks + 1 + 1 + 1) 0 by lia)).toks) ?u1 ?u2 ?u3 ?u4 ?u5 ?u6 ?u7 ?u8 ?_; (case u1 => k_asm); (case u2 => k_asm); (case u3 => k_asm); (case u4 => exact news_pick' N8 (by k_mem)); (case u5 => k_asm); (case u6 => first | exact rfl | assumption); (case u7 => ktr_room); (case u8 => ktr_units))
  rintro v5 led5 h5 tk5 htk5 F5 N5 ⟨t5⟩
  rw [cnt_ones hiq]
  generalize hvv : (vr ++ [Value.int 0 s.toks, Value.int 1 (s.toks + 1), Value.int 1 (s.toks + 1 + 1)]) = vq at *
  k_steps
  rename_i _ oM2 F7 N7 dM2
  unfold Halt
  have ho8 := hro.ones
  have hone : onesN (rs ++ [0, 1, 1]) = onesN rs + 2 := by
    unfold onesN
    rw [List.filter_append, List.length_append]
    rfl
  have hone' : onesN rs ≤ 8 := ho8
  exact seg5 w loose mean mg mb g' L' _ Q M D lw vq vw 0 cw (rs ++ [0, 1, 1]) oP oM2 oR2 oW (onesN (rs ++ [0, 1, 1])) t5 t1 none F7 N7 dP dM2 dR2 dW hiq (fun x hx => by
    rcases List.mem_append.mp hx with hx | hx
    · exact hro.bits x hx
    · simp only [List.mem_cons, List.not_mem_nil, or_false] at hx
      rcases hx with rfl | rfl | rfl <;> simp) (by rw [List.length_append]; simp only [List.length_cons, List.length_nil]; lia) rfl ⟨by lia, by lia⟩ hw2 hw3 (by dsimp only at *; lia) hlD hlw X' T' B' lL hret
theorem RowOk.le5 {i : Nat} {rs : List Int} (h : RowOk i rs) (hi : i ≤ 5) : RowOk 5 rs := by
  have h1 := h.len
  have h2 := h.ones
  exact ⟨h.bits, by lia, by lia⟩
/-- between the rows -/
inductive J0 (L' lw : Addr) (vw : List Value) (cw : Nat) (oP oM oW : Obj) (t2 : Nat) (M : Str → Option Value) (i tk : Nat) : (Str → Option Value) → List (Addr × Obj) → Prop
  | mk (l : Addr) (vr : List Value) (rs : List Int) (c : Nat) (oR : Obj) (hd : oR.data = .cell (some (.ref l))) (hi : IntsAre vr rs) (ho : RowOk i rs) (ht : TokIn 1 tk vr) (h2 : t2 ≤ tk) (hl : @LT.lt Nat _ lw l ∧ Above L' l) (u : Option Value) :
    J0 L' lw vw cw oP oM oW t2 M i tk (fun y => if y = Str.ofString "k" then u else M y) ((l, W.listOf (List.toArray vr) c) :: (lw, W.listOf vw.toArray cw) :: (L' + 1 + 1 + 1 + 1, oP) :: (L' + 1 + 1 + 1, oM) :: (L' + 1 + 1, oR) :: (L' + 1, oW) :: (30, tabObj #[]) :: [(37, tabObj #[])])
theorem J0.of {L' lw : Addr} {vw : List Value} {cw : Nat} {oP oM oW : Obj} {t2 : Nat} {M : Str → Option Value} {i tk : Nat} {m : Str → Option Value} (l : Addr) (vr : List Value) (rs : List Int) (c : Nat) (oR : Obj) (hd : oR.data = .cell (some (.ref l))) (hi : IntsAre vr rs) (ho : RowOk i rs) (ht : TokIn 1 tk vr) (h2 : t2 ≤ tk) (hl : @LT.lt Nat _ lw l ∧ Above L' l) {u : Option Value} (e : m = fun y => if y = Str.ofString "k" then u else M y) :
    J0 L' lw vw cw oP oM oW t2 M i tk m ((l, W.listOf (List.toArray vr) c) :: (lw, W.listOf vw.toArray cw) :: (L' + 1 + 1 + 1 + 1, oP) :: (L' + 1 + 1 + 1, oM) :: (L' + 1 + 1, oR) :: (L' + 1, oW) :: (30, tabObj #[]) :: [(37, tabObj #[])]) := e ▸ .mk l vr rs c oR hd hi ho ht h2 hl u
set_option maxRecDepth 100000 in
set_option maxHeartbeats 8000000 in
theorem law_call (w : World) (p : Program) (loose mean mg mb) (s : Shared) (la : Addr) (vs : List Value) (ns : List Int) (R : Result → Shared → Prop)
    (X : (hk.heap_1 w.params).In s.heap) (T : Top p loose mean mg mb s.heap) (hT9 : TabsAt ([(34, 30), (41, 37)] : List (Addr × Addr)) s.heap) (hl : s.heap.IsList la vs.toArray) (hi : IntsAre vs ns) (hn : ns.length ≤ 63)
    (hret : ∀ h' tk' m' led o3 o7, Fr (ghostOf s.heap [(34, 30), (41, 37)]) s.heap.objs.size h' m' → News (ghostOf s.heap [(34, 30), (41, 37)]) s.heap.objs.size h' led → (30, tabObj o3) ∈ led → (37, tabObj o7) ∈ led → R (.ok (.ret (.bool true))) { s with heap := h', toks := tk' }) :
    codeAny (model PySem.Challenge.rw_un0019_01.row.prog w) callerA (.call (.ref 177) ⟨[.ref la], []⟩) R s := by
  revert X
  w_top off
  k_fill
  intro X
  k_dflt (refine' code_topC ?k1 ?k2 ?k6 ?k7 ?k8 ?k9 ?kB ?kD ?_ ?c2 ?c3 ?c4; (case k1 => exact X); (case k2 => exact T); (case k6 => k_is); (case k7 => k_is); (case k8 => decide); (case k9 => exact BindsTo.of_eq rfl); (case kB => exact rfl); (case kD => decide +kernel); (case c2 => exact rfl); (case c3 => exact rfl); (case c4 => exact rfl); k_whole; intro h1 tk1 cells htk1 F N Y)
  refine wpAny_mono (E := fun _ _ => False) ?_ (fun _ _ h => h) (fun _ _ h => h.elim)
  obtain ⟨oP, oM, oR, oW, hE, dP, dM, dR, dW⟩ := PyProof.Rows.CellsAre.four Y
  subst hE
  clear Y
  replace dP : oP.data = .cell none := dP
  replace dM : oM.data = .cell none := dM
  replace dR : oR.data = .cell none := dR
  replace dW : oW.data = .cell none := dW
  kn_ghosts F T
  clear T hl hT9
  rename Fr _ _ _ _ => F1
  rename News _ _ _ _ => N1
  rename Frag.In _ _ => X'
  rename Below _ _ _ _ => B'
  rename Top _ _ _ _ _ _ => T'
  replace F1 : Fr (ghostOf s.heap [(34, 30), (41, 37)]) s.heap.objs.size h1 (fun y => if y = Str.ofString "script" then some (Value.ref la) else none) := F1
  rename _ ∧ _ => lL
  generalize ghostOf s.heap [(34, 30), (41, 37)] = g' at *
  generalize s.heap.objs.size = L' at *
  (try k_fold)
  refine wpAny_execs_cons ?_
  k_steps
  unfold Halt
  k_dflt (refine' Claim.use ((words_spec w _ mean mg mb ((L' + 1 + 1 + 1 + 1, oP) :: (L' + 1 + 1 + 1, oM) :: (L' + 1 + 1, oR) :: (L' + 1, oW) :: (30, tabObj #[]) :: [(37, tabObj #[])])).toks) ?u1 ?u2 ?u3 ?u4 ?u5 ?u6 ?u7 ?u8 ?_; (case u1 => k_asm); (case u2 => k_asm); (case u3 => k_asm); (case u4 => exact fun z hz => N1 z (by simp only [List.nil_append] at hz; exact hz)); (case u5 => k_asm); (case u6 => first | exact rfl | assumption); (case u7 => ktr_room); (case u8 => ktr_units))
  rintro v2 led2 h2 tk2 htk2 F2 N2 ⟨lw, vw, cw, hw1, hw2, hw3⟩
  simp only [List.cons_append, List.nil_append] at N2
  have hlw : Aside L' lw := ⟨hw1 (L' + 1 + 1 + 1 + 1, oP) (by k_mem), hw1 (L' + 1 + 1 + 1, oM) (by k_mem), hw1 (L' + 1 + 1, oR) (by k_mem), hw1 (L' + 1, oW) (by k_mem), hw1 (30, tabObj #[]) (by k_mem), hw1 (37, tabObj #[]) (by k_mem)⟩
  clear hw1
  have hw3' : TokIn 1 tk2 vw := fun v hv => ⟨Nat.le_trans htk1 (hw3 v hv).1, (hw3 v hv).2⟩
  have htk2' : 1 ≤ tk2 := Nat.le_trans htk1 htk2
  clear hw3 htk2
  k_steps
  rename_i _ oW2 F3 N3 dW2
  unfold Halt
  refine wpAny_execs_cons ?_
  k_steps
  rename_i lr _ lt3 _ oR2 F4 N4 dR2
  unfold Halt
  refine wpAny_execs_cons ?_
  refine wpAny_For (with_toksQ (n := tk2) (by dsimp only at *; lia) ?_)
  k_steps
  rename_i _ _ _ _ _ _ _ _ h5 tk5 a5 b5 c5 R5 F5 N5 K5 htk5
  clear K5
  have hn5 : (List.take 5 ns).length = min 5 ns.length := List.length_take
  refine loopM_range (a₀ := 0) (n := min 5 ns.length) (led := (lr, W.listOf (List.toArray []) 0) :: (lw, W.listOf vw.toArray cw) :: (L' + 1 + 1 + 1 + 1, oP) :: (L' + 1 + 1 + 1, oM) :: (L' + 1 + 1, oR2) :: (L' + 1, oW2) :: (30, tabObj #[]) :: [(37, tabObj #[])]) rfl R5 (small_one (by lia) (by lia) (by lia) (by lia)) (by rw [hn5]; exact rangeSize_nat _ _) F5 (fun p hp => N5 p (List.mem_cons_of_mem _ hp))
    (fun M i tk m led => J0 L' lw vw cw oP oM oW2 tk2 M i tk m led)
    (J0.of lr [] [] 0 oR2 dR2 .nil RowOk.nil TokIn.nil htk5 lt3 start1v) ?turn ?done rfl rfl ?hE
  case turn =>
    intro i t tk₀ m₁ led₁ h tk I own hin htk hJ hnw hlive hown F₁ N₁
    obtain ⟨l, vr, rs, c, oR3, dR3, hir, hro, htr, htt, hlt, u⟩ := hJ
    simp only [List.cons_append, List.nil_append] at N₁
    have hRI : @Ne Nat (L' + 1 + 1) I := hnw (L' + 1 + 1, oR3) (by k_mem)
    (try k_fold)
    refine wpAny_execs_cons ?_
    k_steps
    unfold Halt
    have hq := row_times (a := List.getD ns (Int.toNat (0 + (i : Int))) 0) i
    k_dflt (refine mul_one (by k_asm) (by k_asm) (by k_mem) hq.1 (by lia) ?_)
    intro D5 h6 F6 N6 lt6
    k_lt lt6
    have hlen5 : (min 5 ns.length) ≤ 5 := Nat.min_le_left _ _
    have hvl := hir.length
    have hrl := hro.len
    k_steps
    unfold Halt
    k_dflt (refine add_two (by k_asm) (by k_asm) (by k_mem) (by k_mem) (by rw [List.length_replicate]; lia) ?_)
    intro D6 h7 F7 N7 lt7
    k_lt lt7
    have hlt7 : @LT.lt Nat _ lw D6 ∧ Above L' D6 := ⟨lt7.2.2.2.1, lt7.2.2.2.2.1, lt7.2.2.2.2.2.1, lt7.2.2.2.2.2.2.1, lt7.2.2.2.2.2.2.2.1, lt7.2.2.2.2.2.2.2.2.1, lt7.2.2.2.2.2.2.2.2.2.1⟩
    obtain ⟨it, hit⟩ := hlive
    have hD6I : @Ne Nat D6 I := Nat.ne_of_gt (allLt_mem lt7.2.2.2.2.2.2.2.2.2.2 _ hit)
    have hO : OwnOff own [L' + 1 + 1] := fun p hp b hb => by
      rw [List.mem_singleton.mp hb, hown p hp]
      exact Ne.symm hRI
    have hro' := hro.step hq.1 hq.2
    have hir' := IntsAre.append hir (intsAre_replicate (Int.fmod (List.getD ns (Int.toNat (0 + (i : Int))) 0) (7 - Int.fmod (0 + (i : Int)) 2 * 2)).toNat (Int.fmod (0 + (i : Int)) 2) (tk + 1))
    have htr' : TokIn 1 (tk + 1 + 1) (vr ++ List.replicate (Int.fmod (List.getD ns (Int.toNat (0 + (i : Int))) 0) (7 - Int.fmod (0 + (i : Int)) 2 * 2)).toNat (Value.int (Int.fmod (0 + (i : Int)) 2) (tk + 1))) := by
      intro v hv
      rcases List.mem_append.mp hv with hv | hv
      · exact ⟨(htr v hv).1, Nat.lt_of_lt_of_le (htr v hv).2 (Nat.le_trans htk (Nat.le_add_right tk 2))⟩
      · rw [(List.mem_replicate.mp hv).2]
        exact ⟨Nat.le_add_left 1 tk, Nat.lt_succ_self (tk + 1)⟩
    generalize rs ++ List.replicate _ _ = rq at hro' hir'
    generalize vr ++ List.replicate _ _ = vq at N7 hir' htr'
    have N7' : News g' L' h7 ((D6, W.listOf vq.toArray 0) :: (lw, W.listOf vw.toArray cw) :: (L' + 1 + 1 + 1 + 1, oP) :: (L' + 1 + 1 + 1, oM) :: (L' + 1 + 1, oR3) :: (L' + 1, oW2) :: (30, tabObj #[]) :: (37, tabObj #[]) :: own) := news_pick' N7 (by
    k_mem)
    clear N7 lt7 lt6 hq hlt hlen5 hrl hvl hro hir htr
    k_steps
    rename_i h8 oR4 F8 N8 dR4
    refine' EndM.intro (led' := (D6, W.listOf vq.toArray 0) :: (lw, W.listOf vw.toArray cw) :: (L' + 1 + 1 + 1 + 1, oP) :: (L' + 1 + 1 + 1, oM) :: (L' + 1 + 1, oR4) :: (L' + 1, oW2) :: (30, tabObj #[]) :: [(37, tabObj #[])]) (by k_asm) N8 ?m1 ?m2 ?m3 (J0.of D6 vq rq 0 oR4 dR4 hir' hro' ?m4 ?m5 hlt7 step1)
    case m1 =>
      k_mem
    case m2 =>
      k_mem
    case m3 =>
      exact List.forall_mem_cons.mpr ⟨hD6I, List.forall_mem_cons.mpr ⟨hnw (lw, _) (by k_mem), List.forall_mem_cons.mpr ⟨hnw (L' + 1 + 1 + 1 + 1, oP) (by k_mem), List.forall_mem_cons.mpr ⟨hnw (L' + 1 + 1 + 1, oM) (by k_mem), List.forall_mem_cons.mpr ⟨hRI, fun z hz => hnw z (subM (by k_mem) hz)⟩⟩⟩⟩⟩
    case m4 =>
      refine htr'.mono ?_
      dsimp only
      lia
    case m5 =>
      dsimp only
      lia
  case done =>
    intro h tk₀ tk m₁ led₁ htk hJ F₁ N₁
    obtain ⟨l, vr, rs, c, oR3, dR3, hir, hro, htr, htt, hlt, u⟩ := hJ
    refine wpAny_execs_nil ?_
    exact seg3 w _ mean mg mb g' L' _ _ _ l lw vr vw c cw rs oP oM oR3 oW2 tk2 F₁ N₁ dP dM dR3 dW2 hir (hro.le5 (Nat.min_le_left _ _)) (htr.mono htk) (Nat.le_trans htk2' (Nat.le_trans htt htk)) hw2 hw3' (Nat.le_trans htt htk) hlt hlw X' T' B' lL hret
  case hE => passes_own
end Mine
end
section
set_option linter.unusedVariables false
set_option linter.unusedSimpArgs false
open PySem PySem.W PySem.W.X PyProof.Rows
set_option maxRecDepth 100000 in
set_option maxHeartbeats 0 in
theorem PySem.Challenge.cw_un0019_01_holds : PySem.Challenge.rw_un0019_01.Holds := by
  refine Mine.hk ?_
  refine holds_open (q := Mine.view) (loose := Mine.loose) (Xt := Mine.Xt) (XP := XL Mine.view []) (YP := fun w h => (Mine.hk.heap_1 w.params).In h ∧ ∀ P ∈ ([30, 37] : List Addr), h.get? P = some (tabObj #[])) Mine.left Mine.hook.of Mine.hook.keeps (fun s e => xl_of s (Bool.and_eq_true_iff.mp e).1) XL.keeps (by rfl) (by rfl) (by rfl) (fun s e => recFacts_of (Bool.and_eq_true_iff.mp e).2) (by rfl) (row_said Mine.said_law) Mine.okv ⟨rfl, rfl, rfl, rfl, rfl, by decide +kernel⟩ ?hw ?hc
  case hw => w_witness2
  w_top off
  k_fill
  intro w s₀ s₁ mg mb G Y fa o pm cd doc dV kV ho hd hcd hD hmg hg args vals as hpre hlay hrd hwl hlo
  have KX := Y.1
  have hT8 := Y.2
  refine Ground.open G ?_
  intro T B D TE TW
  try (refine guard_noD D (by decide +kernel) ?_; clear D)
  have hT9 : TabsAt ([(34, 30), (41, 37)] : List (Addr × Addr)) s₁.heap := List.forall_mem_cons.mpr ⟨⟨codeHd_of_K (c := 34) (P := 30) KX (by kernel_rfl), hT8 30 (by simp)⟩, List.forall_mem_cons.mpr ⟨⟨codeHd_of_K (c := 41) (P := 37) KX (by kernel_rfl), hT8 37 (by simp)⟩, fun _ h => nomatch h⟩⟩
  x_fa T KX hmg
  wrow_args hpre hlay hrd hwl hlo
  refine enter_call ?_
  w_top on
  kn_posts
  rename Heap.IsList _ _ _ => hLs
  rename IntsAre _ _ => hIs
  rename ¬ _ => hln
  refine Mine.law_call w _ _ _ mg mb s₁ _ _ _ _ KX T hT9 hLs hIs (by omega) ?_
  intro h' tk' m' led o3 o7 F N h3 h7
  refine ⟨?_, ⟨o3, (N _ h3).1⟩, ⟨o7, (N _ h7).1⟩, trivial⟩
  k_steps
end
