import PyProof.Rows.All
import Wide.All
import OpenK.AllK
import Wide.FinOn
import Lean
import PySem.Challenge.RW_qh0054_01
open PySem PySem.W PyProof.Rows PySem.Calls
set_option Elab.async false
set_option maxRecDepth 100000
set_option maxHeartbeats 16000000
namespace Mine
/- the library's run of a top, its two great parts by their quick twins; the text's own terms stay as they stand (a twin of the text weighs 2 to 3 MB) -/
noncomputable def topQ (tb : String → Option Builtin) (p : Program) (w : World) (N : Nat) (s : Shared) : {x : Option Shared // topFrom tb p w N s = x} :=
  ⟨_, by unfold topFrom; rw [PySem.W.Fast.te14082659384304107361, PySem.W.Fast.te8920871248978507458]⟩
/- where the text's run ends, from the library's booted heap -/
noncomputable def endsAt (w : World) (os : OsState) : Option Shared := (topQ PySem.W.Fast.tw14364793385576792824 PySem.Challenge.pw_qh0054_01 w 2112 ⟨boot_heap w.params, Array.mk [], boot_drawn, boot_toks, os⟩).1
noncomputable def lse : List Str := [Str.ofString "bytes_types", Str.ofString "a2b_base64", Str.ofString "b2a_base64", Str.ofString "b64encode", Str.ofString "b64decode"]
noncomputable def vw : Program := view PySem.Challenge.pw_qh0054_01 [0, 2, 3, 5, 6, 7, 8, 9, 11, 12, 14, 15, 16, 17, 18, 19, 26, 27, 28, 29, 30, 31]
noncomputable def xt : Shared → Bool := fun s => xlAt vw [] s && recOk (RowW.records (OpenRow.toRowW (OpenLaw.row PySem.Challenge.rw_qh0054_01))) s
theorem left_gen {p q : Program} {loose : List Str} {Xt : Shared → Bool} {α : Type} {Yf : Shared → α} {Ya : World → α} {N : Nat} {T : String → Option Builtin}
    {S : Program → List Str → List Str → (Shared → Bool) → Bool → Shared → _} (hT : treeTable = T) (hS : @openSeen = S)
    (e : opening p = plainProg p.main.scope.names) (hN : Nat.ble 600 N = true) (f : ∀ s, fenceModules? p s = some s)
    (seen : ∀ (w : World) (os : OsState), (topQ T p w N ⟨boot_heap w.params, Array.mk [], boot_drawn, boot_toks, os⟩).1.map (fun s => S q loose (importedModules p.main.body) Xt true s) = some (openGood q loose))
    (all : ∀ (w : World) (os : OsState), (topQ T p w N ⟨boot_heap w.params, Array.mk [], boot_drawn, boot_toks, os⟩).1.map Yf = some (Ya w)) :
    LeftO p q loose Xt Yf Ya N true := fun w => by
  subst hT hS
  obtain ⟨⟨h, gs, d, k, os⟩, e1, e2⟩ := Option.map_eq_some_iff.mp (boot_open e hN f w)
  obtain ⟨rfl, rfl, rfl, rfl⟩ : h = boot_heap w.params ∧ gs = Array.mk [] ∧ d = boot_drawn ∧ k = boot_toks := by simpa using e2
  obtain ⟨s, r1, r2⟩ := Option.map_eq_some_iff.mp (all w os)
  obtain ⟨s', r3, r4⟩ := Option.map_eq_some_iff.mp (seen w os)
  rw [r1] at r3
  obtain rfl : s = s' := Option.some.inj r3
  unfold openEnds
  rw [e1, Option.bind_some, (topQ _ _ _ _ _).2, r1]
  exact congrArg some (Prod.ext r4 r2)
theorem seenQ (w : World) (os : OsState) : (endsAt w os).map (fun s => PySem.W.Fast.tw4187177175401517315 vw lse (importedModules PySem.Challenge.pw_qh0054_01.main.body) xt true s) = some (openGood vw lse) := by kernel_rfl
theorem opens : opening PySem.Challenge.pw_qh0054_01 = plainProg PySem.Challenge.pw_qh0054_01.main.scope.names := by kernel_rfl
theorem left_boot {α : Type} {Yf : Shared → α} {Ya : World → α} (all : ∀ (w : World) (os : OsState), (endsAt w os).map Yf = some (Ya w)) :
    LeftO PySem.Challenge.pw_qh0054_01 vw lse xt Yf Ya 2112 true :=
  left_gen PySem.W.Fast.te14364793385576792824 PySem.W.Fast.te4187177175401517315 opens rfl (fun _ => by kernel_rfl) seenQ all
theorem look1 : PySem.W.Fast.tw17960256430627541270 (PySem.W.Fast.tw2368527892694137696 PySem.Challenge.rw_qh0054_01) = true := by kernel_rfl
theorem look : PySem.Challenge.rw_qh0054_01.wellSaid = true := by
  rw [PySem.W.Fast.te9446332074065402090]
  delta PySem.W.Fast.tw9446332074065402090
  dsimp only
  rw [look1]
  kernel_rfl
local macro_rules | `(tactic| o_law) => `(tactic| refine holds_law look fun said => ?_)
local macro_rules | `(tactic| o_head $H) => `(tactic| (
  refine holds_open (q := vw) (loose := lse) (Xt := xt) (XP := XL vw []) (Yf := Hook.obs $H) (Ya := Hook.val $H) (YP := Hook.says $H) (N := 2112) ?hl (Hook.of $H) (Hook.keeps $H) (fun s e => xl_of s (Bool.and_eq_true_iff.mp e).1) XL.keeps (by rfl) (by rfl) (by rfl) (fun s e => recFacts_of (Bool.and_eq_true_iff.mp e).2) (by rfl) (by assumption) (by decide +kernel) ⟨rfl, rfl, rfl, rfl, rfl, by decide +kernel⟩ ?hw ?hc
  (case hl => exact left_boot (fun _ _ => by kernel_rfl))))
open_top hd for PySem.Challenge.rw_qh0054_01
end Mine
namespace Mine

/-- the machine's surroundings of a call: frames, depth, units as letters -/
abbrev arnd (dp un : Nat) (gd : Option (List Code)) (outer : List Env) : Around := { handled := none, depth := dp, frames := some outer, guards := gd, units := un }

abbrev Led := List (Addr × Obj)
abbrev adr (own : Led) : List Addr := own.map (·.1)

/-- how a call that I have told ends: it gives v back, all that is not its own stands as it stood -/
noncomputable def OutR (s : Shared) (own : Led) (P : Value → Led → Prop) (r : Result) (s' : Shared) : Prop :=
  ∃ v h' tk news', r = .ok (.ret v) ∧ s' = { s with heap := h', toks := tk } ∧ (∀ b o, (hideAll s.heap (adr own)).get? b = some o → h'.get? b = some o) ∧
    (∀ q ∈ news', h'.get? q.1 = some q.2 ∧ (hideAll s.heap (adr own)).get? q.1 = none) ∧ P v news'

/-- the same, told at the end of the body's walk -/
noncomputable def OutB (s : Shared) (g : Heap) (P : Value → Led → Prop) (v : Value) (s' : Shared) : Prop :=
  ∃ L' m' news' h' tk, s' = { s with heap := h', toks := tk } ∧ Fr g L' h' m' ∧ News g L' h' news' ∧ P v news'

theorem outB {s : Shared} {g : Heap} {P : Value → Led → Prop} {v : Value} {L' : Addr} {m' : Str → Option Value} {news' : Led} {h' : Heap} {tk : Nat} (F : Fr g L' h' m') (N : News g L' h' news') (hp : P v news') :
    OutB s g P v { s with heap := h', toks := tk } := ⟨L', m', news', h', tk, rfl, F, N, hp⟩

/-- where a told call may be made -/
structure Here (K : Frag) (p : Program) (loose : List Str) (mean : ExcName → Option Value) (mg mb : Str → Option Value) (base : Heap) (outer : List Env) (h₀ h : Heap) : Prop where
  X : K.In h₀
  T : Top p loose mean mg mb h₀
  stays : base.StaysIn h₀
  frames : h₀.FunFrames base outer
  keep : h₀.StaysIn h

section
variable {prog : Program} {w : World} {s : Shared} {base h₀ : Heap} {outer : List Env} {K : Frag} {p : Program} {loose : List Str} {mean : ExcName → Option Value} {mg mb : Str → Option Value} {dp un : Nat} {gd : Option (List Code)}
  {name qual : Str} {params : Arguments} {body : List Stmt} {scope : Scope} {cl : List (Str × Addr)} {dV kV doc pm cdv ct : Value} {an od : Option Addr} {oc : Value} {osl : Array (Option Value)} {fo : Obj} {f : Addr} {args : Args} {binds : List (Str × Value)} {own : Led} {P : Value → Led → Prop}

theorem hide_stays (H : Here K p loose mean mg mb base outer h₀ s.heap) (hown : ∀ q ∈ own, s.heap.get? q.1 = some q.2 ∧ h₀.get? q.1 = none) : h₀.StaysIn (hideAll s.heap (adr own)) := fun b o e =>
  hideAll_get _ (H.keep b o e) fun q => by
    obtain ⟨x, hx, rfl⟩ := List.mem_map.mp q
    rw [(hown x hx).2] at e; cases e

theorem enterO (H : Here K p loose mean mg mb base outer h₀ s.heap) (hown : ∀ q ∈ own, s.heap.get? q.1 = some q.2 ∧ h₀.get? q.1 = none)
    (ho : s.heap.get? f = some fo) (hd : fo.data = .func (fnX name qual params body scope cl dV kV doc pm an cdv ct)) (hcd : s.heap.CodeRec cdv qual) (hroom : dp < recursionLimit)
    (hbind : BindsTo s (fnX name qual params body scope cl dV kV doc pm an cdv ct) args binds) (hloc : ∀ y ∈ binds, scope.names.lookup y.1 = some .local)
    (h : ∀ g L' h₁, g = hideAll s.heap (adr own) → Fr g L' h₁ (fun y => binds.reverse.lookup y) → News g L' h₁ own → Below (arnd dp un gd outer) base outer g → K.In g → Top p loose mean mg mb g →
      wpAny (model prog w) ((arnd dp un gd outer).deeper (envX qual scope L' f cdv cl)) (execs body (envX qual scope L' f cdv cl))
        (fun fl s' => OutB s g P (match fl with | .ret v => v | _ => .none) s') (fun _ _ => False) { s with heap := h₁, toks := s.toks + binds.length })
    (hcell : ∀ x ∈ scope.names, x.2 ≠ .cell) (hco : scope.isCoroutine = false := by rfl) (hgen : scope.isGenerator = false := by rfl) (hk : scope.kind = .function := by rfl) :
    codeAny (model prog w) (arnd dp un gd outer) (.call (.ref f) args) (OutR s own P) s := by
  have st := hide_stays H hown
  refine codeAny_call_def (fd := fnX name qual params body scope cl dV kV doc pm an cdv ct) (body := body) (binds := binds) hroom ho hd (H.T.nolimit.keeps H.keep) hcd rfl hbind hcell hloc (fun h₁ hns hk₁ => ?_) hco hgen hk
  refine wpAny_mono (h _ s.heap.objs.size h₁ rfl ⟨hns, fun b o e => hk₁ b o (of_hideAll _ e), Nat.le_of_eq (hideAll_size _ _)⟩
    (fun q hq => ⟨hk₁ _ _ (hown q hq).1, Nat.ne_of_lt (Heap.lt_size (hown q hq).1), hideAll_none _ (List.mem_map_of_mem hq)⟩)
    ⟨rfl, fun b o e => st b o (H.stays b o e), H.frames.of_keeps fun b o e _ => ⟨o, st b o e, rfl⟩⟩ (H.X.keeps st) (H.T.keeps st)) (fun fl s' hl => ?_) fun _ _ x => x.elim
  obtain ⟨L', m', news', h', tk, rfl, F', N', hp⟩ := hl
  exact ⟨_, h', tk, news', rfl, rfl, F'.keep, fun q hq => ⟨(N' q hq).1, (N' q hq).2.2⟩, hp⟩

theorem enterK (H : Here K p loose mean mg mb base outer h₀ s.heap) (hown : ∀ q ∈ own, s.heap.get? q.1 = some q.2 ∧ h₀.get? q.1 = none)
    (ho : K.lookup f = some ⟨oc, od, .func (fnOf name qual params body scope dV kV doc pm an cdv ct), osl⟩) (hcd : codeIn K cdv qual = true) (hroom : dp < recursionLimit)
    (hbind : BindsTo s (fnOf name qual params body scope dV kV doc pm an cdv ct) args binds) (hloc : ∀ y ∈ binds, scope.names.lookup y.1 = some .local)
    (h : ∀ g L' h₁, g = hideAll s.heap (adr own) → Fr g L' h₁ (fun y => binds.reverse.lookup y) → News g L' h₁ own → Below (arnd dp un gd outer) base outer g → K.In g → Top p loose mean mg mb g →
      wpAny (model prog w) ((arnd dp un gd outer).deeper (envOf qual scope L' f cdv)) (execs body (envOf qual scope L' f cdv))
        (fun fl s' => OutB s g P (match fl with | .ret v => v | _ => .none) s') (fun _ _ => False) { s with heap := h₁, toks := s.toks + binds.length })
    (hcell : ∀ x ∈ scope.names, x.2 ≠ .cell) (hco : scope.isCoroutine = false := by rfl) (hgen : scope.isGenerator = false := by rfl) (hk : scope.kind = .function := by rfl) :
    codeAny (model prog w) (arnd dp un gd outer) (.call (.ref f) args) (OutR s own P) s :=
  enterO (cl := []) H hown ((H.X.keeps H.keep) _ _ ho) rfl (codeRec_of (H.X.keeps H.keep) hcd) hroom hbind hloc h hcell hco hgen hk

theorem enterC (H : Here K p loose mean mg mb base outer h₀ s.heap) (hown : ∀ q ∈ own, s.heap.get? q.1 = some q.2 ∧ h₀.get? q.1 = none)
    (ho : K.lookup f = some ⟨oc, od, .func (fnOf name qual params body scope dV kV doc pm an cdv ct), osl⟩) (hcd : codeIn K cdv qual = true) (hroom : dp < recursionLimit)
    (hbind : BindsTo s (fnOf name qual params body scope dV kV doc pm an cdv ct) args binds) (hkind : (binds.all fun y => scope.names.lookup y.1 == some .local || scope.names.lookup y.1 == some .cell) = true)
    (hnd : ((cellsFrom 0 scope.names []).map (·.1)).Nodup)
    (h : ∀ g L' h₁ tk cells, g = hideAll s.heap (adr own) → Fr g L' h₁ (bindL (envOfC qual scope L' f cdv).kindOf binds fun _ => none) → News g L' h₁ (cells ++ own) →
      CellsAre (bindC (envOfC qual scope L' f cdv).kindOf binds fun _ => none) (cellsFrom (L' + 1) scope.names []) cells → Below (arnd dp un gd outer) base outer g → K.In g → Top p loose mean mg mb g → (∀ p ∈ own, p.1 < L') →
      wpAny (model prog w) ((arnd dp un gd outer).deeper (envOfC qual scope L' f cdv)) (execs body (envOfC qual scope L' f cdv))
        (fun fl s' => OutB s g P (match fl with | .ret v => v | _ => .none) s') (fun _ _ => False) { s with heap := h₁, toks := tk })
    (hco : scope.isCoroutine = false := by rfl) (hgen : scope.isGenerator = false := by rfl) (hk : scope.kind = .function := by rfl) :
    codeAny (model prog w) (arnd dp un gd outer) (.call (.ref f) args) (OutR s own P) s := by
  have st := hide_stays H hown
  have X := H.X.keeps H.keep
  refine codeAny_call_function hroom (X _ _ ho) rfl hco hgen rfl (codeRec_of X hcd) (hbind _ _ _ _ ?_)
  refine wpAny_newFunctionEnv_cells hk (kindsX hkind _) fun env' he s' x => ?_
  subst he
  refine ⟨(H.T.nolimit.keeps H.keep).keeps x.toInCall.keep, codeAny_func ?_⟩
  obtain ⟨h₁, tk, rfl, _⟩ := x.done
  have hk₁ := x.toInCall.keep
  obtain ⟨cells, NC, Y⟩ := Cl.news (h₀ := s.heap) (Nat.le_refl _) fun n c hm => ⟨x.cell n c (lookup_of_mem_nodup (cellsFrom_names scope.names 0 (s.heap.objs.size + 1) [] [] rfl ▸ hnd) hm), x.above n c hm⟩
  refine wpAny_mono (h _ s.heap.objs.size h₁ tk cells rfl ⟨x.toInCall.ns, fun b o e => hk₁ b o (of_hideAll _ e), Nat.le_of_eq (hideAll_size _ _)⟩ (fun q hq => ?_) Y
    ⟨rfl, fun b o e => st b o (H.stays b o e), H.frames.of_keeps fun b o e _ => ⟨o, st b o e, rfl⟩⟩ (H.X.keeps st) (H.T.keeps st) (fun q hq => Heap.lt_size (hown q hq).1)) (fun fl s' hl => ?_) fun _ _ y => y.elim
  · rcases List.mem_append.mp hq with hq | hq
    · refine ⟨(NC q hq).1, (NC q hq).2.1, ?_⟩
      cases e : (hideAll s.heap (adr own)).get? q.1 with
      | none => rfl
      | some o => have := of_hideAll _ e; rw [(NC q hq).2.2] at this; cases this
    · exact ⟨hk₁ _ _ (hown q hq).1, Nat.ne_of_lt (Heap.lt_size (hown q hq).1), hideAll_none _ (List.mem_map_of_mem hq)⟩
  · obtain ⟨L', m', news', h', tk, rfl, F', N', hp⟩ := hl
    exact ⟨_, h', tk, news', rfl, rfl, F'.keep, fun q hq => ⟨(N' q hq).1, (N' q hq).2.2⟩, hp⟩

/-- a told call, used where the walk stands -/
theorem useO {A₀ A : Around} {env : Env} {L : Addr} {m : Str → Option Value} {news : Led} {Q : Value → Shared → Prop} {E : Value → Shared → Prop} {fv : Value} {vs : List Value}
    (B : Below A₀ base outer h₀) (F : Fr h₀ L s.heap m) (X : K.In h₀) (N : News h₀ L s.heap news) (T : Top p loose mean mg mb h₀) (hA : A = arnd dp un gd (env :: outer)) (hf : env.frame = some L) (hke : env.scope.kind = .function)
    (hown : ∀ q ∈ own, q ∈ news)
    (C : ∀ g, Here K p loose mean mg mb base (env :: outer) g s.heap → (∀ q ∈ own, s.heap.get? q.1 = some q.2 ∧ g.get? q.1 = none) → codeAny (model prog w) (arnd dp un gd (env :: outer)) (.call fv ⟨vs, []⟩) (OutR s own P) s)
    (ret : ∀ v h' tk news', Fr h₀ L h' m → (∀ q ∈ news, q.1 ∉ adr own → h'.get? q.1 = some q.2) → News h₀ L h' news' → (∀ q ∈ news', ∀ x ∈ news, x.1 ∉ adr own → x.1 ≠ q.1) → P v news' → Q v { s with heap := h', toks := tk }) :
    wpAny (model prog w) A (call fv vs) Q E s := by
  subst hA
  obtain ⟨_, BG, st, _⟩ := groundX (R := fun _ _ => True) (A := arnd dp un gd (env :: outer)) B F N rfl hf hke
  have sub : ∀ b, b ∈ adr own → b ∈ adr news := fun b hb => by
    obtain ⟨q, hq, rfl⟩ := List.mem_map.mp hb
    exact List.mem_map_of_mem (hown q hq)
  refine wpAny_call (codeAny_mono (C (hideAll s.heap (adr news)) ⟨X.keeps st, T.keeps st, BG.stays, BG.frames, fun b o e => of_hideAll _ e⟩
    fun q hq => ⟨(N q (hown q hq)).1, hideAll_none _ (List.mem_map_of_mem (hown q hq))⟩) fun r s' h => ?_)
  obtain ⟨v, h', tk, news', rfl, rfl, hk, hn, hp⟩ := h
  have st2 : h₀.StaysIn (hideAll s.heap (adr own)) := fun b o e => hideAll_get _ (F.keep b o e) fun q => by
    obtain ⟨x, hx, rfl⟩ := List.mem_map.mp q
    rw [(N x (hown x hx)).2.2] at e; cases e
  obtain ⟨oL, es, ep, hL, hLd, hLk, hLf⟩ := F.ns
  have hLg : (hideAll s.heap (adr own)).get? L = some oL := hideAll_get _ hL fun q => by
    obtain ⟨x, hx, e⟩ := List.mem_map.mp q
    exact (N x (hown x hx)).2.1 e
  refine ret v h' tk news' ⟨⟨oL, es, ep, hk _ _ hLg, hLd, hLk, hLf⟩, fun b o e => hk b o (st2 b o e), F.above⟩ (fun q hq hq' => hk _ _ (hideAll_get _ (N q hq).1 hq')) (fun q hq => ⟨(hn q hq).1, fun e => ?_, ?_⟩) (fun q hq x hx hx' e => ?_) hp
  · have h2 := (hn q hq).2
    rw [e, hLg] at h2; cases h2
  · cases e : h₀.get? q.1 with
    | none => rfl
    | some o => have h2 := (hn q hq).2; rw [st2 _ _ e] at h2; cases h2
  · have h2 := (hn q hq).2
    rw [← e, hideAll_get _ (N x hx).1 hx'] at h2; cases h2
theorem newsU {h₀ h h' : Heap} {L l : Addr} {o o' : Obj} {news : Led} {G : Obj → Led} (N : News h₀ L h news) (U : UpdF l o news G) (K' : ∀ q ∈ news, q.1 ∉ adr [(l, o)] → h'.get? q.1 = some q.2) (hl : h'.get? l = some o') : News h₀ L h' (G o') := by
  obtain ⟨pre, post, rfl, hG, h1, h2⟩ := U.split
  rw [hG]
  intro q hq
  rcases List.mem_append.mp hq with hq | hq
  · exact ⟨K' q (List.mem_append_left _ hq) (fun e => h1 q hq (by simpa using e)), (N q (List.mem_append_left _ hq)).2⟩
  · rcases List.mem_cons.mp hq with rfl | hq
    · exact ⟨hl, (N (l, o) (List.mem_append_right _ (.head _))).2⟩
    · exact ⟨K' q (List.mem_append_right _ (.tail _ hq)) (fun e => h2 q hq (by simpa using e)), (N q (List.mem_append_right _ (.tail _ hq))).2⟩
theorem updF_mem {l : Addr} {o : Obj} {news : Led} {G : Obj → Led} (U : UpdF l o news G) : ∀ q ∈ [(l, o)], q ∈ news := fun q hq => by
  obtain ⟨pre, post, rfl, _, _, _⟩ := U.split
  rw [List.mem_singleton.mp hq]; simp
theorem ints_as {vs : List Value} {xs ys : List Int} (h : IntsAre vs xs) (e : xs = ys) : IntsAre vs ys := e ▸ h
end
abbrev PR : Program := PySem.Challenge.rw_qh0054_01.row.prog
end Mine
namespace Mine
local macro_rules | `(tactic| walk_at $s:str) => `(tactic| k_extra $s)
local macro_rules | `(tactic| k_room) => `(tactic| k_extra "k_room")

/-- what _siftdown(heap, 0, pos) makes of the list: x sinks from place p toward the root -/
noncomputable def sd (x : Int) (p : Nat) (xs : List Int) : List Int :=
  if h : p = 0 then xs.set 0 x
  else if x < xs.getD ((p - 1) / 2) 0 then sd x ((p - 1) / 2) (xs.set p (xs.getD ((p - 1) / 2) 0)) else xs.set p x
termination_by p
decreasing_by omega

theorem shr1 {prog : Program} {w : World} {A : Around} {E : Value → Shared → Prop} {s : Shared} {a : Int} {t u : Tok} {Q : Value → Shared → Prop} (h : Q (.int (a / 2) s.toks) { s with toks := s.toks + 1 }) :
    wpAny (model prog w) A (binaryOp .RShift (.int a t) (.int 1 u)) Q E s := by
  refine rshift_int (by decide) ?_
  rw [show (2 : Int) ^ (1 : Int).toNat = 2 from rfl, Int.fdiv_eq_ediv_of_nonneg _ (by decide)]
  exact h

theorem sd_length (x : Int) : ∀ (n p : Nat) (xs : List Int), p ≤ n → (sd x p xs).length = xs.length := by
  intro n
  induction n with
  | zero => intro p xs h; rw [sd, dif_pos (by omega), List.length_set]
  | succ n ih =>
    intro p xs h
    rw [sd]
    split
    · rw [List.length_set]
    · split
      · rw [ih _ _ (by omega), List.length_set]
      · rw [List.length_set]
theorem sd_len (x : Int) (p : Nat) (xs : List Int) : (sd x p xs).length = xs.length := sd_length x p p xs (Nat.le_refl _)
theorem sd_turn {x pos : Int} {xs r : List Int} {n : Nat} (h0 : 0 < pos) (h1 : pos < (xs.length : Int)) (h2 : xs.length = n) (hx : x < xs.getD ((pos - 1) / 2).toNat 0) (e : sd x pos.toNat xs = r) :
    0 ≤ (pos - 1) / 2 ∧ (pos - 1) / 2 < ((xs.set pos.toNat (xs.getD ((pos - 1) / 2).toNat 0)).length : Int) ∧ (xs.set pos.toNat (xs.getD ((pos - 1) / 2).toNat 0)).length = n ∧
      sd x ((pos - 1) / 2).toNat (xs.set pos.toNat (xs.getD ((pos - 1) / 2).toNat 0)) = r := by
  have hq : ((pos - 1) / 2).toNat = (pos.toNat - 1) / 2 := by omega
  refine ⟨by omega, by rw [List.length_set]; omega, by rw [List.length_set]; exact h2, ?_⟩
  rw [← e]
  conv => rhs; rw [sd]
  rw [dif_neg (by omega), ← hq, if_pos hx]
theorem sd_stop {x pos : Int} {xs r : List Int} (h0 : 0 < pos) (hx : ¬ x < xs.getD ((pos - 1) / 2).toNat 0) (e : sd x pos.toNat xs = r) : xs.set pos.toNat x = r := by
  have hq : ((pos - 1) / 2).toNat = (pos.toNat - 1) / 2 := by omega
  rw [← e, sd, dif_neg (by omega), ← hq, if_neg hx]
theorem sd_root {x pos : Int} {xs r : List Int} (h1 : 0 ≤ pos) (h0 : ¬ 0 < pos) (e : sd x pos.toNat xs = r) : xs.set pos.toNat x = r := by
  have hq : pos.toNat = 0 := by omega
  rw [← e, hq, sd, dif_pos rfl]

section
theorem siftdown {w : World} {p : Program} {loose : List Str} {mean : ExcName → Option Value} {mg mb : Str → Option Value} {dp un : Nat} {gd : Option (List Code)} {outer : List Env} {base h₀ : Heap} {s : Shared}
    {l : Addr} {vs : List Value} {xs : List Int} {n : Nat} {t0 t1 : Tok} {pos : Int} (hd1 : dp + 5 < recursionLimit)
    (H : Here (hd.heap_1 w.params) p loose mean mg mb base outer h₀ s.heap) (hown : ∀ q ∈ [(l, W.listOf vs.toArray n)], s.heap.get? q.1 = some q.2 ∧ h₀.get? q.1 = none)
    (hi : IntsAre vs xs) (hp0 : 0 ≤ pos) (hp1 : pos < (xs.length : Int)) (hsz : xs.length ≤ 1000) :
    codeAny (model PR w) (arnd dp un gd outer) (.call (.ref 63) ⟨[.ref l, .int 0 t0, .int pos t1], []⟩)
      (OutR s [(l, W.listOf vs.toArray n)] fun v news' => v = .none ∧ ∃ vs' n', news' = [(l, W.listOf vs'.toArray n')] ∧ IntsAre vs' (sd (xs.getD pos.toNat 0) pos.toNat xs)) s := by
  w_on; k_with_none; revert H; unfold PR; k_fill; intro H
  k_with "binaryOp RShift int int" => (k_here; (with_reducible refine shr1 ?_))
  k_with "OutB" => (refine outB (by assumption) (by assumption) ⟨rfl, _, _, rfl, ?_⟩; first | exact ints_as (by assumption) (sd_stop (by assumption) (by assumption) (by assumption)) | exact ints_as (by assumption) (sd_root (by assumption) (by assumption) (by assumption)))
  refine' enterK H hown ?k6 ?k7 ?k8 ?k9 ?kB ?_ ?c5 ?c2 ?c3 ?c4
  case k6 => k_is
  case k7 => k_is
  case k8 => omega
  case k9 => exact BindsTo.of_eq rfl
  case kB => exact locs rfl
  case c5 => decide
  case c2 => exact rfl
  case c3 => exact rfl
  case c4 => exact rfl
  intro g' L' h' gE F' N' B' X' T'
  clear gE
  (try dsimp only)
  (try k_fold)
  k_with "exec While Compare cons nil" => k_while_given ["newitem", "pos!", "heap!"] (fun x p0 h0 script pos heap => 0 ≤ pos ∧ pos < (heap.length : Int) ∧ heap.length = h0.length ∧ sd x pos.toNat heap = sd x p0.toNat h0) (fun x p0 h0 script pos heap => pos.toNat) "pos" "heap"
  k_with "state" => exact sd_turn (by assumption) (by assumption) (by assumption) (by assumption) (by assumption)
  k_steps
  all_goals w_report
end
theorem siftdown_use {w : World} {p : Program} {loose : List Str} {mean : ExcName → Option Value} {mg mb : Str → Option Value} {A₀ A : Around} {env : Env} {L : Addr} {m : Str → Option Value} {news : Led} {dp un : Nat} {gd : Option (List Code)} {outer : List Env} {base h₀ : Heap} {s : Shared} {Q E : Value → Shared → Prop}
    {l : Addr} {vs : List Value} {xs : List Int} {n : Nat} {t0 t1 : Tok} {pos : Int} {G : Obj → Led}
    (B : Below A₀ base outer h₀) (F : Fr h₀ L s.heap m) (X : (hd.heap_1 w.params).In h₀) (N : News h₀ L s.heap news) (T : Top p loose mean mg mb h₀) (hA : A = arnd dp un gd (env :: outer)) (hf : env.frame = some L) (hke : env.scope.kind = .function)
    (U : UpdF l (W.listOf vs.toArray n) news G) (hi : IntsAre vs xs) (hd1 : dp + 5 < recursionLimit) (hp0 : 0 ≤ pos) (hp1 : pos < (xs.length : Int)) (hsz : xs.length ≤ 1000)
    (ret : ∀ vs' n' h' tk', Fr h₀ L h' m → News h₀ L h' (G (W.listOf vs'.toArray n')) → IntsAre vs' (sd (xs.getD pos.toNat 0) pos.toNat xs) → (sd (xs.getD pos.toNat 0) pos.toNat xs).length = xs.length → Q .none { s with heap := h', toks := tk' }) :
    wpAny (model PR w) A (call (.ref 63) [.ref l, .int 0 t0, .int pos t1]) Q E s := by
  refine useO (own := [(l, W.listOf vs.toArray n)]) B F X N T hA hf hke (updF_mem U) (fun g H ho => siftdown hd1 H ho hi hp0 hp1 hsz) ?_
  rintro v h' tk news' F' K' N' ne ⟨rfl, vs', n', rfl, hi'⟩
  exact ret vs' n' h' tk F' (newsU N U K' (N' _ (List.mem_singleton.mpr rfl)).1) hi' (sd_len _ _ _)
end Mine
namespace Mine
local macro_rules | `(tactic| walk_at $s:str) => `(tactic| k_extra $s)
local macro_rules | `(tactic| k_room) => `(tactic| k_extra "k_room")

/-- the child that moves up -/
noncomputable def kid (p : Nat) (xs : List Int) : Nat := if 2 * p + 2 < xs.length ∧ ¬ xs.getD (2 * p + 1) 0 < xs.getD (2 * p + 2) 0 then 2 * p + 2 else 2 * p + 1
/-- what the loop of _siftup makes: the hole goes down to a leaf -/
noncomputable def su (p : Nat) (xs : List Int) : Nat × List Int :=
  if h : 2 * p + 1 < xs.length then su (kid p xs) (xs.set p (xs.getD (kid p xs) 0)) else (p, xs)
termination_by xs.length - p
decreasing_by simp only [List.length_set]; unfold kid; split <;> omega
noncomputable def sup (xs : List Int) : List Int := sd (xs.getD 0 0) (su 0 xs).1 ((su 0 xs).2.set (su 0 xs).1 (xs.getD 0 0))

theorem su_len : ∀ (n p : Nat) (xs : List Int), xs.length - p ≤ n → (su p xs).2.length = xs.length := by
  intro n
  induction n with
  | zero => intro p xs h; rw [su, dif_neg (by omega)]
  | succ n ih =>
    intro p xs h
    rw [su]
    split
    · rw [ih _ _ (by rw [List.length_set]; unfold kid; split <;> omega), List.length_set]
    · rfl
theorem sup_len (xs : List Int) : (sup xs).length = xs.length := by
  unfold sup
  rw [sd_len, List.length_set, su_len _ _ _ (Nat.le_refl _)]
theorem su_turn {pos c0 : Int} (c : Int) {xs : List Int} {r : Nat × List Int} {n : Nat} (h0 : 0 ≤ pos) (hc0 : c0 = 2 * pos + 1) (hlen : xs.length = n) (hlt : c0 < (n : Int)) (e : su pos.toNat xs = r) (hk : kid pos.toNat xs = c.toNat) (hc : 0 ≤ c) (hc2 : c < (n : Int)) :
    0 ≤ c ∧ c < ((xs.set pos.toNat (xs.getD c.toNat 0)).length : Int) ∧ 2 * c + 1 = 2 * c + 1 ∧ (xs.set pos.toNat (xs.getD c.toNat 0)).length = n ∧ su c.toNat (xs.set pos.toNat (xs.getD c.toNat 0)) = r := by
  refine ⟨hc, by rw [List.length_set]; omega, rfl, by rw [List.length_set]; exact hlen, ?_⟩
  rw [← e]
  conv => rhs; rw [su]
  rw [dif_pos (by omega), hk]
theorem su_a {pos c0 : Int} {xs : List Int} {r : Nat × List Int} {n : Nat} (h0 : 0 ≤ pos) (hc0 : c0 = 2 * pos + 1) (hlen : xs.length = n) (hlt : c0 < (n : Int)) (e : su pos.toNat xs = r) (hr : c0 + 1 < (n : Int)) (hl : ¬ xs.getD c0.toNat 0 < xs.getD (c0 + 1).toNat 0) :
    0 ≤ c0 + 1 ∧ c0 + 1 < ((xs.set pos.toNat (xs.getD (c0 + 1).toNat 0)).length : Int) ∧ 2 * (c0 + 1) + 1 = 2 * (c0 + 1) + 1 ∧ (xs.set pos.toNat (xs.getD (c0 + 1).toNat 0)).length = n ∧ su (c0 + 1).toNat (xs.set pos.toNat (xs.getD (c0 + 1).toNat 0)) = r := by
  have h1 : c0.toNat = 2 * pos.toNat + 1 := by omega
  have h2 : (c0 + 1).toNat = 2 * pos.toNat + 2 := by omega
  refine su_turn _ h0 hc0 hlen hlt e ?_ (by omega) hr
  rw [h1, h2] at hl
  unfold kid
  rw [if_pos ⟨by omega, hl⟩, h2]
theorem su_b {pos c0 : Int} {xs : List Int} {r : Nat × List Int} {n : Nat} (h0 : 0 ≤ pos) (hc0 : c0 = 2 * pos + 1) (hlen : xs.length = n) (hlt : c0 < (n : Int)) (e : su pos.toNat xs = r) (hl : xs.getD c0.toNat 0 < xs.getD (c0 + 1).toNat 0) :
    0 ≤ c0 ∧ c0 < ((xs.set pos.toNat (xs.getD c0.toNat 0)).length : Int) ∧ 2 * c0 + 1 = 2 * c0 + 1 ∧ (xs.set pos.toNat (xs.getD c0.toNat 0)).length = n ∧ su c0.toNat (xs.set pos.toNat (xs.getD c0.toNat 0)) = r := by
  have h1 : c0.toNat = 2 * pos.toNat + 1 := by omega
  have h2 : (c0 + 1).toNat = 2 * pos.toNat + 2 := by omega
  refine su_turn _ h0 hc0 hlen hlt e ?_ (by omega) hlt
  rw [h1, h2] at hl
  unfold kid
  rw [if_neg (fun q => q.2 hl), h1]
theorem su_c {pos c0 : Int} {xs : List Int} {r : Nat × List Int} {n : Nat} (h0 : 0 ≤ pos) (hc0 : c0 = 2 * pos + 1) (hlen : xs.length = n) (hlt : c0 < (n : Int)) (e : su pos.toNat xs = r) (hr : ¬ c0 + 1 < (n : Int)) :
    0 ≤ c0 ∧ c0 < ((xs.set pos.toNat (xs.getD c0.toNat 0)).length : Int) ∧ 2 * c0 + 1 = 2 * c0 + 1 ∧ (xs.set pos.toNat (xs.getD c0.toNat 0)).length = n ∧ su c0.toNat (xs.set pos.toNat (xs.getD c0.toNat 0)) = r := by
  have h1 : c0.toNat = 2 * pos.toNat + 1 := by omega
  refine su_turn _ h0 hc0 hlen hlt e ?_ (by omega) hlt
  unfold kid
  rw [if_neg (fun q => by omega), h1]
theorem su_0 {xs : List Int} (h : 0 < xs.length) : (0 : Int) ≤ 0 ∧ (0 : Int) < (xs.length : Int) ∧ (2 : Int) * 0 + 1 = 2 * 0 + 1 ∧ xs.length = xs.length ∧ su (Int.toNat 0) xs = su 0 xs := ⟨by omega, by omega, rfl, rfl, rfl⟩
theorem sup_end {pos c0 : Int} {xs hs : List Int} (h0 : 0 ≤ pos) (h1 : pos < (hs.length : Int)) (hc : c0 = 2 * pos + 1) (hn : ¬ c0 < (xs.length : Int)) (hlen : hs.length = xs.length) (e : su pos.toNat hs = su 0 xs) :
    sd ((hs.set pos.toNat (xs.getD (Int.toNat 0) 0)).getD pos.toNat 0) pos.toNat (hs.set pos.toNat (xs.getD (Int.toNat 0) 0)) = sup xs := by
  rw [su, dif_neg (by omega)] at e
  unfold sup
  rw [← e]
  have h2 : pos.toNat < hs.length := by omega
  simp [List.getD, h2]

section
theorem siftup {w : World} {p : Program} {loose : List Str} {mean : ExcName → Option Value} {mg mb : Str → Option Value} {dp un : Nat} {gd : Option (List Code)} {outer : List Env} {base h₀ : Heap} {s : Shared}
    {l : Addr} {vs : List Value} {xs : List Int} {n : Nat} {t0 : Tok} (hd1 : dp + 10 < recursionLimit)
    (H : Here (hd.heap_1 w.params) p loose mean mg mb base outer h₀ s.heap) (hown : ∀ q ∈ [(l, W.listOf vs.toArray n)], s.heap.get? q.1 = some q.2 ∧ h₀.get? q.1 = none)
    (hi : IntsAre vs xs) (hp1 : 0 < xs.length) (hsz : xs.length ≤ 1000) :
    codeAny (model PR w) (arnd dp un gd outer) (.call (.ref 70) ⟨[.ref l, .int 0 t0], []⟩)
      (OutR s [(l, W.listOf vs.toArray n)] fun v news' => v = .none ∧ ∃ vs' n', news' = [(l, W.listOf vs'.toArray n')] ∧ IntsAre vs' (sup xs)) s := by
  w_on; k_with_none; revert H; unfold PR; k_fill; intro H
  k_with "OutB" => (refine outB (by assumption) (by assumption) ⟨rfl, _, _, rfl, ?_⟩; exact ints_as (by assumption) (sup_end (by assumption) (by assumption) (by assumption) (by assumption) (by assumption) (by assumption)))
  k_with "call ref" => (k_here; (with_reducible show wpAny _ _ (call (Value.ref 63) _) _ _ _); k_dflt (refine' siftdown_use ?zqk1 ?zqk2 ?zqk3 ?zqk4 ?zqk5 ?zqkA ?zqkF ?zqkK ?zqkU ?zqkI ?zqkd ?zqkp ?zqkq ?zqkz ?_; (case zqkA => exact rfl); (case zqkF => exact rfl); (case zqkK => exact rfl); (case zqk1 => k_asm); (case zqk2 => k_asm); (case zqk3 => k_asm); (case zqk4 => k_asm); (case zqk5 => k_asm); (case zqkU => k_updF); (case zqkI => l_ints); (case zqkd => ((try dsimp only); omega)); (case zqkp => omega); (case zqkq => ((try simp only [List.length_set]); omega)); (case zqkz => ((try simp only [List.length_set]); omega)); k_whole); intro vs' n' h' tk' F' N' hI' hN'; (try dsimp only at N'); (try k_sweep))
  refine' enterK H hown ?k6 ?k7 ?k8 ?k9 ?kB ?_ ?c5 ?c2 ?c3 ?c4
  case k6 => k_is
  case k7 => k_is
  case k8 => omega
  case k9 => exact BindsTo.of_eq rfl
  case kB => exact locs rfl
  case c5 => decide
  case c2 => exact rfl
  case c3 => exact rfl
  case c4 => exact rfl
  intro g' L' h' gE F' N' B' X' T'
  clear gE
  (try dsimp only)
  (try k_fold)
  k_with "exec While Compare cons nil" => k_while_given ["heap!"] (fun h0 script pos childpos heap => 0 ≤ pos ∧ pos < (heap.length : Int) ∧ childpos = 2 * pos + 1 ∧ heap.length = h0.length ∧ su pos.toNat heap = su 0 h0) (fun h0 script pos childpos heap => heap.length - pos.toNat) "pos" "childpos" "heap"
  k_with "state" => first | exact su_0 (by assumption) | exact su_a (by assumption) (by assumption) (by assumption) (by assumption) (by assumption) (by assumption) (by assumption) | exact su_b (by assumption) (by assumption) (by assumption) (by assumption) (by assumption) (by assumption) | exact su_c (by assumption) (by assumption) (by assumption) (by assumption) (by assumption) (by assumption)
  k_steps
  all_goals (refine outB (by assumption) (by assumption) ⟨rfl, _, _, rfl, ?_⟩; exact ints_as (by assumption) (sup_end (by assumption) (by assumption) (by assumption) (by assumption) (by assumption) (by assumption)))
end
theorem siftup_use {w : World} {p : Program} {loose : List Str} {mean : ExcName → Option Value} {mg mb : Str → Option Value} {A₀ A : Around} {env : Env} {L : Addr} {m : Str → Option Value} {news : Led} {dp un : Nat} {gd : Option (List Code)} {outer : List Env} {base h₀ : Heap} {s : Shared} {Q E : Value → Shared → Prop}
    {l : Addr} {vs : List Value} {xs : List Int} {n : Nat} {t0 : Tok} {G : Obj → Led}
    (B : Below A₀ base outer h₀) (F : Fr h₀ L s.heap m) (X : (hd.heap_1 w.params).In h₀) (N : News h₀ L s.heap news) (T : Top p loose mean mg mb h₀) (hA : A = arnd dp un gd (env :: outer)) (hf : env.frame = some L) (hke : env.scope.kind = .function)
    (U : UpdF l (W.listOf vs.toArray n) news G) (hi : IntsAre vs xs) (hd1 : dp + 10 < recursionLimit) (hp1 : 0 < xs.length) (hsz : xs.length ≤ 1000)
    (ret : ∀ vs' n' h' tk', Fr h₀ L h' m → News h₀ L h' (G (W.listOf vs'.toArray n')) → IntsAre vs' (sup xs) → (sup xs).length = xs.length → Q .none { s with heap := h', toks := tk' }) :
    wpAny (model PR w) A (call (.ref 70) [.ref l, .int 0 t0]) Q E s := by
  refine useO (own := [(l, W.listOf vs.toArray n)]) B F X N T hA hf hke (updF_mem U) (fun g H ho => siftup hd1 H ho hi hp1 hsz) ?_
  rintro v h' tk news' F' K' N' ne ⟨rfl, vs', n', rfl, hi'⟩
  exact ret vs' n' h' tk F' (newsU N U K' (N' _ (List.mem_singleton.mpr rfl)).1) hi' (sup_len _)
end Mine
namespace Mine
local macro_rules | `(tactic| walk_at $s:str) => `(tactic| k_extra $s)
local macro_rules | `(tactic| k_room) => `(tactic| k_extra "k_room")

noncomputable def push (h : List Int) (x : Int) : List Int := sd x h.length (h ++ [x])
/-- what heappop leaves -/
noncomputable def popr (h : List Int) : List Int := if h.length ≤ 1 then [] else sup (h.dropLast.set 0 (h.getLastD 0))
/-- the law's loop, by its number of turns -/
noncomputable def fall : Nat → List Int → List Int → List Int → List Int × List Int
  | 0, _, k, j => (k, j)
  | n + 1, h, k, j =>
    if 0 < (popr h).length ∧ (popr h).getD 0 0 = h.getD 0 0 then fall n (sup ((popr h).set 0 (h.getD 0 0 + 1))) k (j ++ [(popr h).getD 0 0])
    else fall n (popr h) (k ++ [h.getD 0 0]) j
noncomputable def heapUp (xs : List Int) : List Int := xs.foldl push []
noncomputable def fallen (xs : List Int) : List Int × List Int := fall xs.length (heapUp xs) [] []

theorem push_0 : ([] : List Int).length = ([] : List Int).length ∧ ([] : List Int) = List.foldl push [] [] := ⟨rfl, rfl⟩
theorem push_turn {hs pre : List Int} {k : Int} (h : hs.length = pre.length) (e : hs = pre.foldl push []) :
    (sd ((hs ++ [k]).getD (((hs.length + (0 + 1) : Nat) : Int) - 1).toNat 0) (((hs.length + (0 + 1) : Nat) : Int) - 1).toNat (hs ++ [k])).length = (pre ++ [k]).length ∧
      sd ((hs ++ [k]).getD (((hs.length + (0 + 1) : Nat) : Int) - 1).toNat 0) (((hs.length + (0 + 1) : Nat) : Int) - 1).toNat (hs ++ [k]) = List.foldl push [] (pre ++ [k]) := by
  have h1 : (((hs.length + (0 + 1) : Nat) : Int) - 1).toNat = hs.length := by omega
  refine ⟨by rw [sd_len, List.length_append, List.length_append, h], ?_⟩
  rw [List.foldl_append, ← e, h1]
  show _ = push hs k
  unfold push
  simp [List.getD]
theorem fall_0 {hs xs : List Int} (h : hs.length = xs.length) (e : hs = xs.foldl push []) : hs.length + ([] : List Int).length + ([] : List Int).length = xs.length ∧ fall hs.length hs [] [] = fallen xs := by
  refine ⟨h, ?_⟩
  unfold fallen heapUp
  rw [← e, h]
theorem dl0 {hs : List Int} (h : 0 < hs.length - 1) : hs.dropLast.getD 0 0 = hs.getD 0 0 := by
  match hs, h with
  | a :: b :: r, _ => rfl
theorem fall_join {hs k j xs : List Int} (hl : hs.length + k.length + j.length = xs.length) (e : fall hs.length hs k j = fallen xs) (h1 : 0 < hs.length - 1)
    (hq : (sup (hs.dropLast.set (Int.toNat 0) (hs.getLastD 0))).getD (Int.toNat 0) 0 = hs.dropLast.getD (Int.toNat 0) 0) :
    (sup ((sup (hs.dropLast.set (Int.toNat 0) (hs.getLastD 0))).set (Int.toNat 0) (hs.dropLast.getD (Int.toNat 0) 0 + 1))).length + k.length + (j ++ [(sup (hs.dropLast.set (Int.toNat 0) (hs.getLastD 0))).getD (Int.toNat 0) 0]).length = xs.length ∧
    fall (sup ((sup (hs.dropLast.set (Int.toNat 0) (hs.getLastD 0))).set (Int.toNat 0) (hs.dropLast.getD (Int.toNat 0) 0 + 1))).length (sup ((sup (hs.dropLast.set (Int.toNat 0) (hs.getLastD 0))).set (Int.toNat 0) (hs.dropLast.getD (Int.toNat 0) 0 + 1)))
      k (j ++ [(sup (hs.dropLast.set (Int.toNat 0) (hs.getLastD 0))).getD (Int.toNat 0) 0]) = fallen xs := by
  have hz : Int.toNat 0 = 0 := rfl
  rw [hz] at hq ⊢
  have hp : popr hs = sup (hs.dropLast.set 0 (hs.getLastD 0)) := by unfold popr; rw [if_neg (by omega)]
  have hpl : (popr hs).length = hs.length - 1 := by rw [hp, sup_len, List.length_set, List.length_dropLast]
  rw [← hp] at hq ⊢
  rw [dl0 h1] at hq ⊢
  have hn : hs.length = (hs.length - 1) + 1 := by omega
  refine ⟨by rw [sup_len, List.length_set, hpl, List.length_append, List.length_singleton]; omega, ?_⟩
  rw [sup_len, List.length_set, hpl, ← e, hn]
  show _ = if _ then _ else _
  rw [if_pos ⟨by omega, hq⟩]
  rfl
theorem fall_keep {hs k j xs : List Int} (hl : hs.length + k.length + j.length = xs.length) (e : fall hs.length hs k j = fallen xs) (h1 : 0 < hs.length - 1)
    (hq : ¬ (sup (hs.dropLast.set (Int.toNat 0) (hs.getLastD 0))).getD (Int.toNat 0) 0 = hs.dropLast.getD (Int.toNat 0) 0) :
    (sup (hs.dropLast.set (Int.toNat 0) (hs.getLastD 0))).length + (k ++ [hs.dropLast.getD (Int.toNat 0) 0]).length + j.length = xs.length ∧
    fall (sup (hs.dropLast.set (Int.toNat 0) (hs.getLastD 0))).length (sup (hs.dropLast.set (Int.toNat 0) (hs.getLastD 0))) (k ++ [hs.dropLast.getD (Int.toNat 0) 0]) j = fallen xs := by
  have hz : Int.toNat 0 = 0 := rfl
  rw [hz] at hq ⊢
  have hp : popr hs = sup (hs.dropLast.set 0 (hs.getLastD 0)) := by unfold popr; rw [if_neg (by omega)]
  have hpl : (popr hs).length = hs.length - 1 := by rw [hp, sup_len, List.length_set, List.length_dropLast]
  rw [← hp] at hq ⊢
  rw [dl0 h1] at hq ⊢
  have hn : hs.length = (hs.length - 1) + 1 := by omega
  refine ⟨by rw [hpl, List.length_append, List.length_singleton]; omega, ?_⟩
  rw [hpl, ← e, hn]
  show _ = if _ then _ else _
  rw [if_neg (fun q => hq q.2)]
  rfl
theorem fall_last {hs k j xs : List Int} (hl : hs.length + k.length + j.length = xs.length) (e : fall hs.length hs k j = fallen xs) (h0 : 0 < hs.length) (h1 : ¬ 0 < hs.length - 1) :
    hs.dropLast.length + (k ++ [hs.getLastD 0]).length + j.length = xs.length ∧ fall hs.dropLast.length hs.dropLast (k ++ [hs.getLastD 0]) j = fallen xs := by
  match hs, h0, h1 with
  | [a], _, _ => exact ⟨by simp at hl ⊢; omega, by rw [← e]; rfl⟩
  | a :: b :: r, _, h1 => exact absurd (by simp) h1
theorem fall_end {hs k j xs : List Int} (e : fall hs.length hs k j = fallen xs) (h : ¬ 0 < hs.length) : k = (fallen xs).1 ∧ j = (fallen xs).2 := by
  have h0 : hs.length = 0 := by omega
  rw [h0] at e
  rw [← e]
  exact ⟨rfl, rfl⟩
theorem updF_upd {d : Addr} {o o' : Obj} : ∀ {l : Led} {G : Obj → Led}, UpdF d o l G → Upd d o o' l (G o')
  | _, _, .head h => .head h
  | _, _, .tail h r => .tail h (updF_upd r)
theorem ints_snoc {vs : List Value} {xs : List Int} {k : Int} {t : Tok} (h : IntsAre vs xs) : IntsAre (vs ++ [.int k t]) (xs ++ [k]) := by
  induction h with
  | nil => exact .cons _ _ .nil
  | cons _ _ _ ih => exact .cons _ _ ih
section
variable {prog : Program} {w : World} {A : Around} {E : Value → Shared → Prop} {s : Shared} {h₀ : Heap} {L D : Addr} {m : Str → Option Value} {news : Led} {vs : List Value} {xs : List Int} {k : Int} {t : Tok} {n : Nat} {G : Obj → Led} {Q : Value → Shared → Prop}
theorem append_ints (F : Fr h₀ L s.heap m) (N : News h₀ L s.heap news) (U : UpdF D (W.listOf vs.toArray n) news G) (hi : IntsAre vs xs) (hsz : xs.length ≤ 10000)
    (h : ∀ h', Fr h₀ L h' m → News h₀ L h' (G (W.listOf (vs ++ [Value.int k t]).toArray (n + 1))) → IntsAre (vs ++ [.int k t]) (xs ++ [k]) → Q .none { s with heap := h' }) :
    wpAny (model prog w) A (call (.builtin "list.append") [.ref D, .int k t]) Q E s := by
  refine append_K F N (updF_upd U) (fun h' F' N' => ?_) (by rw [List.size_toArray, hi.length, sizeLine_eq]; omega)
  rw [List.push_toArray] at N'
  exact h h' F' N' (ints_snoc hi)
end
section
theorem fallen_c {w : World} {p : Program} {loose : List Str} {mean : ExcName → Option Value} {mg mb : Str → Option Value} {dp un : Nat} {gd : Option (List Code)} {outer : List Env} {base h₀ : Heap} {s : Shared}
    {l : Addr} {vs : List Value} {xs : List Int} (hd1 : dp + 20 < recursionLimit)
    (H : Here (hd.heap_1 w.params) p loose mean mg mb base outer h₀ s.heap) (hown : ∀ q ∈ ([] : Led), s.heap.get? q.1 = some q.2 ∧ h₀.get? q.1 = none)
    (hl : s.heap.IsList l vs.toArray) (hi : IntsAre vs xs) (hsz : xs.length ≤ 100) :
    codeAny (model PR w) (arnd dp un gd outer) (.call (.ref 158) ⟨[.ref l], []⟩)
      (OutR s [] fun v news' => ∃ a b c vs1 n1 vs2 n2 nt, v = .ref a ∧ (a, ({ cls := .type "tuple", data := .seq #[.ref b, .ref c] nt } : Obj)) ∈ news' ∧ (b, W.listOf (List.toArray vs1) n1) ∈ news' ∧ (c, W.listOf (List.toArray vs2) n2) ∈ news' ∧
        IntsAre vs1 (fallen xs).1 ∧ IntsAre vs2 (fallen xs).2 ∧ a ≠ b ∧ a ≠ c ∧ b ≠ c) s := by
  w_on; k_with_none; revert H; unfold PR; k_fill; intro H
  k_with "k_room" => ((try simp only [depth_under_make, depth_under_kw, depth_in1, depth_deeper, depth_caller]); (try dsimp only); omega)
  k_with "call builtin:list.append" => (k_here; (show wpAny _ _ (call (Value.builtin _) [Value.ref _, Value.int _ _]) _ _ _); k_dflt (refine' append_ints ?zqk1 ?zqk2 ?zqkU ?zqkI ?zqz ?_; (case zqk1 => k_asm); (case zqk2 => k_asm); (case zqkU => k_updF); (case zqkI => l_ints); (case zqz => omega); k_whole); intro h' F' N' hI'; (try dsimp only at N'); (try k_sweep))
  k_with "truthy ref" => (k_here; (with_reducible show wpAny _ _ (truthy (Value.ref _)) _ _ _); k_dflt (refine' truthy_ints_fit ?zqk1 ?zqk2 ?zqk3 ?_; (case zqk1 => exact News.isList (by k_asm) (by k_mem)); (case zqk2 => l_ints); (case zqk3 => ((try simp only [List.length_set, List.length_dropLast, List.length_append, List.length_cons, List.length_nil]); omega)); k_whole); (try simp only [List.length_set, List.length_dropLast, List.length_append, List.length_cons, List.length_nil]))
  k_with "call builtin:len" => (k_here; (with_reducible show wpAny _ _ (call (Value.builtin "len") [Value.ref _]) _ _ _); k_dflt (refine' len_ints_fit ?zqk1 ?zqk2 ?zqk3 ?_; (case zqk1 => exact News.isList (by k_asm) (by k_mem)); (case zqk2 => l_ints); (case zqk3 => ((try simp only [List.length_set, List.length_dropLast, List.length_append, List.length_cons, List.length_nil]); omega)); k_whole); (try simp only [List.length_set, List.length_dropLast, List.length_append, List.length_cons, List.length_nil]))
  k_with "setItem ref int" => (k_here; (with_reducible show wpAny _ _ (setItem (Value.ref _) (Value.int _ _) (Value.int _ _)) _ _ _); k_dflt (refine' ksa_set ?zqk1 ?zqk2 ?zqk3 ?zqk4 ?zqk5 ?zqk6 ?zqk7 ?_; (case zqk1 => k_asm); (case zqk2 => k_asm); (case zqk3 => k_upd); (case zqk4 => l_ints); (case zqk5 => omega); (case zqk6 => ((try simp only [List.length_set, List.length_dropLast, List.length_append, List.length_cons, List.length_nil]); omega)); (case zqk7 => omega); k_whole); intro h' F' N' hi' hl' hs'; clear hl' hs'; (try k_sweep))
  k_with "getItem ref int" => (k_here; (with_reducible show wpAny _ _ (getItem (Value.ref _) (Value.int _ _)) _ _ _); k_dflt (refine' ksa_get ?zqk1 ?zqk2 ?zqk3 ?zqk4 ?zqk5 ?zqk6 ?_; (case zqk1 => k_asm); (case zqk2 => k_mem); (case zqk3 => l_ints); (case zqk4 => omega); (case zqk5 => ((try simp only [List.length_set, List.length_dropLast, List.length_append, List.length_cons, List.length_nil]); omega)); (case zqk6 => omega); k_whole); intro _)
  k_with "subscriptTail" => (k_here; (with_reducible show wpAny _ _ (subscriptTail _ _ (Value.ref _) (Value.int _ _)) _ _ _); k_dflt (refine' ksa_sub ?zqk1 ?zqk2 ?zqk3 ?zqk4 ?zqk5 ?zqk6 ?_ ?zqk7; (case zqk1 => k_asm); (case zqk2 => k_mem); (case zqk3 => l_ints); (case zqk4 => omega); (case zqk5 => ((try simp only [List.length_set, List.length_dropLast, List.length_append, List.length_cons, List.length_nil]); omega)); (case zqk6 => omega); (case zqk7 => with_unfolding_all rfl); k_whole); intro _)
  k_with "call ref" => (k_here; (with_reducible show wpAny _ _ (call (Value.ref 63) _) _ _ _); k_dflt (refine' siftdown_use ?zqk1 ?zqk2 ?zqk3 ?zqk4 ?zqk5 ?zqkA ?zqkF ?zqkK ?zqkU ?zqkI ?zqkd ?zqkp ?zqkq ?zqkz ?_; (case zqkA => exact rfl); (case zqkF => exact rfl); (case zqkK => exact rfl); (case zqk1 => k_asm); (case zqk2 => k_asm); (case zqk3 => k_asm); (case zqk4 => k_asm); (case zqk5 => k_asm); (case zqkU => k_updF); (case zqkI => l_ints); (case zqkd => k_room); (case zqkp => omega); (case zqkq => ((try simp only [List.length_set, List.length_append, List.length_cons, List.length_nil]); omega)); (case zqkz => ((try simp only [List.length_set, List.length_append, List.length_cons, List.length_nil]); omega)); k_whole); intro vs' n' h' tk' F' N' hI' hN'; (try simp only [List.length_set, List.length_dropLast, List.length_append, List.length_cons, List.length_nil] at hN'); (try dsimp only at N'); (try k_sweep))
  k_with "call ref" => (k_here; (with_reducible show wpAny _ _ (call (Value.ref 70) _) _ _ _); k_dflt (refine' siftup_use ?zqk1 ?zqk2 ?zqk3 ?zqk4 ?zqk5 ?zqkA ?zqkF ?zqkK ?zqkU ?zqkI ?zqkd ?zqkq ?zqkz ?_; (case zqkA => exact rfl); (case zqkF => exact rfl); (case zqkK => exact rfl); (case zqk1 => k_asm); (case zqk2 => k_asm); (case zqk3 => k_asm); (case zqk4 => k_asm); (case zqk5 => k_asm); (case zqkU => k_updF); (case zqkI => l_ints); (case zqkd => k_room); (case zqkq => ((try simp only [List.length_set, List.length_dropLast, List.length_append, List.length_cons, List.length_nil]); omega)); (case zqkz => ((try simp only [List.length_set, List.length_dropLast, List.length_append, List.length_cons, List.length_nil]); omega)); k_whole); intro vs' n' h' tk' F' N' hI' hN'; (try simp only [List.length_set, List.length_dropLast, List.length_append, List.length_cons, List.length_nil] at hN'); (try dsimp only at N'); (try k_sweep))
  k_with "OutB" => (refine outB (by assumption) (by assumption) ?_; refine' ⟨_, _, _, _, _, _, _, _, rfl, ?zqx1, ?zqx2, ?zqx3, ?zqx4, ?zqx5, ?zqx6, ?zqx7, ?zqx8⟩; (case zqx1 => k_mem); (case zqx2 => k_mem); (case zqx3 => k_mem); (case zqx4 => exact ints_as (by assumption) (fall_end (by assumption) (by assumption)).1); (case zqx5 => exact ints_as (by assumption) (fall_end (by assumption) (by assumption)).2); (case zqx6 => k_ne); (case zqx7 => k_ne); (case zqx8 => k_ne))
  refine' enterK H hown ?k6 ?k7 ?k8 ?k9 ?kB ?_ ?c5 ?c2 ?c3 ?c4
  case k6 => k_is
  case k7 => k_is
  case k8 => omega
  case k9 => exact BindsTo.of_eq rfl
  case kB => exact locs rfl
  case c5 => decide
  case c2 => exact rfl
  case c3 => exact rfl
  case c4 => exact rfl
  intro g' L' h' gE F' N' B' X' T'
  have hl' : g'.IsList l vs.toArray := by rw [gE]; exact hl
  clear gE
  (try dsimp only)
  (try k_fold)
  k_with "pyIter ref" => k_state (fun pre heap => heap.length = pre.length ∧ heap = pre.foldl push []) "heap"
  k_with "exec While Name cons nil" => k_while (fun script heap kept joined => heap.length + kept.length + joined.length = script.length ∧ fall heap.length heap kept joined = fallen script) (fun script heap kept joined => heap.length) "heap" "kept" "joined"
  k_with "state" => first | exact push_0 | exact push_turn (by assumption) (by assumption) | exact fall_0 (by assumption) (by assumption) | exact fall_join (by assumption) (by assumption) (by assumption) (by assumption) | exact fall_keep (by assumption) (by assumption) (by assumption) (by assumption) | exact fall_last (by assumption) (by assumption) (by assumption) (by assumption)
  k_with "measure" => ((try simp only [List.length_set, List.length_dropLast]); omega)
  k_steps
  all_goals (try dsimp only)
  k_steps
  all_goals w_report
end
end Mine
namespace Mine
local macro_rules | `(tactic| walk_at $s:str) => `(tactic| k_extra $s)
local macro_rules | `(tactic| k_room) => `(tactic| k_extra "k_room")

/-- the number whose digits (width n, the least first) are xs -/
noncomputable def dval (n : Nat) : List Int → Int
  | [] => 0
  | x :: r => x + 2 ^ n * dval n r
theorem dval_app (n : Nat) (a b : List Int) : dval n (a ++ b) = dval n a + 2 ^ (n * a.length) * dval n b := by
  induction a with
  | nil => simp [dval]
  | cons x r ih =>
    rw [List.cons_append, dval, dval, ih, List.length_cons, Nat.mul_add, Nat.mul_one, Int.pow_add, Int.mul_add, ← Int.mul_assoc]
    rw [Int.mul_comm ((2 : Int) ^ (n * r.length)) (2 ^ n)]
    omega
noncomputable def dv (nn : Int) (xs : List Int) (L R : Int) : Int := dval nn.toNat ((xs.drop L.toNat).take (R - L).toNat)
theorem dv_one {nn : Int} {xs : List Int} {L R : Int} (h0 : 0 ≤ L) (h1 : R ≤ (xs.length : Int)) (e : L + 1 = R) : xs.getD L.toNat 0 = dv nn xs L R := by
  have h2 : (R - L).toNat = 1 := by omega
  have h3 : L.toNat < xs.length := by omega
  unfold dv
  rw [h2, List.drop_eq_getElem_cons h3, List.take_succ_cons, List.take_zero, dval, dval, Int.mul_zero, Int.add_zero]
  simp [h3]
theorem dv_two {nn : Int} {xs : List Int} {L R : Int} (h0 : 0 ≤ L) (h1 : R ≤ (xs.length : Int)) (h2 : L < R) (hn : 0 ≤ nn) :
    dv nn xs ((L + R) / 2) R * 2 ^ (((L + R) / 2 - L) * nn).toNat + dv nn xs L ((L + R) / 2) = dv nn xs L R := by
  have hm0 : L ≤ (L + R) / 2 := by omega
  have hm1 : (L + R) / 2 ≤ R := by omega
  generalize (L + R) / 2 = m at *
  unfold dv
  have e : (xs.drop L.toNat).take (R - L).toNat = (xs.drop L.toNat).take (m - L).toNat ++ (xs.drop m.toNat).take (R - m).toNat := by
    have h3 : (R - L).toNat = (m - L).toNat + (R - m).toNat := by omega
    have h4 : m.toNat = L.toNat + (m - L).toNat := by omega
    rw [h3, List.take_add, List.drop_drop, h4]
  have h5 : ((xs.drop L.toNat).take (m - L).toNat).length = (m - L).toNat := by
    rw [List.length_take, List.length_drop]; omega
  have h6 : ((m - L) * nn).toNat = nn.toNat * (m - L).toNat := by
    obtain ⟨a, ha⟩ := Int.eq_ofNat_of_zero_le (show 0 ≤ m - L by omega)
    obtain ⟨b, hb⟩ := Int.eq_ofNat_of_zero_le hn
    rw [ha, hb, Int.toNat_natCast, Int.toNat_natCast, ← Int.natCast_mul, Int.toNat_natCast, Nat.mul_comm]
  rw [e, dval_app, h5, h6, Int.mul_comm ((2 : Int) ^ _)]
  omega
theorem int_eq {a b : Int} {t : Tok} (h : a = b) : Value.int a t = Value.int b t := by rw [h]
theorem lookup_eq {K : Frag} {a : Addr} {o o' : Obj} {P : Prop} (h1 : K.lookup a = some o) (h2 : K.lookup a = some o') (k : o = o' → P) : P := k (Option.some.inj (h1.symm.trans h2))
section
variable {prog : Program} {w : World} {A : Around} {E : Value → Shared → Prop} {s : Shared} {a b : Int} {t u : Tok} {Q : Value → Shared → Prop}
theorem mulS (ha : 0 ≤ a) (ha2 : a ≤ 100) (hb : 0 ≤ b) (hb2 : b ≤ 8) (h : 0 ≤ a * b → a * b ≤ 800 → Q (.int (a * b) s.toks) { s with toks := s.toks + 1 }) : wpAny (model prog w) A (binaryOp .Mult (.int a t) (.int b u)) Q E s := by
  refine mul_int (h (Int.mul_nonneg ha hb) ?_) (IntMulOk.of_right ?_)
  · calc a * b ≤ 100 * 8 := Int.mul_le_mul ha2 hb2 hb (by decide)
      _ = 800 := rfl
  · exact intBits_le_64 (by omega) (by omega)
theorem shlS (hb : 0 ≤ b) (hb2 : b ≤ 800) (ha : a.natAbs < 2 ^ 64) (h : Q (.int (a * 2 ^ b.toNat) s.toks) { s with toks := s.toks + 1 }) : wpAny (model prog w) A (binaryOp .LShift (.int a t) (.int b u)) Q E s :=
  lshift_int_small hb (by omega) ha h
end

/-- the told call of a closure that reads: own is handed back as it was -/
noncomputable def D2I (w : World) (p : Program) (loose : List Str) (mean : ExcName → Option Value) (mg mb : Str → Option Value) (f : Addr) (own : Led) (nn : Int) (xs : List Int) (N : Nat) : Prop :=
  ∀ (dp un : Nat) (gd : Option (List Code)) (outer : List Env) (base h₀ : Heap) (s : Shared) (L R : Int) (tL tR : Tok), dp + N + 5 < recursionLimit → Here (hd.heap_1 w.params) p loose mean mg mb base outer h₀ s.heap →
    (∀ q ∈ own, s.heap.get? q.1 = some q.2 ∧ h₀.get? q.1 = none) → 0 ≤ L → L < R → R ≤ (xs.length : Int) → (R - L).toNat ≤ N →
    codeAny (model PR w) (arnd dp un gd outer) (.call (.ref f) ⟨[.int L tL, .int R tR], []⟩) (OutR s own fun v news' => (∃ t, v = .int (dv nn xs L R) t) ∧ news' = own) s

theorem news_back {h₀ h h' : Heap} {L : Addr} {own news : Led} (N : News h₀ L h news) (ho : ∀ q ∈ own, q ∈ news) (K' : ∀ q ∈ news, q.1 ∉ adr own → h'.get? q.1 = some q.2) (hl : News h₀ L h' own) : News h₀ L h' news := by
  intro q hq
  by_cases e : q.1 ∈ adr own
  · obtain ⟨x, hx, ex⟩ := List.mem_map.mp e
    have h1 := (N x (ho x hx)).1
    rw [ex, (N q hq).1] at h1
    have h2 : q = x := Prod.ext ex.symm (Option.some.inj h1)
    exact h2 ▸ hl x hx
  · exact ⟨K' q hq e, (N q hq).2⟩

theorem d2i_use {w : World} {p : Program} {loose : List Str} {mean : ExcName → Option Value} {mg mb : Str → Option Value} {A₀ A : Around} {env : Env} {Lf : Addr} {m : Str → Option Value} {news : Led} {dp un : Nat} {gd : Option (List Code)} {outer : List Env} {base h₀ : Heap} {s : Shared} {Q E : Value → Shared → Prop}
    {f : Addr} {own : Led} {nn : Int} {xs : List Int} {N : Nat} {L R : Int} {tL tR : Tok} (C : D2I w p loose mean mg mb f own nn xs N)
    (B : Below A₀ base outer h₀) (F : Fr h₀ Lf s.heap m) (X : (hd.heap_1 w.params).In h₀) (NN : News h₀ Lf s.heap news) (T : Top p loose mean mg mb h₀) (hA : A = arnd dp un gd (env :: outer)) (hf : env.frame = some Lf) (hke : env.scope.kind = .function)
    (ho : ∀ q ∈ own, q ∈ news) (hd1 : dp + N + 5 < recursionLimit) (h0 : 0 ≤ L) (h1 : L < R) (h2 : R ≤ (xs.length : Int)) (h3 : (R - L).toNat ≤ N) (hb : ∀ i k, (dval nn.toNat ((xs.drop i).take k)).natAbs < 2 ^ 64)
    (ret : ∀ t h' tk', Fr h₀ Lf h' m → News h₀ Lf h' news → (dv nn xs L R).natAbs < 2 ^ 64 → Q (.int (dv nn xs L R) t) { s with heap := h', toks := tk' }) :
    wpAny (model PR w) A (call (.ref f) [.int L tL, .int R tR]) Q E s := by
  refine useO (own := own) B F X NN T hA hf hke ho (fun g H hw => C _ _ _ _ _ _ _ _ _ _ _ hd1 H hw h0 h1 h2 h3) ?_
  rintro v h' tk news' F' K' N' ne ⟨⟨t, rfl⟩, rfl⟩
  exact ret t h' tk F' (news_back NN ho K' N') (hb _ _)

section
theorem d2i_inner {w : World} {p : Program} {loose : List Str} {mean : ExcName → Option Value} {mg mb : Str → Option Value} {f c ci cn cd D : Addr} {oc oi on od : Obj} {vs : List Value} {xs : List Int} {nn : Int} {tn : Tok} {nD : Nat} {cvs : Array Value} {tq : Tok}
    {iname qual ibind : Str} {iparams : Arguments} {ibody rest : List Stmt} {iscope : Scope} {ipos : Pos} {doc pm ctv : Value} {oc0 : Value} {od0 : Option Addr} {nm ql : Str} {ps : Arguments} {sc : Scope} {dV kV doc0 pm0 cdv ct : Value} {an : Option Addr} {osl : Array (Option Value)}
    (hK : (hd.heap_1 w.params).lookup 35 = some ⟨oc0, od0, .func (fnOf nm ql ps (.FunctionDef iname iparams ibody [] none [] iscope none ibind ipos :: rest) sc dV kV doc0 pm0 an cdv ct), osl⟩)
    (hc1 : oc.data = .fields cvs) (hc2 : cvs[1]? = some (.str qual tq)) (hoi : oi.data = .cell (some (.ref f))) (hon : on.data = .cell (some (.int nn tn))) (hod : od.data = .cell (some (.ref D)))
    (hi : IntsAre vs xs) (hsz : xs.length ≤ 100) (hn0 : 0 ≤ nn) (hn1 : nn ≤ 8) (hb : ∀ i k, (dval nn.toNat ((xs.drop i).take k)).natAbs < 2 ^ 64) (N : Nat) :
    D2I w p loose mean mg mb f [(f, fnMade iname qual iparams ibody iscope [("n", cn), ("inner", ci), ("digits", cd)] doc pm c ctv), (c, oc), (ci, oi), (cn, on), (cd, od), (D, W.listOf vs.toArray nD)] nn xs N := by
  w_on; k_with_none; unfold D2I PR; revert hK; k_fill; intro hK
  k_with "k_room" => ((try simp only [depth_under_make, depth_under_kw, depth_in1, depth_deeper, depth_caller]); (try dsimp only); omega)
  k_with "binaryOp RShift int int" => (k_here; (with_reducible refine shr1 ?_))
  k_with "binaryOp LShift int int" => (k_here; (with_reducible refine shlS ?zqa ?zqb ?zqc ?_); (case zqa => omega); (case zqb => omega); (case zqc => assumption))
  k_with "binaryOp Mult int int" => (k_here; (with_reducible refine mulS ?zqa ?zqb ?zqc ?zqd ?_); (case zqa => omega); (case zqb => omega); (case zqc => omega); (case zqd => omega); intro hP0 hP1)
  k_with "subscriptTail" => (k_here; (with_reducible show wpAny _ _ (subscriptTail _ _ (Value.ref _) (Value.int _ _)) _ _ _); k_dflt (refine' ksa_sub ?zqk1 ?zqk2 ?zqk3 ?zqk4 ?zqk5 ?zqk6 ?_ ?zqk7; (case zqk1 => k_asm); (case zqk2 => k_mem); (case zqk3 => l_ints); (case zqk4 => omega); (case zqk5 => omega); (case zqk6 => omega); (case zqk7 => with_unfolding_all rfl); k_whole); intro _)
  k_with "call ref" => (k_here; k_dflt (refine' d2i_use ?zqkC ?zqk1 ?zqk2 ?zqk3 ?zqk4 ?zqk5 ?zqkA ?zqkF ?zqkK ?zqkO ?zqkd ?zqkp ?zqkq ?zqkr ?zqks ?zqkb ?_; (case zqkC => assumption); (case zqkA => exact rfl); (case zqkF => exact rfl); (case zqkK => exact rfl); (case zqk1 => k_asm); (case zqk2 => k_asm); (case zqk3 => k_asm); (case zqk4 => k_asm); (case zqk5 => k_asm); (case zqkO => exact fun _ h => h); (case zqkd => k_room); (case zqkp => omega); (case zqkq => omega); (case zqkr => omega); (case zqks => omega); (case zqkb => assumption); k_whole); intro t' h' tk' F' N' hB'; (try k_sweep))
  refine' lookup_eq ?k1 hK ?_
  case k1 => k_is
  intro e
  cases e
  clear hK
  induction N with
  | zero => intro dp un gd outer base h₀ s L R tL tR _ _ _ _ _ _ _; omega
  | succ N ih =>
    have IH : D2I _ _ _ _ _ _ _ _ _ _ _ := ih
    clear ih
    intro dp un gd outer base h₀ s L R tL tR hd1 H hown h0 h1 h2 h3
    refine' enterO H hown (hown _ (List.Mem.head _)).1 ?k6 ?k7 ?k8 ?k9 ?kB ?_ ?c5 ?c2 ?c3 ?c4
    case k6 => exact rfl
    case k7 => exact ⟨_, _, _, _, rfl, (hown _ (.tail _ (.head _))).1, hc1, hc2⟩
    case k8 => omega
    case k9 => exact BindsTo.of_eq rfl
    case kB => exact locs rfl
    case c5 => decide
    case c2 => exact rfl
    case c3 => exact rfl
    case c4 => exact rfl
    intro g' L' h' gE F' N' B' X' T'
    clear gE
    have codeHd : CodeHd g' 34 30 := codeHd_of_K X' (by kernel_rfl)
    (try dsimp only)
    (try k_fold)
    k_steps
    all_goals (refine outB (by assumption) (by assumption) ?_)
    · exact ⟨⟨_, int_eq (dv_one (by assumption) (by assumption) (by assumption))⟩, rfl⟩
    · exact ⟨⟨_, int_eq (dv_two (by assumption) (by assumption) (by assumption) (by assumption))⟩, rfl⟩
end
end Mine
namespace Mine
theorem nat_and_high (x k : Nat) : x &&& (x / 2 ^ k * 2 ^ k) = x / 2 ^ k * 2 ^ k := by
  apply Nat.eq_of_testBit_eq
  intro i
  rw [Nat.testBit_and, Nat.testBit_mul_two_pow, Nat.testBit_div_two_pow]
  by_cases h : k ≤ i
  · have : i - k + k = i := by omega
    simp [h, this]
  · simp [h]
theorem nat_and_low {a b k : Nat} (h : b < 2 ^ k) : (a * 2 ^ k) &&& b = 0 := by
  apply Nat.eq_of_testBit_eq
  intro i
  rw [Nat.testBit_and, Nat.testBit_mul_two_pow, Nat.zero_testBit]
  by_cases h2 : k ≤ i
  · have : b < 2 ^ i := Nat.lt_of_lt_of_le h (Nat.pow_le_pow_right (by decide) h2)
    simp [Nat.testBit_lt_two_pow this]
  · simp [h2]
theorem band_mask {x : Int} (k : Nat) (hx : 0 ≤ x) : Builtin.bitAnd x (2 ^ k - 1) = x % 2 ^ k := by
  obtain ⟨n, rfl⟩ := Int.eq_ofNat_of_zero_le hx
  have h1 : (1 : Nat) ≤ 2 ^ k := Nat.one_le_two_pow
  have e : ((2 : Int) ^ k - 1) = ((2 ^ k - 1 : Nat) : Int) := by rw [Int.ofNat_sub h1]; simp
  rw [e, bitAnd_pp (by omega) (by omega), Int.toNat_natCast, Int.toNat_natCast, Nat.and_two_pow_sub_one_eq_mod]
  simp
theorem bor_add {a b : Int} (k : Nat) (ha : 0 ≤ a) (hb : 0 ≤ b) (h : b < 2 ^ k) : Builtin.bitOr (a * 2 ^ k) b = a * 2 ^ k + b := by
  obtain ⟨n, rfl⟩ := Int.eq_ofNat_of_zero_le ha
  obtain ⟨m, rfl⟩ := Int.eq_ofNat_of_zero_le hb
  have e : ((n : Int) * 2 ^ k) = ((n * 2 ^ k : Nat) : Int) := by simp
  have hm : m < 2 ^ k := by
    have : (m : Int) < ((2 ^ k : Nat) : Int) := by simpa using h
    omega
  rw [bitOr_and, e, bitAnd_pp (by omega) (by omega), Int.toNat_natCast, Int.toNat_natCast, nat_and_low hm]
  simp
theorem bxor_low {x : Int} (k : Nat) (hx : 0 ≤ x) : Builtin.bitXor x (x / 2 ^ k * 2 ^ k) = x % 2 ^ k := by
  obtain ⟨n, rfl⟩ := Int.eq_ofNat_of_zero_le hx
  have e : ((n : Int) / 2 ^ k * 2 ^ k) = ((n / 2 ^ k * 2 ^ k : Nat) : Int) := by simp
  rw [bitXor_and, e, bitAnd_pp (by omega) (by omega), Int.toNat_natCast, Int.toNat_natCast, nat_and_high]
  have h2 : ((n : Int) % 2 ^ k) = ((n % 2 ^ k : Nat) : Int) := by simp
  rw [h2]
  have h3 := Nat.div_add_mod n (2 ^ k)
  rw [Nat.mul_comm] at h3
  omega

section
variable {prog : Program} {w : World} {A : Around} {E : Value → Shared → Prop} {s : Shared} {a b : Int} {t u : Tok} {Q : Value → Shared → Prop}
theorem shrS (hb : 0 ≤ b) (h : Q (.int (a / 2 ^ b.toNat) s.toks) { s with toks := s.toks + 1 }) : wpAny (model prog w) A (binaryOp .RShift (.int a t) (.int b u)) Q E s := by
  refine rshift_int hb ?_
  rw [Int.fdiv_eq_ediv_of_nonneg _ (Int.pow_nonneg (by decide))]
  exact h
theorem xorLow {k : Nat} (ha : 0 ≤ a) (h : Q (.int (a % 2 ^ k) s.toks) { s with toks := s.toks + 1 }) : wpAny (model prog w) A (binaryOp .BitXor (.int a t) (.int (a / 2 ^ k * 2 ^ k) u)) Q E s := by
  refine xor_int ?_
  rw [bxor_low k ha]
  exact h
end

/-- the digits of x, width n, the least first, k of them -/
noncomputable def dg (n : Nat) (x : Int) : Nat → List Int
  | 0 => []
  | k + 1 => x % 2 ^ n :: dg n (x / 2 ^ n) k
theorem dg_len (n : Nat) : ∀ (k : Nat) (x : Int), (dg n x k).length = k
  | 0, _ => rfl
  | k + 1, x => by rw [dg, List.length_cons, dg_len]
theorem ediv_pow (x : Int) (a b : Nat) : x / 2 ^ a / 2 ^ b = x / 2 ^ (a + b) := by
  rw [Int.ediv_ediv_of_nonneg (Int.pow_nonneg (by decide)), Int.pow_add]
theorem emod_low (x : Int) (n m : Nat) (h : n ≤ m) : x % 2 ^ m % 2 ^ n = x % 2 ^ n := Int.emod_emod_of_dvd x ⟨2 ^ (m - n), by rw [← Int.pow_add, Nat.add_sub_cancel' h]⟩
theorem emod_div (x : Int) (n m : Nat) : x % 2 ^ (n + m) / 2 ^ n = x / 2 ^ n % 2 ^ m := by
  have hn : (0 : Int) < 2 ^ n := Int.pow_pos (by decide)
  have hm : (0 : Int) < 2 ^ m := Int.pow_pos (by decide)
  rw [Int.pow_add]
  have e1 : x % (2 ^ n * 2 ^ m) = x - (2 ^ n * 2 ^ m) * (x / (2 ^ n * 2 ^ m)) := by have := Int.emod_add_mul_ediv x (2 ^ n * 2 ^ m); omega
  rw [e1, Int.mul_assoc, Int.sub_mul_ediv_left _ _ (by omega), ← Int.ediv_ediv_of_nonneg (by omega)]
  have := Int.emod_add_mul_ediv (x / 2 ^ n) (2 ^ m)
  omega
theorem dg_split (n : Nat) (b : Nat) : ∀ (a : Nat) (x : Int), dg n x (a + b) = dg n (x % 2 ^ (n * a)) a ++ dg n (x / 2 ^ (n * a)) b
  | 0, x => by simp [dg]
  | a + 1, x => by
    rw [show a + 1 + b = (a + b) + 1 by omega, dg, dg, dg_split n b a, List.cons_append]
    rw [show n * (a + 1) = n + n * a by rw [Nat.mul_add]; omega, emod_low _ _ _ (by omega), emod_div, ediv_pow]
end Mine
namespace Mine
local macro_rules | `(tactic| walk_at $s:str) => `(tactic| k_extra $s)
local macro_rules | `(tactic| k_room) => `(tactic| k_extra "k_room")

/-- the list with the places L .. R - 1 filled by x's digits -/
noncomputable def put (nn : Int) (xs : List Int) (x L R : Int) : List Int := xs.take L.toNat ++ dg nn.toNat x (R - L).toNat ++ xs.drop R.toNat
theorem put_len {nn : Int} {xs : List Int} {x L R : Int} (h0 : 0 ≤ L) (h1 : L ≤ R) (h2 : R ≤ (xs.length : Int)) : (put nn xs x L R).length = xs.length := by
  unfold put
  rw [List.length_append, List.length_append, List.length_take, List.length_drop, dg_len]
  omega
theorem put_one {nn : Int} {xs : List Int} {x L R : Int} (h0 : 0 ≤ L) (h1 : R ≤ (xs.length : Int)) (e : L + 1 = R) (hx : 0 ≤ x) (hx2 : x < 2 ^ (nn.toNat * (R - L).toNat)) : xs.set L.toNat x = put nn xs x L R := by
  have h2 : (R - L).toNat = 1 := by omega
  have h3 : L.toNat < xs.length := by omega
  have h4 : R.toNat = L.toNat + 1 := by omega
  rw [h2, Nat.mul_one] at hx2
  unfold put
  rw [h2, h4, List.set_eq_take_append_cons_drop, if_pos h3]
  simp [dg, Int.emod_eq_of_lt hx hx2]
theorem put_two {nn : Int} {xs : List Int} {x L R : Int} (h0 : 0 ≤ L) (h1 : R ≤ (xs.length : Int)) (h2 : L < R) (hn : 0 ≤ nn) :
    put nn (put nn xs (x % 2 ^ (((L + R) / 2 - L) * nn).toNat) L ((L + R) / 2)) (x / 2 ^ (((L + R) / 2 - L) * nn).toNat) ((L + R) / 2) R = put nn xs x L R := by
  have hm0 : L ≤ (L + R) / 2 := by omega
  have hm1 : (L + R) / 2 ≤ R := by omega
  generalize (L + R) / 2 = m at *
  have h6 : ((m - L) * nn).toNat = nn.toNat * (m - L).toNat := by
    obtain ⟨a, ha⟩ := Int.eq_ofNat_of_zero_le (show 0 ≤ m - L by omega)
    obtain ⟨b, hb⟩ := Int.eq_ofNat_of_zero_le hn
    rw [ha, hb, Int.toNat_natCast, Int.toNat_natCast, ← Int.natCast_mul, Int.toNat_natCast, Nat.mul_comm]
  unfold put
  have h3 : (R - L).toNat = (m - L).toNat + (R - m).toNat := by omega
  rw [h3, dg_split, h6]
  have h7 : (xs.take L.toNat ++ dg nn.toNat (x % 2 ^ (nn.toNat * (m - L).toNat)) (m - L).toNat).length = m.toNat := by
    rw [List.length_append, List.length_take, dg_len]; omega
  rw [List.take_left' h7]
  have h8 : R.toNat = m.toNat + (R - m).toNat := by omega
  rw [h8, ← List.drop_drop, List.drop_left' h7, List.drop_drop, List.append_assoc, List.append_assoc, List.append_assoc]
  simp [List.append_assoc]
theorem low_lt {nn L R : Int} {x : Int} (h2 : L < R) (hn : 0 ≤ nn) : x % 2 ^ (((L + R) / 2 - L) * nn).toNat < 2 ^ (nn.toNat * ((L + R) / 2 - L).toNat) := by
  have hm0 : L ≤ (L + R) / 2 := by omega
  generalize (L + R) / 2 = m at *
  have h6 : ((m - L) * nn).toNat = nn.toNat * (m - L).toNat := by
    obtain ⟨a, ha⟩ := Int.eq_ofNat_of_zero_le (show 0 ≤ m - L by omega)
    obtain ⟨b, hb⟩ := Int.eq_ofNat_of_zero_le hn
    rw [ha, hb, Int.toNat_natCast, Int.toNat_natCast, ← Int.natCast_mul, Int.toNat_natCast, Nat.mul_comm]
  rw [h6]
  exact Int.emod_lt_of_pos _ (Int.pow_pos (by decide))
theorem high_lt {nn L R : Int} {x : Int} (h2 : L < R) (hn : 0 ≤ nn) (hx2 : x < 2 ^ (nn.toNat * (R - L).toNat)) : x / 2 ^ (((L + R) / 2 - L) * nn).toNat < 2 ^ (nn.toNat * (R - (L + R) / 2).toNat) := by
  have hm0 : L ≤ (L + R) / 2 := by omega
  have hm1 : (L + R) / 2 ≤ R := by omega
  generalize (L + R) / 2 = m at *
  have h6 : ((m - L) * nn).toNat = nn.toNat * (m - L).toNat := by
    obtain ⟨a, ha⟩ := Int.eq_ofNat_of_zero_le (show 0 ≤ m - L by omega)
    obtain ⟨b, hb⟩ := Int.eq_ofNat_of_zero_le hn
    rw [ha, hb, Int.toNat_natCast, Int.toNat_natCast, ← Int.natCast_mul, Int.toNat_natCast, Nat.mul_comm]
  rw [h6]
  refine Int.ediv_lt_of_lt_mul (Int.pow_pos (by decide)) ?_
  rw [← Int.pow_add, ← Nat.mul_add, show (R - m).toNat + (m - L).toNat = (R - L).toNat by omega]
  exact hx2
theorem low_nn {x : Int} {k : Nat} : 0 ≤ x % 2 ^ k := Int.emod_nonneg _ (Int.ne_of_gt (Int.pow_pos (by decide)))
theorem high_nn {x : Int} {k : Nat} (hx : 0 ≤ x) : 0 ≤ x / 2 ^ k := Int.ediv_nonneg hx (Int.pow_nonneg (by decide))
theorem high_le {x : Int} {k : Nat} (hx : 0 ≤ x) : x / 2 ^ k ≤ x := Int.ediv_le_self _ hx
theorem low_le {x : Int} {k : Nat} (hx : 0 ≤ x) : x % 2 ^ k ≤ x := by
  have h1 := Int.emod_add_mul_ediv x (2 ^ k)
  have h2 : 0 ≤ (2 : Int) ^ k * (x / 2 ^ k) := Int.mul_nonneg (Int.pow_nonneg (by decide)) (high_nn hx)
  omega
theorem high_small {x : Int} {k : Nat} (hx : 0 ≤ x) (hx2 : x < 2 ^ 63) : (x / 2 ^ k).natAbs < 2 ^ 64 := by
  have h1 := high_nn (k := k) hx
  have h2 := high_le (k := k) hx
  omega

/-- the told call of the closure that writes into the list at D -/
noncomputable def I2D (w : World) (p : Program) (loose : List Str) (mean : ExcName → Option Value) (mg mb : Str → Option Value) (f D : Addr) (pre : Led) (nn : Int) (N : Nat) : Prop :=
  ∀ (dp un : Nat) (gd : Option (List Code)) (outer : List Env) (base h₀ : Heap) (s : Shared) (x L R : Int) (tx tL tR : Tok) (vs : List Value) (xs : List Int) (nD : Nat), dp + N + 5 < recursionLimit → Here (hd.heap_1 w.params) p loose mean mg mb base outer h₀ s.heap →
    (∀ q ∈ (D, W.listOf vs.toArray nD) :: pre, s.heap.get? q.1 = some q.2 ∧ h₀.get? q.1 = none) → IntsAre vs xs → xs.length ≤ 100 → 0 ≤ x → x < 2 ^ 63 → x < 2 ^ (nn.toNat * (R - L).toNat) → 0 ≤ L → L < R → R ≤ (xs.length : Int) → (R - L).toNat ≤ N →
    codeAny (model PR w) (arnd dp un gd outer) (.call (.ref f) ⟨[.int x tx, .int L tL, .int R tR], []⟩) (OutR s ((D, W.listOf vs.toArray nD) :: pre) fun v news' => v = .none ∧ ∃ vs' n', news' = (D, W.listOf vs'.toArray n') :: pre ∧ IntsAre vs' (put nn xs x L R)) s

theorem newsUb {h₀ h h' : Heap} {L l : Addr} {o o' : Obj} {news pre : Led} {G : Obj → Led} (N : News h₀ L h news) (U : UpdF l o news G) (ho : ∀ q ∈ pre, q ∈ news) (K' : ∀ q ∈ news, q.1 ∉ adr ((l, o) :: pre) → h'.get? q.1 = some q.2) (hl : News h₀ L h' ((l, o') :: pre)) : News h₀ L h' (G o') := by
  refine newsU N U (fun q hq e => ?_) (hl _ (.head _)).1
  by_cases e2 : q.1 ∈ adr pre
  · obtain ⟨x, hx, ex⟩ := List.mem_map.mp e2
    have h1 := (N x (ho x hx)).1
    rw [ex, (N q hq).1] at h1
    rw [← ex, (hl x (.tail _ hx)).1, ← Option.some.inj h1]
  · refine K' q hq fun e3 => ?_
    rcases List.mem_cons.mp e3 with e4 | e4
    · exact e (by simp [e4])
    · exact e2 e4

theorem i2d_use {w : World} {p : Program} {loose : List Str} {mean : ExcName → Option Value} {mg mb : Str → Option Value} {A₀ A : Around} {env : Env} {Lf : Addr} {m : Str → Option Value} {news : Led} {dp un : Nat} {gd : Option (List Code)} {outer : List Env} {base h₀ : Heap} {s : Shared} {Q E : Value → Shared → Prop}
    {f D : Addr} {pre : Led} {nn : Int} {xs : List Int} {vs : List Value} {nD : Nat} {N : Nat} {x L R : Int} {tx tL tR : Tok} {G : Obj → Led} (C : I2D w p loose mean mg mb f D pre nn N)
    (B : Below A₀ base outer h₀) (F : Fr h₀ Lf s.heap m) (X : (hd.heap_1 w.params).In h₀) (NN : News h₀ Lf s.heap news) (T : Top p loose mean mg mb h₀) (hA : A = arnd dp un gd (env :: outer)) (hf : env.frame = some Lf) (hke : env.scope.kind = .function)
    (U : UpdF D (W.listOf vs.toArray nD) news G) (ho : ∀ q ∈ pre, q ∈ news) (hi : IntsAre vs xs) (hsz : xs.length ≤ 100) (hd1 : dp + N + 5 < recursionLimit) (hx : 0 ≤ x) (hx2 : x < 2 ^ 63) (hx3 : x < 2 ^ (nn.toNat * (R - L).toNat)) (h0 : 0 ≤ L) (h1 : L < R) (h2 : R ≤ (xs.length : Int)) (h3 : (R - L).toNat ≤ N)
    (ret : ∀ vs' n' h' tk', Fr h₀ Lf h' m → News h₀ Lf h' (G (W.listOf vs'.toArray n')) → IntsAre vs' (put nn xs x L R) → (put nn xs x L R).length = xs.length → Q .none { s with heap := h', toks := tk' }) :
    wpAny (model PR w) A (call (.ref f) [.int x tx, .int L tL, .int R tR]) Q E s := by
  refine useO (own := (D, W.listOf vs.toArray nD) :: pre) B F X NN T hA hf hke (fun q hq => (List.mem_cons.mp hq).elim (fun e => updF_mem U q (List.mem_singleton.mpr e)) (ho q)) (fun g H hw => C _ _ _ _ _ _ _ _ _ _ _ _ _ _ _ _ hd1 H hw hi hsz hx hx2 hx3 h0 h1 h2 h3) ?_
  rintro v h' tk news' F' K' N' ne ⟨rfl, vs', n', rfl, hi'⟩
  exact ret vs' n' h' tk F' (newsUb NN U ho K' N') hi' (put_len h0 (by omega) h2)

section
theorem i2d_inner {w : World} {p : Program} {loose : List Str} {mean : ExcName → Option Value} {mg mb : Str → Option Value} {f c ci cn cd D : Addr} {oc oi on od : Obj} {nn : Int} {tn : Tok} {cvs : Array Value} {tq : Tok}
    {iname qual ibind : Str} {iparams : Arguments} {ibody rest : List Stmt} {st0 : Stmt} {iscope : Scope} {ipos : Pos} {doc pm ctv : Value} {oc0 : Value} {od0 : Option Addr} {nm ql : Str} {ps : Arguments} {sc : Scope} {dV kV doc0 pm0 cdv ct : Value} {an : Option Addr} {osl : Array (Option Value)}
    (hK : (hd.heap_1 w.params).lookup 28 = some ⟨oc0, od0, .func (fnOf nm ql ps (st0 :: .FunctionDef iname iparams ibody [] none [] iscope none ibind ipos :: rest) sc dV kV doc0 pm0 an cdv ct), osl⟩)
    (hc1 : oc.data = .fields cvs) (hc2 : cvs[1]? = some (.str qual tq)) (hoi : oi.data = .cell (some (.ref f))) (hon : on.data = .cell (some (.int nn tn))) (hod : od.data = .cell (some (.ref D)))
    (hf : f ≠ D) (hcD : c ≠ D) (hciD : ci ≠ D) (hcnD : cn ≠ D) (hcdD : cd ≠ D) (hn0 : 0 ≤ nn) (hn1 : nn ≤ 8) (N : Nat) :
    I2D w p loose mean mg mb f D [(f, fnMade iname qual iparams ibody iscope [("n", cn), ("inner", ci), ("a_digits", cd)] doc pm c ctv), (c, oc), (ci, oi), (cn, on), (cd, od)] nn N := by
  w_on; k_with_none; unfold I2D PR; revert hK; k_fill; intro hK
  k_with "k_room" => ((try simp only [depth_under_make, depth_under_kw, depth_in1, depth_deeper, depth_caller]); (try dsimp only); omega)
  k_with "binaryOp RShift int int" => (k_here; (with_reducible refine shrS ?zqa ?_); (case zqa => omega))
  k_with "binaryOp RShift int int" => (k_here; (with_reducible refine shr1 ?_))
  k_with "binaryOp LShift int int" => (k_here; (with_reducible refine shlS ?zqa ?zqb ?zqc ?_); (case zqa => omega); (case zqb => omega); (case zqc => exact high_small (by assumption) (by assumption)))
  k_with "binaryOp BitXor int int" => (k_here; (with_reducible refine xorLow ?zqa ?_); (case zqa => assumption))
  k_with "binaryOp Mult int int" => (k_here; (with_reducible refine mulS ?zqa ?zqb ?zqc ?zqd ?_); (case zqa => omega); (case zqb => omega); (case zqc => omega); (case zqd => omega); intro hP0 hP1)
  k_with "setItem ref int" => (k_here; (with_reducible show wpAny _ _ (setItem (Value.ref _) (Value.int _ _) (Value.int _ _)) _ _ _); k_dflt (refine' ksa_set ?zqk1 ?zqk2 ?zqk3 ?zqk4 ?zqk5 ?zqk6 ?zqk7 ?_; (case zqk1 => k_asm); (case zqk2 => k_asm); (case zqk3 => k_upd); (case zqk4 => l_ints); (case zqk5 => omega); (case zqk6 => omega); (case zqk7 => omega); k_whole); intro h' F' N' hi' hl' hs'; clear hl' hs'; (try k_sweep))
  k_with "call ref" => (k_here; k_dflt (refine' i2d_use ?zqkC ?zqk1 ?zqk2 ?zqk3 ?zqk4 ?zqk5 ?zqkA ?zqkF ?zqkK ?zqkU ?zqkO ?zqkI ?zqkz ?zqkd ?zqx1 ?zqx2 ?zqx3 ?zqkp ?zqkq ?zqkr ?zqks ?_; (case zqkC => assumption); (case zqkA => exact rfl); (case zqkF => exact rfl); (case zqkK => exact rfl); (case zqk1 => k_asm); (case zqk2 => k_asm); (case zqk3 => k_asm); (case zqk4 => k_asm); (case zqk5 => k_asm); (case zqkU => k_updF); (case zqkO => exact fun _ h => List.Mem.tail _ h); (case zqkI => l_ints); (case zqkz => omega); (case zqkd => k_room); (case zqx1 => first | exact low_nn | exact high_nn (by assumption)); (case zqx2 => first | exact Int.lt_of_le_of_lt (low_le (by assumption)) (by assumption) | exact Int.lt_of_le_of_lt (high_le (by assumption)) (by assumption)); (case zqx3 => first | exact low_lt (by assumption) (by assumption) | exact high_lt (by assumption) (by assumption) (by assumption)); (case zqkp => omega); (case zqkq => omega); (case zqkr => omega); (case zqks => omega); k_whole); intro vs' n' h' tk' F' N' hI' hN'; (try dsimp only at N'); (try k_sweep))
  refine' lookup_eq ?k1 hK ?_
  case k1 => k_is
  intro e
  cases e
  clear hK
  induction N with
  | zero => intro dp un gd outer base h₀ s x L R tx tL tR vs xs nD _ _ _ _ _ _ _ _ _ _ _ _; omega
  | succ N ih =>
    have IH : I2D _ _ _ _ _ _ _ _ _ _ _ := ih
    clear ih
    intro dp un gd outer base h₀ s x L R tx tL tR vs xs nD hd1 H hown hi hsz hx hx2 hx3 h0 h1 h2 h3
    refine' enterO H hown (hown _ (.tail _ (List.Mem.head _))).1 ?k6 ?k7 ?k8 ?k9 ?kB ?_ ?c5 ?c2 ?c3 ?c4
    case k6 => exact rfl
    case k7 => exact ⟨_, _, _, _, rfl, (hown _ (.tail _ (.tail _ (.head _)))).1, hc1, hc2⟩
    case k8 => omega
    case k9 => exact BindsTo.of_eq rfl
    case kB => exact locs rfl
    case c5 => decide
    case c2 => exact rfl
    case c3 => exact rfl
    case c4 => exact rfl
    intro g' L' h' gE F' N' B' X' T'
    clear gE
    have codeHd : CodeHd g' 27 23 := codeHd_of_K X' (by kernel_rfl)
    (try dsimp only)
    (try k_fold)
    k_steps
    all_goals (try dsimp only)
    k_steps
    all_goals (refine outB (by assumption) (by assumption) ?_)
    · exact ⟨rfl, _, _, rfl, ints_as (by assumption) (put_one (by assumption) (by assumption) (by assumption) (by assumption) (by assumption))⟩
    · exact ⟨rfl, _, _, rfl, ints_as (by assumption) (put_two (by assumption) (by assumption) (by assumption) (by assumption))⟩
end
end Mine
namespace Mine
local macro_rules | `(tactic| walk_at $s:str) => `(tactic| k_extra $s)
local macro_rules | `(tactic| k_room) => `(tactic| k_extra "k_room")
section
variable {prog : Program} {w : World} {A : Around} {E : Value → Shared → Prop} {s : Shared} {a b : Int} {t u : Tok} {Q : Value → Shared → Prop}
theorem shrN (k : Nat) (K : Int) (hK : (2 : Int) ^ k = K) (hb : b = (k : Int)) (h : Q (.int (a / K) s.toks) { s with toks := s.toks + 1 }) : wpAny (model prog w) A (binaryOp .RShift (.int a t) (.int b u)) Q E s := by
  refine shrS (by omega) ?_
  rw [hb, Int.toNat_natCast, hK]
  exact h
theorem shlN (k : Nat) (K : Int) (hK : (2 : Int) ^ k = K) (hb : b = (k : Int)) (hk : k ≤ 100) (ha : a.natAbs < 2 ^ 64) (h : Q (.int (a * K) s.toks) { s with toks := s.toks + 1 }) : wpAny (model prog w) A (binaryOp .LShift (.int a t) (.int b u)) Q E s := by
  refine shlS (by omega) (by omega) ha ?_
  rw [hb, Int.toNat_natCast, hK]
  exact h
theorem andN (k : Nat) (K : Int) (hK : (2 : Int) ^ k = K) (hb : b = K - 1) (ha : 0 ≤ a) (h : Q (.int (a % K) s.toks) { s with toks := s.toks + 1 }) : wpAny (model prog w) A (binaryOp .BitAnd (.int a t) (.int b u)) Q E s := by
  refine and_int ?_
  rw [hb, ← hK, band_mask k ha, hK]
  exact h
theorem orN (k : Nat) (K : Int) (hK : (2 : Int) ^ k = K) {c : Int} (ha : 0 ≤ c) (hb : 0 ≤ b) (hb2 : b < K) (h : Q (.int (c * K + b) s.toks) { s with toks := s.toks + 1 }) : wpAny (model prog w) A (binaryOp .BitOr (.int (c * K) t) (.int b u)) Q E s := by
  refine or_int ?_
  rw [← hK] at hb2 h ⊢
  rw [bor_add k ha hb hb2]
  exact h
end
noncomputable def B64 : List Int := [65, 66, 67, 68, 69, 70, 71, 72, 73, 74, 75, 76, 77, 78, 79, 80, 81, 82, 83, 84, 85, 86, 87, 88, 89, 90, 97, 98, 99, 100, 101, 102, 103, 104, 105, 106, 107, 108, 109, 110, 111, 112, 113, 114, 115, 116, 117, 118, 119, 120, 121, 122, 48, 49, 50, 51, 52, 53, 54, 55, 56, 57, 43, 47]
noncomputable def sig (i : Int) : Int := B64.getD i.toNat 0
theorem sig_in (i : Int) : 0 ≤ sig i ∧ sig i < 256 := by
  unfold sig
  by_cases h : i.toNat < B64.length
  · have h2 : ∀ x ∈ B64, 0 ≤ x ∧ x < 256 := by decide
    have h3 : B64.getD i.toNat 0 = B64[i.toNat] := by simp [h]
    rw [h3]
    exact h2 _ (List.getElem_mem h)
  · have h3 : B64.getD i.toNat 0 = 0 := by simp [List.getD, List.getElem?_eq_none (Nat.le_of_not_lt h)]
    rw [h3]
    exact ⟨by decide, by decide⟩
theorem item_B64 {prog : Program} {w : World} {A : Around} {E : Value → Shared → Prop} {s : Shared} {b : Array UInt8} {i : Int} {t ui : Tok} {value slice : Expr} {Q : Value → Shared → Prop} (hk : KBw.bInts b = B64) (h0 : 0 ≤ i) (h1 : i < 64) (h : ∀ t' k, Q (.int (sig i) t') { s with toks := k })
    (hs : subscripted slice false (.bytes b t) (.int i ui) = operate [.bytes b t, .int i ui] (getItem (.bytes b t) (.int i ui)) := by with_unfolding_all rfl)
    (ht : ∀ r, letTemporaryGo value (.bytes b t) r = pure () := by intro _; with_unfolding_all rfl) : wpAny (model prog w) A (subscriptTail value slice (.bytes b t) (.int i ui)) Q E s :=
  KBw.item_K hk (by decide) h0 (by exact h1) (fun t' k _ _ => h t' k) hs ht
theorem in4 {a b c d : Int} : KBa.In ([] ++ [sig a] ++ [sig b] ++ [sig c] ++ [sig d]) := by
  intro n hn
  simp only [List.nil_append, List.cons_append, List.mem_cons, List.not_mem_nil, or_false] at hn
  rcases hn with rfl | rfl | rfl | rfl <;> exact sig_in _
theorem enc_end {a b c d a' b' c' d' : Int} {t : Tok} (ha : a = a') (hb : b = b') (hc : c = c') (hd : d = d') : Value.bytes (byteArr ([] ++ [sig a] ++ [sig b] ++ [sig c] ++ [sig d])) t = Value.bytes (byteArr [sig a', sig b', sig c', sig d']) t := by
  subst ha hb hc hd
  rfl
section
theorem b64enc {w : World} {p : Program} {loose : List Str} {mean : ExcName → Option Value} {mg mb : Str → Option Value} {dp un : Nat} {gd : Option (List Code)} {outer : List Env} {base h₀ : Heap} {s : Shared}
    {b : Array UInt8} {x y z : Int} {tb : Tok} (hd1 : dp + 20 < recursionLimit)
    (H : Here (hd.heap_1 w.params) p loose mean mg mb base outer h₀ s.heap) (hown : ∀ q ∈ ([] : Led), s.heap.get? q.1 = some q.2 ∧ h₀.get? q.1 = none)
    (hb : KBw.bInts b = [x, y, z]) (hx : 0 ≤ x) (hx2 : x < 256) (hy : 0 ≤ y) (hy2 : y < 256) (hz : 0 ≤ z) (hz2 : z < 256) :
    codeAny (model PR w) (arnd dp un gd outer) (.call (.ref 143) ⟨[.bytes b tb], []⟩)
      (OutR s [] fun v news' => ∃ t, v = .bytes (byteArr [sig (x / 4), sig (x % 4 * 16 + y / 16), sig (y % 16 * 4 + z / 64), sig (z % 64)]) t) s := by
  w_on; k_with_none; revert H; unfold PR; k_fill; intro H
  k_with "k_room" => ((try simp only [depth_under_make, depth_under_kw, depth_in1, depth_deeper, depth_caller]); (try dsimp only); omega)
  k_with "call builtin:list.append" => (k_here; (show wpAny _ _ (call (Value.builtin _) [Value.ref _, Value.int _ _]) _ _ _); k_dflt (refine' append_ints ?zqk1 ?zqk2 ?zqkU ?zqkI ?zqz ?_; (case zqk1 => k_asm); (case zqk2 => k_asm); (case zqkU => k_updF); (case zqkI => first | l_ints | exact IntsAre.nil); (case zqz => ((try simp only [List.length_append, List.length_cons, List.length_nil]); omega)); k_whole); intro h' F' N' hI'; (try dsimp only at N'); (try k_sweep))
  k_with "binaryOp RShift int int" => (k_here; (first | (with_reducible refine shrN 2 4 (by decide) ?zqa ?_); (case zqa => omega) | (with_reducible refine shrN 4 16 (by decide) ?zqa ?_); (case zqa => omega) | (with_reducible refine shrN 6 64 (by decide) ?zqa ?_); (case zqa => omega) | (with_reducible refine shrN 0 1 (by decide) ?zqa ?_); (case zqa => omega)))
  k_with "binaryOp LShift int int" => (k_here; (with_reducible refine shlN 8 256 (by decide) ?zqa (by decide) ?zqc ?_); (case zqa => omega); (case zqc => omega))
  k_with "binaryOp BitAnd int int" => (k_here; (first | (with_reducible refine andN 16 65536 (by decide) ?zqa ?zqb ?_); (case zqa => omega); (case zqb => omega) | (with_reducible refine andN 6 64 (by decide) ?zqa ?zqb ?_); (case zqa => omega); (case zqb => omega)))
  k_with "binaryOp BitOr int int" => (k_here; (with_reducible refine orN 8 256 (by decide) ?zqa ?zqb ?zqc ?_); (case zqa => omega); (case zqb => omega); (case zqc => omega))
  k_with "call type:type" => ((with_reducible show wpAny _ _ (call _ [Value.bytes _ _]) _ _ _); refine call_type_of (Tx := "bytes") rfl (by decide +kernel) ?_)
  k_with "pyIter bytes" => ((with_reducible show wpAny _ _ (pyIter (Value.bytes _ _)) (fun it s₂ => LoopAtV _ _ _ _ _ _ _ _ _ it s₂) _ _); k_here; k_bytesUnr)
  k_with "subscriptTail" => (k_here; (with_reducible show wpAny _ _ (subscriptTail _ _ (Value.bytes _ _) (Value.int _ _)) _ _ _); (refine' item_B64 ?zqe ?zqa ?zqb ?_ ?zqf ?zqg; (case zqe => decide +kernel); (case zqa => omega); (case zqb => omega); (case zqf => with_unfolding_all rfl); (case zqg => intro _; with_unfolding_all rfl)); intro _ _)
  k_with "call type:bytes" => (k_here; (with_reducible show wpAny _ _ (call (Value.type "bytes") [Value.ref _]) _ _ _); k_dflt (refine' KBa.make_K ?zqkbaF ?zqkbaN ?zqkbah ?zqkbal ?zqkbai ?zqkbar ?zqkban ?_; (case zqkbaF => k_asm); (case zqkbaN => k_asm); (case zqkbah => rfl); (case zqkbal => exact News.isList (by k_asm) (by k_mem)); (case zqkbai => l_ints); (case zqkbar => exact in4); (case zqkban => exact Nat.le_of_ble_eq_true rfl)); intro h' t' k' F' N' _hIn; (try k_sweep))
  refine' enterK H hown ?k6 ?k7 ?k8 ?k9 ?kB ?_ ?c5 ?c2 ?c3 ?c4
  case k6 => k_is
  case k7 => k_is
  case k8 => omega
  case k9 => first | exact BindsTo.of_eq rfl | exact binds_K (H.X.keeps H.keep) rfl (by k_is) rfl rfl rfl
  case kB => exact locs rfl
  case c5 => decide
  case c2 => exact rfl
  case c3 => exact rfl
  case c4 => exact rfl
  intro g' L' h' gE F' N' B' X' T'
  clear gE
  (try dsimp only)
  (try k_fold)
  k_steps

  all_goals (refine outB (by assumption) (by assumption) ?_)
  exact ⟨_, enc_end (by omega) (by omega) (by omega) (by omega)⟩
end
end Mine
namespace Mine
local macro_rules | `(tactic| walk_at $s:str) => `(tactic| k_extra $s)
local macro_rules | `(tactic| k_room) => `(tactic| k_extra "k_room")
noncomputable def bval (c : Int) : Int := if 65 ≤ c ∧ c ≤ 90 then c - 65 else if 97 ≤ c ∧ c ≤ 122 then c - 71 else if 48 ≤ c ∧ c ≤ 57 then c + 4 else if c = 43 then 62 else if c = 47 then 63 else 64
theorem sig_nat : ∀ n : Nat, n < 64 → bval (sig (n : Int)) = (n : Int) ∧ sig (n : Int) ≠ 61 := by decide +kernel
theorem bval_sig {i : Int} (h0 : 0 ≤ i) (h1 : i < 64) : bval (sig i) = i ∧ sig i ≠ 61 := by
  obtain ⟨n, rfl⟩ := Int.eq_ofNat_of_zero_le h0
  exact sig_nat n (by omega)
section
theorem b64value {w : World} {p : Program} {loose : List Str} {mean : ExcName → Option Value} {mg mb : Str → Option Value} {dp un : Nat} {gd : Option (List Code)} {outer : List Env} {base h₀ : Heap} {s : Shared}
    {c : Int} {tc : Tok} (hd1 : dp + 5 < recursionLimit)
    (H : Here (hd.heap_1 w.params) p loose mean mg mb base outer h₀ s.heap) (hown : ∀ q ∈ ([] : Led), s.heap.get? q.1 = some q.2 ∧ h₀.get? q.1 = none) :
    codeAny (model PR w) (arnd dp un gd outer) (.call (.ref 119) ⟨[.int c tc], []⟩) (OutR s [] fun v news' => ∃ t, v = .int (bval c) t) s := by
  w_on; k_with_none; revert H; unfold PR; k_fill; intro H
  k_with "k_room" => ((try simp only [depth_under_make, depth_under_kw, depth_in1, depth_deeper, depth_caller]); (try dsimp only); omega)
  refine' enterK H hown ?k6 ?k7 ?k8 ?k9 ?kB ?_ ?c5 ?c2 ?c3 ?c4
  case k6 => k_is
  case k7 => k_is
  case k8 => omega
  case k9 => first | exact BindsTo.of_eq rfl | exact binds_K (H.X.keeps H.keep) rfl (by k_is) rfl rfl rfl
  case kB => exact locs rfl
  case c5 => decide
  case c2 => exact rfl
  case c3 => exact rfl
  case c4 => exact rfl
  intro g' L' h' gE F' N' B' X' T'
  clear gE
  (try dsimp only)
  (try k_fold)
  k_steps
  all_goals (try dsimp only)
  k_steps
  all_goals (refine outB (by assumption) (by assumption) ?_)
  all_goals exact ⟨_, int_eq (by unfold bval; repeat' split <;> omega)⟩
end
theorem b64value_use {w : World} {p : Program} {loose : List Str} {mean : ExcName → Option Value} {mg mb : Str → Option Value} {A₀ A : Around} {env : Env} {L : Addr} {m : Str → Option Value} {news : Led} {dp un : Nat} {gd : Option (List Code)} {outer : List Env} {base h₀ : Heap} {s : Shared} {Q E : Value → Shared → Prop}
    {i : Int} {tc : Tok} (B : Below A₀ base outer h₀) (F : Fr h₀ L s.heap m) (X : (hd.heap_1 w.params).In h₀) (N : News h₀ L s.heap news) (T : Top p loose mean mg mb h₀) (hA : A = arnd dp un gd (env :: outer)) (hf : env.frame = some L) (hke : env.scope.kind = .function)
    (hd1 : dp + 5 < recursionLimit) (h0 : 0 ≤ i) (h1 : i < 64)
    (ret : ∀ t h' tk', Fr h₀ L h' m → News h₀ L h' news → Q (.int i t) { s with heap := h', toks := tk' }) :
    wpAny (model PR w) A (call (.ref 119) [.int (sig i) tc]) Q E s := by
  refine useO (own := []) B F X N T hA hf hke (fun q hq => nomatch hq) (fun g H ho => b64value hd1 H ho) ?_
  rintro v h' tk news' F' K' N' ne ⟨t, rfl⟩
  rw [(bval_sig h0 h1).1]
  exact ret t h' tk F' fun q hq => ⟨K' q hq (fun e => nomatch e), (N q hq).2⟩
theorem eq_no {prog : Program} {w : World} {A : Around} {E : Value → Shared → Prop} {s : Shared} {a b : Int} {t u : Tok} {Q : Value → Shared → Prop} (hn : a ≠ b) (h : Q (.bool false) s) : wpAny (model prog w) A (compareOp .Eq (.int a t) (.int b u)) Q E s := by
  refine eq_int ?_
  rw [show (a == b) = false from beq_eq_false_iff_ne.mpr hn]
  exact h
theorem in3 {a b c : Int} (ha : 0 ≤ a) (ha2 : a < 256) (hb : 0 ≤ b) (hb2 : b < 256) (hc : 0 ≤ c) (hc2 : c < 256) : KBa.In ([] ++ [a] ++ [b] ++ [c]) := by
  intro n hn
  simp only [List.nil_append, List.cons_append, List.mem_cons, List.not_mem_nil, or_false] at hn
  rcases hn with rfl | rfl | rfl <;> exact ⟨by assumption, by assumption⟩
section
theorem b64dec {w : World} {p : Program} {loose : List Str} {mean : ExcName → Option Value} {mg mb : Str → Option Value} {dp un : Nat} {gd : Option (List Code)} {outer : List Env} {base h₀ : Heap} {s : Shared}
    {b : Array UInt8} {i j k l : Int} {tb : Tok} (hd1 : dp + 20 < recursionLimit)
    (H : Here (hd.heap_1 w.params) p loose mean mg mb base outer h₀ s.heap) (hown : ∀ q ∈ ([] : Led), s.heap.get? q.1 = some q.2 ∧ h₀.get? q.1 = none)
    (hb : KBw.bInts b = [sig i, sig j, sig k, sig l]) (hi : 0 ≤ i) (hi2 : i < 64) (hj : 0 ≤ j) (hj2 : j < 64) (hk : 0 ≤ k) (hk2 : k < 64) (hl : 0 ≤ l) (hl2 : l < 64) :
    codeAny (model PR w) (arnd dp un gd outer) (.call (.ref 151) ⟨[.bytes b tb], []⟩)
      (OutR s [] fun v news' => ∃ t, v = .bytes (byteArr [i * 4 + j / 16, j % 16 * 16 + k / 4, k % 4 * 64 + l]) t) s := by
  w_on; k_with_none; revert H; unfold PR; k_fill; intro H
  k_with "k_room" => ((try simp only [depth_under_make, depth_under_kw, depth_in1, depth_deeper, depth_caller]); (try dsimp only); omega)
  k_with "call builtin:list.append" => (k_here; (show wpAny _ _ (call (Value.builtin _) [Value.ref _, Value.int _ _]) _ _ _); k_dflt (refine' append_ints ?zqk1 ?zqk2 ?zqkU ?zqkI ?zqz ?_; (case zqk1 => k_asm); (case zqk2 => k_asm); (case zqkU => k_updF); (case zqkI => first | l_ints | exact IntsAre.nil); (case zqz => ((try simp only [List.length_append, List.length_cons, List.length_nil]); omega)); k_whole); intro h' F' N' hI'; (try dsimp only at N'); (try k_sweep))
  k_with "binaryOp RShift int int" => (k_here; (first | (with_reducible refine shrN 2 4 (by decide) ?zqa ?_); (case zqa => omega) | (with_reducible refine shrN 4 16 (by decide) ?zqa ?_); (case zqa => omega)))
  k_with "binaryOp LShift int int" => (k_here; (first | (with_reducible refine shlN 2 4 (by decide) ?zqa (by decide) ?zqc ?_); (case zqa => omega); (case zqc => omega) | (with_reducible refine shlN 4 16 (by decide) ?zqa (by decide) ?zqc ?_); (case zqa => omega); (case zqc => omega) | (with_reducible refine shlN 6 64 (by decide) ?zqa (by decide) ?zqc ?_); (case zqa => omega); (case zqc => omega)))
  k_with "binaryOp BitAnd int int" => (k_here; (first | (with_reducible refine andN 4 16 (by decide) ?zqa ?zqb ?_); (case zqa => omega); (case zqb => omega) | (with_reducible refine andN 2 4 (by decide) ?zqa ?zqb ?_); (case zqa => omega); (case zqb => omega)))
  k_with "binaryOp BitOr int int" => (k_here; (first | (with_reducible refine orN 2 4 (by decide) ?zqa ?zqb ?zqc ?_); (case zqa => omega); (case zqb => omega); (case zqc => omega) | (with_reducible refine orN 4 16 (by decide) ?zqa ?zqb ?zqc ?_); (case zqa => omega); (case zqb => omega); (case zqc => omega) | (with_reducible refine orN 6 64 (by decide) ?zqa ?zqb ?zqc ?_); (case zqa => omega); (case zqb => omega); (case zqc => omega)))
  k_with "call type:type" => ((with_reducible show wpAny _ _ (call _ [Value.bytes _ _]) _ _ _); refine call_type_of (Tx := "bytes") rfl (by decide +kernel) ?_)
  k_with "pyIter bytes" => ((with_reducible show wpAny _ _ (pyIter (Value.bytes _ _)) (fun it s₂ => LoopAtV _ _ _ _ _ _ _ _ _ it s₂) _ _); k_here; k_bytesUnr)
  k_with "call ref" => (k_here; (with_reducible show wpAny _ _ (call (Value.ref 119) _) _ _ _); k_dflt (refine' b64value_use ?zqk1 ?zqk2 ?zqk3 ?zqk4 ?zqk5 ?zqkA ?zqkF ?zqkK ?zqkd ?zqkp ?zqkq ?_; (case zqkA => exact rfl); (case zqkF => exact rfl); (case zqkK => exact rfl); (case zqk1 => k_asm); (case zqk2 => k_asm); (case zqk3 => k_asm); (case zqk4 => k_asm); (case zqk5 => k_asm); (case zqkd => k_room); (case zqkp => assumption); (case zqkq => assumption); k_whole); intro t' h' tk' F' N'; (try k_sweep))
  k_with "call type:bytes" => (k_here; (with_reducible show wpAny _ _ (call (Value.type "bytes") [Value.ref _]) _ _ _); k_dflt (refine' KBa.make_K ?zqkbaF ?zqkbaN ?zqkbah ?zqkbal ?zqkbai ?zqkbar ?zqkban ?_; (case zqkbaF => k_asm); (case zqkbaN => k_asm); (case zqkbah => rfl); (case zqkbal => exact News.isList (by k_asm) (by k_mem)); (case zqkbai => l_ints); (case zqkbar => exact in3 (by omega) (by omega) (by omega) (by omega) (by omega) (by omega)); (case zqkban => exact Nat.le_of_ble_eq_true rfl)); intro h' t' k' F' N' _hIn; (try k_sweep))
  k_with "compareOp Eq int int" => (k_here; (with_reducible show wpAny _ _ (compareOp _ (Value.int (sig _) _) _) _ _ _); (with_reducible refine eq_no ?zqa ?_); (case zqa => with_reducible assumption))
  have e1 := (bval_sig hi hi2).2
  have e2 := (bval_sig hj hj2).2
  have e3 := (bval_sig hk hk2).2
  have e4 := (bval_sig hl hl2).2
  refine' enterK H hown ?k6 ?k7 ?k8 ?k9 ?kB ?_ ?c5 ?c2 ?c3 ?c4
  case k6 => k_is
  case k7 => k_is
  case k8 => omega
  case k9 => first | exact BindsTo.of_eq rfl | exact binds_K (H.X.keeps H.keep) rfl (by k_is) rfl rfl rfl
  case kB => exact locs rfl
  case c5 => decide
  case c2 => exact rfl
  case c3 => exact rfl
  case c4 => exact rfl
  intro g' L' h' gE F' N' B' X' T'
  clear gE
  (try dsimp only)
  (try k_fold)
  k_steps
  all_goals (refine outB (by assumption) (by assumption) ?_)
  exact ⟨_, rfl⟩
end
end Mine
namespace Mine
/-- the end of a turn of a loop over a range that grows one list of ints -/
noncomputable def GrowPost (h₀ : Heap) (L : Addr) (m₀ : Str → Option Value) (x : Str) (stored : List Str) (G : Obj → Led) (own : Led) (ys : List Int) (s : Shared) (Q : Flow → Shared → Prop) (f : Flow) (s₂ : Shared) : Prop :=
  match f with
  | .ret v => Q (.ret v) s₂
  | .brk => Q .next s₂
  | _ => ∃ (vs : List Value) (n : Nat) (h' : Heap) (tk : Nat) (m' : Str → Option Value), s₂ = { s with heap := h', toks := tk } ∧ Fr h₀ L h' m' ∧ News h₀ L h' (G (W.listOf vs.toArray n) ++ own) ∧ (∀ z, z ≠ x → stored.contains z = false → m' z = m₀ z) ∧ IntsAre vs ys
theorem grow_end {h₀ : Heap} {L : Addr} {m₀ m' : Str → Option Value} {x : Str} {stored : List Str} {G : Obj → Led} {own : Led} {ys zs : List Int} {s : Shared} {Q : Flow → Shared → Prop} {vs : List Value} {n : Nat} {h' : Heap} {tk : Nat} (F : Fr h₀ L h' m') (N : News h₀ L h' (G (W.listOf vs.toArray n) ++ own)) (hi : IntsAre vs zs) (e : zs = ys)
    (hm : ∀ z, z ≠ x → stored.contains z = false → m' z = m₀ z) : GrowPost h₀ L m₀ x stored G own ys s Q .next { s with heap := h', toks := tk } := ⟨vs, n, h', tk, m', rfl, F, N, hm, e ▸ hi⟩

theorem updF_adr {d : Addr} {o : Obj} : ∀ {l : Led} {G : Obj → Led}, UpdF d o l G → ∀ o', (G o').map (·.1) = l.map (·.1)
  | _, _, .head _, _ => rfl
  | _, _, .tail _ r, o' => by rw [List.map_cons, List.map_cons, updF_adr r o']
theorem updF_self {d : Addr} {o : Obj} : ∀ {l : Led} {G : Obj → Led}, UpdF d o l G → G o = l
  | _, _, .head _ => rfl
  | _, _, .tail _ r => congrArg (_ :: ·) (updF_self r)
theorem flat_len {f : Int → List Int} {c : Nat} (hc : ∀ k, (f k).length ≤ c) : ∀ pre : List Int, (pre.flatMap f).length ≤ c * pre.length
  | [] => Nat.le_refl _
  | k :: r => by
    rw [List.flatMap_cons, List.length_append, List.length_cons, Nat.mul_add, Nat.mul_one]
    have h1 := hc k
    have h2 := flat_len hc r
    omega
theorem grow_range {prog : Program} {w : World} {A : Around} {E : Value → Shared → Prop} {s : Shared} {env : Env} {h₀ : Heap} {x : Str} {body : List Stmt} {Q : Flow → Shared → Prop} {r : Addr} {b₀ : Int} {t₀ u₀ v₀ : Tok} {m₀ : Str → Option Value} {news : Led} {G : Obj → Led} {l : Addr} {vs : List Value} {xs : List Int} {nL : Nat}
    (n : Nat) (c : Nat) (stored : List Str) (f : Int → List Int) (hh : A.handled = none) (hr : IsRange s.heap r 0 b₀ 1 t₀ u₀ v₀) (hb₀ : b₀ = (n : Int)) (hn : n ≤ 1000) (F : Fr h₀ env.locals s.heap m₀) (N : News h₀ env.locals s.heap news) (U : UpdF l (W.listOf vs.toArray nL) news G) (hi : IntsAre vs xs)
    (hc : ∀ k, (f k).length ≤ c) (hM : xs.length + c * n ≤ 5000)
    (turn : ∀ (vs' : List Value) (xs' : List Int) (n' : Nat) (k : Int) t (u : Str → Option Value) h tk own, 0 ≤ k → k < (n : Int) → OwnOff own (news.map (·.1)) → IntsAre vs' xs' → xs'.length + c ≤ 5000 →
      Fr h₀ env.locals h (fun y => if y = x then some (.int k t) else if stored.contains y then u y else m₀ y) → News h₀ env.locals h (G (W.listOf vs'.toArray n') ++ own) →
      wpAny (model prog w) A (execs body env) (GrowPost h₀ env.locals m₀ x stored G own (xs' ++ f k) { s with heap := h, toks := tk } Q) E { s with heap := h, toks := tk })
    (done : ∀ (vs' : List Value) (n' : Nat) (u : Str → Option Value) h tk, IntsAre vs' (xs ++ (rangeKs 0 n).flatMap f) → (xs ++ (rangeKs 0 n).flatMap f).length ≤ xs.length + c * n → Fr h₀ env.locals h (fun y => if y = x then u y else if stored.contains y then u y else m₀ y) → News h₀ env.locals h (G (W.listOf vs'.toArray n')) → Q .next { s with heap := h, toks := tk }) :
    wpAny (model prog w) A (pyIter (.ref r)) (fun it s₂ => LoopAtV prog w A h₀ env x body Q E it s₂) E s := by
  subst hb₀
  have hrange : Builtin.Range.rangeSize 0 (n : Int) 1 = (n : Int) := by simpa using rangeSize_nat 0 n
  refine kst_range (σ := List Value × List Int × Nat) (n := n) (fun c => G (W.listOf c.1.toArray c.2.2)) (fun _ => []) (fun c => IntsAre c.1 c.2.1) stored (fun pre c => c.2.1 = xs ++ pre.flatMap f) (vs, xs, nL) hh hr ?_ hrange F ?_ hi (fun _ h => nomatch h) (by simp) ?_ ?_
  · exact small_one (by omega) (by omega) (by omega) (by omega)
  · show News h₀ env.locals s.heap (G (W.listOf vs.toArray nL))
    rw [updF_self U]; exact N
  · rintro ⟨vs', xs', n'⟩ pre k t u h tk own hk hpre hoff hfa hp F₁ N₁
    dsimp only at hfa hp F₁ N₁ hoff
    have hl := flat_len hc pre
    have hmul : c * (pre.length + 1) ≤ c * n := Nat.mul_le_mul_left c hpre
    rw [Nat.mul_add, Nat.mul_one] at hmul
    have hx' : xs'.length + c ≤ 5000 := by rw [hp, List.length_append]; omega
    refine wpAny_mono (turn vs' xs' n' k t u h tk own (by omega) (by omega) ?_ hfa hx' F₁ N₁) (fun fl s₂ q => ?_) fun _ _ e => e
    · have e := updF_adr U (W.listOf vs.toArray nL)
      rw [← e]; exact hoff
    · have fin : (∃ (vs : List Value) (n : Nat) (h' : Heap) (tk' : Nat) (m' : Str → Option Value), s₂ = { s with heap := h', toks := tk' } ∧ Fr h₀ env.locals h' m' ∧ News h₀ env.locals h' (G (W.listOf vs.toArray n) ++ own) ∧ (∀ z, z ≠ x → stored.contains z = false → m' z = m₀ z) ∧ IntsAre vs (xs' ++ f k)) →
          InvEndN h₀ env.locals (KstS (fun c : List Value × List Int × Nat => G (W.listOf c.1.toArray c.2.2)) (fun _ => []) (fun c => IntsAre c.1 c.2.1) x stored m₀ (fun pre c => c.2.1 = xs ++ pre.flatMap f) (pre ++ [k])) own ((G (W.listOf vs.toArray nL)).map (·.1)) { s with heap := h, toks := tk } s₂ := by
        rintro ⟨vs2, n2, h2, tk2, m2, rfl, F2, N2, hm2, hi2⟩
        refine ⟨h2, tk2, m2, G (W.listOf vs2.toArray n2) ++ own, G (W.listOf vs2.toArray n2), rfl, F2, N2, fun p hp => List.mem_append_left _ hp, fun p hp => List.mem_append_right _ hp, ?_, ⟨(vs2, xs' ++ f k, n2), rfl, hi2, (fun _ h => nomatch h), fun z h1 _ h3 => hm2 z h1 h3, ?_⟩⟩
        · rw [updF_adr U, updF_adr U]
        · show xs' ++ f k = xs ++ (pre ++ [k]).flatMap f
          rw [hp, List.flatMap_append, List.append_assoc]
          simp
      cases fl with
      | ret v => exact q
      | brk => exact q
      | next => exact fin q
      | cont => exact fin q
  · rintro ⟨vs', xs', n'⟩ u h tk hfa hp F₁ N₁
    dsimp only at hfa hp F₁ N₁
    have hl := flat_len hc (rangeKs 0 n)
    rw [rangeKs_length] at hl
    subst hp
    exact done vs' n' u h tk hfa (by rw [List.length_append]; omega) F₁ N₁
end Mine
namespace Mine
local macro_rules | `(tactic| walk_at $s:str) => `(tactic| k_extra $s)
local macro_rules | `(tactic| k_room) => `(tactic| k_extra "k_room")
noncomputable def lval (c : Int) : Int := if 65 ≤ c ∧ c ≤ 90 then c - 65 else if 97 ≤ c ∧ c ≤ 122 then c - 71 else if 48 ≤ c ∧ c ≤ 57 then c + 4 else if c = 43 then 62 else if c = 47 then 63 else -1
theorem lval_nat : ∀ n : Nat, n < 64 → lval (sig (n : Int)) = (n : Int) := by decide +kernel
theorem lval_sig {i : Int} (h0 : 0 ≤ i) (h1 : i < 64) : lval (sig i) = i := by
  obtain ⟨n, rfl⟩ := Int.eq_ofNat_of_zero_le h0
  exact lval_nat n (by omega)
/-- the places of a figure's ones, of the bits pre -/
noncomputable def tb (fig k : Int) (pre : List Int) : List Int := (pre.filter fun b => decide (fig / 2 ^ b.toNat % 2 = 1)).map fun b => 6 * k + b
theorem tb_app (fig k b : Int) (pre : List Int) : tb fig k (pre ++ [b]) = tb fig k pre ++ (if fig / 2 ^ b.toNat % 2 = 1 then [6 * k + b] else []) := by
  unfold tb
  rw [List.filter_append, List.map_append]
  congr 1
  by_cases h : fig / 2 ^ b.toNat % 2 = 1 <;> simp [List.filter, h]
section
theorem figure_c {w : World} {p : Program} {loose : List Str} {mean : ExcName → Option Value} {mg mb : Str → Option Value} {dp un : Nat} {gd : Option (List Code)} {outer : List Env} {base h₀ : Heap} {s : Shared}
    {c : Int} {tc : Tok} (hd1 : dp + 5 < recursionLimit)
    (H : Here (hd.heap_1 w.params) p loose mean mg mb base outer h₀ s.heap) (hown : ∀ q ∈ ([] : Led), s.heap.get? q.1 = some q.2 ∧ h₀.get? q.1 = none) :
    codeAny (model PR w) (arnd dp un gd outer) (.call (.ref 177) ⟨[.int c tc], []⟩) (OutR s [] fun v news' => ∃ t, v = .int (lval c) t) s := by
  w_on; k_with_none; revert H; unfold PR; k_fill; intro H
  k_with "k_room" => ((try simp only [depth_under_make, depth_under_kw, depth_in1, depth_deeper, depth_caller]); (try dsimp only); omega)
  refine' enterK H hown ?k6 ?k7 ?k8 ?k9 ?kB ?_ ?c5 ?c2 ?c3 ?c4
  case k6 => k_is
  case k7 => k_is
  case k8 => omega
  case k9 => first | exact BindsTo.of_eq rfl | exact binds_K (H.X.keeps H.keep) rfl (by k_is) rfl rfl rfl
  case kB => exact locs rfl
  case c5 => decide
  case c2 => exact rfl
  case c3 => exact rfl
  case c4 => exact rfl
  intro g' L' h' gE F' N' B' X' T'
  clear gE
  (try dsimp only)
  (try k_fold)
  k_steps
  all_goals (try dsimp only)
  k_steps
  all_goals (refine outB (by assumption) (by assumption) ?_)
  all_goals exact ⟨_, int_eq (by unfold lval; repeat' split <;> omega)⟩
end
theorem figure_use {w : World} {p : Program} {loose : List Str} {mean : ExcName → Option Value} {mg mb : Str → Option Value} {A₀ A : Around} {env : Env} {L : Addr} {m : Str → Option Value} {news : Led} {dp un : Nat} {gd : Option (List Code)} {outer : List Env} {base h₀ : Heap} {s : Shared} {Q E : Value → Shared → Prop}
    {c i : Int} {tc : Tok} (B : Below A₀ base outer h₀) (F : Fr h₀ L s.heap m) (X : (hd.heap_1 w.params).In h₀) (N : News h₀ L s.heap news) (T : Top p loose mean mg mb h₀) (hA : A = arnd dp un gd (env :: outer)) (hf : env.frame = some L) (hke : env.scope.kind = .function)
    (hd1 : dp + 5 < recursionLimit) (hc : c = sig i) (h0 : 0 ≤ i) (h1 : i < 64)
    (ret : ∀ t h' tk', Fr h₀ L h' m → News h₀ L h' news → Q (.int i t) { s with heap := h', toks := tk' }) :
    wpAny (model PR w) A (call (.ref 177) [.int c tc]) Q E s := by
  refine useO (own := []) B F X N T hA hf hke (fun q hq => nomatch hq) (fun g H ho => figure_c hd1 H ho) ?_
  rintro v h' tk news' F' K' N' ne ⟨t, rfl⟩
  rw [hc, lval_sig h0 h1]
  exact ret t h' tk F' fun q hq => ⟨K' q hq (fun e => nomatch e), (N q hq).2⟩
section
variable {prog : Program} {w : World} {A : Around} {E : Value → Shared → Prop} {s : Shared} {a b : Int} {t u : Tok} {Q : Value → Shared → Prop}
theorem powS (hb : 0 ≤ b) (hb2 : b ≤ 1000) (h : Q (.int (2 ^ b.toNat) s.toks) { s with toks := s.toks + 1 }) : wpAny (model prog w) A (binaryOp .Pow (.int 2 t) (.int b u)) Q E s := pow_int_small hb (by omega) (by decide) h
theorem fdivS {k : Nat} (hk : k ≤ 1000) (h : Q (.int (a / 2 ^ k) s.toks) { s with toks := s.toks + 1 }) : wpAny (model prog w) A (binaryOp .FloorDiv (.int a t) (.int (2 ^ k) u)) Q E s := by
  have hp : (0 : Int) < 2 ^ k := Int.pow_pos (by decide)
  refine floordiv_int (by omega) ?_ (Or.inl (PyProof.noPylong_of_log2 ?_))
  · rw [Int.fdiv_eq_ediv_of_nonneg _ (by omega)]
    exact h
  · rw [Int.natAbs_pow, show (2 : Int).natAbs = 2 from rfl, Nat.log2_two_pow]
    omega
theorem mod2 (h : Q (.int (a % 2) s.toks) { s with toks := s.toks + 1 }) : wpAny (model prog w) A (binaryOp .Mod (.int a t) (.int 2 u)) Q E s := by
  refine mod_int' (by decide) ?_
  rw [Int.fmod_eq_emod_of_nonneg _ (by decide)]
  exact h
end
theorem getD_map {figs : List Int} {n : Nat} (h : n < figs.length) : (figs.map sig).getD n 0 = sig (figs.getD n 0) := by simp [List.getD, h]
theorem getD_all {figs : List Int} {n : Nat} {P : Int → Prop} (h : n < figs.length) (hP : ∀ f ∈ figs, P f) : P (figs.getD n 0) := by
  have e : figs.getD n 0 = figs[n] := by simp [List.getD, h]
  rw [e]
  exact hP _ (List.getElem_mem h)
section
variable {prog : Program} {w : World} {A : Around} {E : Value → Shared → Prop} {s : Shared} {b : Array UInt8} {figs : List Int} {i : Int} {t ui : Tok} {value slice : Expr} {Q : Value → Shared → Prop}
theorem itemF (hk : KBw.bInts b = figs.map sig) (hl : figs.length = 4) (hr : ∀ f ∈ figs, 0 ≤ f ∧ f < 64) (h0 : 0 ≤ i) (h1 : i < 4) (h : ∀ t' k, 0 ≤ figs.getD i.toNat 0 → figs.getD i.toNat 0 < 64 → Q (.int (sig (figs.getD i.toNat 0)) t') { s with toks := k })
    (hs : subscripted slice false (.bytes b t) (.int i ui) = operate [.bytes b t, .int i ui] (getItem (.bytes b t) (.int i ui)) := by with_unfolding_all rfl)
    (ht : ∀ r, letTemporaryGo value (.bytes b t) r = pure () := by intro _; with_unfolding_all rfl) : wpAny (model prog w) A (subscriptTail value slice (.bytes b t) (.int i ui)) Q E s := by
  have hn : i.toNat < figs.length := by omega
  refine KBw.item_K hk (by rw [List.length_map, hl]; decide) h0 (by rw [List.length_map]; omega) (fun t' k _ _ => ?_) hs ht
  rw [getD_map hn]
  exact h t' k (getD_all hn hr).1 (getD_all hn hr).2
theorem lenF (hk : KBw.bInts b = figs.map sig) (hl : figs.length = 4) (h : Q (.int 4 (s.toks + 1)) { s with toks := s.toks + 1 + 1 }) :
    wpAny (model prog w) A (call (.builtin "len") [.bytes b t]) Q E s := KBw.len_K hk (by rw [List.length_map, hl]; decide) (by rw [List.length_map, hl]; exact h)
end
/-- the places told of the figures, the last first -/
noncomputable def ot (figs pre : List Int) : List Int := pre.flatMap fun k => (rangeKs 0 6).flatMap fun b => if figs.getD (4 - 1 - k).toNat 0 / 2 ^ b.toNat % 2 = 1 then [6 * k + b] else []
theorem one_le {c : Prop} [Decidable c] {v : Int} : (if c then [v] else []).length ≤ 1 := by split <;> simp
theorem six_le {fig k : Int} : ((rangeKs 0 6).flatMap fun b => if fig / 2 ^ b.toNat % 2 = 1 then [6 * k + b] else []).length ≤ 6 := by
  have := flat_len (f := fun b => if fig / 2 ^ b.toNat % 2 = 1 then [6 * k + b] else []) (c := 1) (fun _ => one_le) (rangeKs 0 6)
  rw [rangeKs_length] at this
  omega
theorem yes_app {xs : List Int} {c : Prop} [Decidable c] {v : Int} (h : c) : xs ++ [v] = xs ++ (if c then [v] else []) := by rw [if_pos h]
theorem no_app {xs : List Int} {c : Prop} [Decidable c] {v : Int} (h : ¬ c) : xs = xs ++ (if c then [v] else []) := by rw [if_neg h, List.append_nil]
theorem upd_two {l : Addr} {o : Obj} {own own2 : Led} {a1 a2 : List Addr} (h1 : OwnOff own a1) (m1 : l ∈ a1) (h2 : OwnOff own2 a2) (m2 : l ∈ a2) : UpdF l o ((l, o) :: (own ++ own2)) (fun o' => (l, o') :: (own ++ own2)) :=
  .head fun p hp => (List.mem_append.mp hp).elim (fun h => h1 p h l m1) (fun h => h2 p h l m2)
noncomputable def StopB (P : Prop) : Prop := P
theorem stopB {P : Prop} (h : StopB P) : P := h
theorem grow_b {prog : Program} {w : World} {A : Around} {E : Value → Shared → Prop} {s : Shared} {env : Env} {h₀ : Heap} {x : Str} {body : List Stmt} {Q : Flow → Shared → Prop} {r : Addr} {t₀ u₀ v₀ : Tok} {m₀ : Str → Option Value} {news : Led} {G : Obj → Led} {l : Addr} {vs : List Value} {xs : List Int} {nL : Nat} {fig kk : Int} {t1 t2 : Tok}
    (_hf : m₀ "figure" = some (.int fig t1)) (_hk : m₀ "k" = some (.int kk t2)) (hh : A.handled = none) (hr : IsRange s.heap r 0 6 1 t₀ u₀ v₀) (F : Fr h₀ env.locals s.heap m₀) (N : News h₀ env.locals s.heap news) (U : UpdF l (W.listOf vs.toArray nL) news G) (hi : IntsAre vs xs) (hM : xs.length + 1 * 6 ≤ 5000)
    (turn : ∀ (vs' : List Value) (xs' : List Int) (n' : Nat) (k : Int) t (u : Str → Option Value) h tk own, 0 ≤ k → k < 6 → OwnOff own (news.map (·.1)) → IntsAre vs' xs' → xs'.length + 1 ≤ 5000 →
      Fr h₀ env.locals h (fun y => if y = x then some (.int k t) else m₀ y) → News h₀ env.locals h (G (W.listOf vs'.toArray n') ++ own) →
      wpAny (model prog w) A (execs body env) (GrowPost h₀ env.locals m₀ x [] G own (xs' ++ if fig / 2 ^ k.toNat % 2 = 1 then [6 * kk + k] else []) { s with heap := h, toks := tk } Q) E { s with heap := h, toks := tk })
    (done : ∀ (vs' : List Value) (n' : Nat) (u : Str → Option Value) h tk, IntsAre vs' (xs ++ (rangeKs 0 6).flatMap fun b => if fig / 2 ^ b.toNat % 2 = 1 then [6 * kk + b] else []) → (xs ++ (rangeKs 0 6).flatMap fun b => if fig / 2 ^ b.toNat % 2 = 1 then [6 * kk + b] else []).length ≤ xs.length + 1 * 6 → Fr h₀ env.locals h (fun y => if y = x then u y else m₀ y) → News h₀ env.locals h (G (W.listOf vs'.toArray n')) → Q .next { s with heap := h, toks := tk }) :
    wpAny (model prog w) A (pyIter (.ref r)) (fun it s₂ => LoopAtV prog w A h₀ env x body Q E it s₂) E s :=
  grow_range 6 1 [] (fun b => if fig / 2 ^ b.toNat % 2 = 1 then [6 * kk + b] else []) hh hr rfl (by decide) F N U hi (fun _ => one_le) hM turn done
section
theorem told_c {w : World} {p : Program} {loose : List Str} {mean : ExcName → Option Value} {mg mb : Str → Option Value} {dp un : Nat} {gd : Option (List Code)} {outer : List Env} {base h₀ : Heap} {s : Shared}
    {b : Array UInt8} {figs : List Int} {tb' : Tok} (hd1 : dp + 20 < recursionLimit)
    (H : Here (hd.heap_1 w.params) p loose mean mg mb base outer h₀ s.heap) (hown : ∀ q ∈ ([] : Led), s.heap.get? q.1 = some q.2 ∧ h₀.get? q.1 = none)
    (hb : KBw.bInts b = figs.map sig) (hl : figs.length = 4) (hr : ∀ f ∈ figs, 0 ≤ f ∧ f < 64) :
    codeAny (model PR w) (arnd dp un gd outer) (.call (.ref 184) ⟨[.bytes b tb'], []⟩)
      (OutR s [] fun v news' => ∃ a vs n, v = .ref a ∧ (a, W.listOf (List.toArray vs) n) ∈ news' ∧ IntsAre vs (ot figs (rangeKs 0 4))) s := by
  w_on; k_with_none; revert H; unfold PR; k_fill; intro H
  k_with "k_room" => ((try simp only [depth_under_make, depth_under_kw, depth_in1, depth_deeper, depth_caller]); (try dsimp only); omega)
  k_with "call builtin:list.append" => (k_here; (show wpAny _ _ (call (Value.builtin _) [Value.ref _, Value.int _ _]) _ _ _); k_dflt (refine' append_ints ?zqk1 ?zqk2 ?zqkU ?zqkI ?zqz ?_; (case zqk1 => k_asm); (case zqk2 => k_asm); (case zqkU => first | k_updF | exact upd_two (by assumption) (.head _) (by assumption) (.head _)); (case zqkI => l_ints); (case zqz => omega); k_whole); intro h' F' N' hI'; (try dsimp only at N'); (try k_sweep))
  k_with "call ref" => (k_here; (with_reducible show wpAny _ _ (call (Value.ref 177) _) _ _ _); k_dflt (refine' figure_use ?zqk1 ?zqk2 ?zqk3 ?zqk4 ?zqk5 ?zqkA ?zqkF ?zqkK ?zqkd ?zqkc ?zqkp ?zqkq ?_; (case zqkA => exact rfl); (case zqkF => exact rfl); (case zqkK => exact rfl); (case zqk1 => k_asm); (case zqk2 => k_asm); (case zqk3 => k_asm); (case zqk4 => k_asm); (case zqk5 => k_asm); (case zqkd => k_room); (case zqkc => exact rfl); (case zqkp => assumption); (case zqkq => assumption); k_whole); intro t' h' tk' F' N'; (try k_sweep))
  k_with "call builtin:len" => (k_here; (with_reducible show wpAny _ _ (call (Value.builtin "len") [Value.bytes _ _]) _ _ _); (refine lenF (by assumption) (by assumption) ?_))
  k_with "subscriptTail" => (k_here; (with_reducible show wpAny _ _ (subscriptTail _ _ (Value.bytes _ _) (Value.int _ _)) _ _ _); (refine' itemF ?zqe ?zql ?zqr ?zqa ?zqb ?_ ?zqf ?zqg; (case zqe => assumption); (case zql => assumption); (case zqr => assumption); (case zqa => omega); (case zqb => omega); (case zqf => with_unfolding_all rfl); (case zqg => intro _; with_unfolding_all rfl)); intro _ _ hG0 hG1)
  k_with "binaryOp Pow int int" => (k_here; (with_reducible refine powS ?zqa ?zqb ?_); (case zqa => omega); (case zqb => omega))
  k_with "binaryOp FloorDiv int int" => (k_here; (with_reducible refine fdivS ?zqa ?_); (case zqa => omega))
  k_with "binaryOp Mod int int" => (k_here; (with_reducible refine mod2 ?_))
  k_with "GrowPost" => first | exact grow_end (by assumption) (by assumption) (by assumption) (yes_app (by assumption)) (by ksw_same) | exact grow_end (by assumption) (by assumption) (by assumption) (no_app (by assumption)) (by ksw_same) | exact grow_end (by assumption) (by assumption) (by assumption) rfl (by ksw_same)
  refine' enterK H hown ?k6 ?k7 ?k8 ?k9 ?kB ?_ ?c5 ?c2 ?c3 ?c4
  case k6 => k_is
  case k7 => k_is
  case k8 => omega
  case k9 => first | exact BindsTo.of_eq rfl | exact binds_K (H.X.keeps H.keep) rfl (by k_is) rfl rfl rfl
  case kB => exact locs rfl
  case c5 => decide
  case c2 => exact rfl
  case c3 => exact rfl
  case c4 => exact rfl
  intro g' L' h' gE F' N' B' X' T'
  clear gE
  (try dsimp only)
  (try k_fold)
  k_with "pyIter ref" => first | (k_of "k" => (k_here; (rename Fr _ _ _ _ => lF'); (rename News _ _ _ _ => lN'); (rename IsRange _ _ _ _ _ _ _ _ => rgX); k_dflt (refine' grow_range 4 6 ["figure", "b"] (fun k => (rangeKs 0 6).flatMap fun b => if figs.getD (4 - 1 - k).toNat 0 / 2 ^ b.toNat % 2 = 1 then [6 * k + b] else []) rfl rgX rfl (by decide) lF' lN' ?kU ?kI (fun k => six_le (fig := figs.getD (4 - 1 - k).toNat 0) (k := k)) ?kM ?kT ?kD); (case kU => k_updF); (case kI => first | l_ints | exact IntsAre.nil); (case kM => ((try simp only [List.length_nil]); omega)); (case' kT => (intro vs' xs' n' k' t' u' h' tk' own' hk0 hk1 hoff' hI' hLn' F' N')); (case' kD => (intro vs' n' u' h' tk' hI' hLn' F' N')); (all_goals (try clear lF' lN')); (all_goals (try dsimp only at N')); (all_goals (try simp only [List.cons_append, List.nil_append] at N')); (all_goals (try k_fold)))) | (k_of "b" => (k_here; refine stopB ?_))
  k_steps
  · dsimp only
    refine outB (by assumption) (by assumption) ?_
    exact ⟨_, _, _, rfl, by k_mem, ints_as hI' rfl⟩
  · unfold StopB
    ((rename Fr _ _ _ _ => lF'); (rename News _ _ _ _ => lN'); (rename IsRange _ _ _ _ _ _ _ _ => rgX); k_dflt (refine' grow_b ?jf ?jk rfl rgX lF' lN' ?jU ?jI ?jM ?jT ?jD; (case jf => exact rfl); (case jk => exact rfl)); (case jU => k_updF); (case jI => first | l_ints | exact IntsAre.nil); (case jM => ((try simp only [List.length_nil]); omega)); (case' jT => (intro vs' xs' n' k' t' u' h' tk' own' hk0 hk1 hoff' hI' hLn' F' N')); (case' jD => (intro vs' n' u' h' tk' hI' hLn' F' N')); (all_goals (try clear lF' lN')); (all_goals (try dsimp only at N')); (all_goals (try simp only [List.cons_append, List.nil_append] at N')); (all_goals (try k_fold)))
    all_goals k_steps
end
end Mine
namespace Mine
/-- the end of a turn of a loop over a range whose ledger is Led of a letter -/
noncomputable def TrnPost {σ : Type} (h₀ : Heap) (L : Addr) (m₀ : Str → Option Value) (stored : List Str) (LedOf : σ → Led) (P : Nat → σ → Prop) (i : Nat) (own : Led) (s : Shared) (Q : Flow → Shared → Prop) (f : Flow) (s₂ : Shared) : Prop :=
  match f with
  | .ret v => Q (.ret v) s₂
  | .brk => Q .next s₂
  | _ => ∃ (c : σ) (h' : Heap) (tk : Nat) (m' : Str → Option Value), s₂ = { s with heap := h', toks := tk } ∧ Fr h₀ L h' m' ∧ News h₀ L h' (LedOf c ++ own) ∧ (∀ z, stored.contains z = false → m' z = m₀ z) ∧ P (i + 1) c
theorem trn_end {σ : Type} {h₀ : Heap} {L : Addr} {m₀ m' : Str → Option Value} {stored : List Str} {LedOf : σ → Led} {P : Nat → σ → Prop} {i : Nat} {own news : Led} {s : Shared} {Q : Flow → Shared → Prop} {h' : Heap} {tk : Nat} (c : σ) (F : Fr h₀ L h' m') (N : News h₀ L h' news) (hs : ∀ q ∈ LedOf c ++ own, q ∈ news)
    (hm : ∀ z, stored.contains z = false → m' z = m₀ z) (hp : P (i + 1) c) : TrnPost h₀ L m₀ stored LedOf P i own s Q .next { s with heap := h', toks := tk } := ⟨c, h', tk, m', rfl, F, fun q hq => N q (hs q hq), hm, hp⟩
theorem trn_range {σ : Type} {prog : Program} {w : World} {A : Around} {E : Value → Shared → Prop} {s : Shared} {env : Env} {h₀ : Heap} {x : Str} {px : Pos} {body : List Stmt} {Q : Flow → Shared → Prop} {r : Addr} {b₀ : Int} {t₀ u₀ v₀ : Tok} {m₀ : Str → Option Value}
    (n : Nat) (stored : List Str) (LedOf : σ → Led) (P : Nat → σ → Prop) (c₀ : σ) (hh : A.handled = none) (hr : IsRange s.heap r 0 b₀ 1 t₀ u₀ v₀) (hb₀ : b₀ = (n : Int)) (hn : n ≤ 1000) (F : Fr h₀ env.locals s.heap m₀) (N : News h₀ env.locals s.heap (LedOf c₀))
    (hadr : ∀ c, (LedOf c).map (·.1) = (LedOf c₀).map (·.1)) (hp : P 0 c₀)
    (turn : ∀ (c : σ) (i : Nat) t (u : Str → Option Value) h tk own, i < n → OwnOff own ((LedOf c₀).map (·.1)) → P i c →
      Fr h₀ env.locals h (fun y => if stored.contains y then u y else m₀ y) → News h₀ env.locals h (LedOf c ++ own) →
      wpAny (model prog w) A (assign (.Name x px) env (.int (i : Int) t)) (fun _ s₃ => wpAny (model prog w) A (execs body env) (TrnPost h₀ env.locals m₀ stored LedOf P i own { s with heap := h, toks := tk } Q) E s₃) E { s with heap := h, toks := tk })
    (done : ∀ (c : σ) (u : Str → Option Value) h tk, P n c → Fr h₀ env.locals h (fun y => if stored.contains y then u y else m₀ y) → News h₀ env.locals h (LedOf c) → Q .next { s with heap := h, toks := tk }) :
    wpAny (model prog w) A (pyIter (.ref r)) (fun it s₂ => TurnsAt prog w A h₀ env (.Name x px) body Q E it s₂) E s := by
  subst hb₀
  have hrange : Builtin.Range.rangeSize 0 (n : Int) 1 = (n : Int) := by simpa using rangeSize_nat 0 n
  refine wpAny_pyIter_range hr (small_one (by omega) (by omega) (by omega) (by omega)) ?_
  have W : Walks prog w A s.heap.objs.size [s.heap.objs.size] [s.heap.objs.size] n (fun i v => i < n ∧ ∃ t, v = .int (0 + i * 1) t)
      (fun i h => IsRangeIter h s.heap.objs.size (0 + (i : Nat) * 1) ((n : Int) - (i : Nat)) 1) := (Walks.range hh _ 0 1 n).bound
  have hlt : ∀ b ∈ (LedOf c₀).map (·.1), b < s.heap.objs.size := fun b hb => by
    obtain ⟨q, hq, rfl⟩ := List.mem_map.mp hb
    exact Heap.lt_size (N q hq).1
  have frU : ∀ {h : Heap} {m₁ : Str → Option Value}, (∀ z, stored.contains z = false → m₁ z = m₀ z) → Fr h₀ env.locals h m₁ → Fr h₀ env.locals h (fun y => if stored.contains y then m₁ y else m₀ y) := by
    intro h m₁ hm F₁
    have e : (fun y => if stored.contains y then m₁ y else m₀ y) = m₁ := by
      funext y
      by_cases hc : stored.contains y = true
      · rw [if_pos hc]
      · rw [if_neg hc, hm y (by simpa using hc)]
    rw [e]; exact F₁
  refine ⟨_, _, _, n, _, _, _, m₀, LedOf c₀, fun i m nx => ∃ c, nx = LedOf c ∧ (∀ z, stored.contains z = false → m z = m₀ z) ∧ P i c, rfl, KTurns.ofWalks W (fun i v s Q E _ q => wpAny_pure q), ?_, ?_, ?_, ?_, F.push _, (fun p hp => ⟨Heap.get?_push_of_some _ (N p hp).1, (N p hp).2⟩), ⟨c₀, rfl, fun _ _ => rfl, hp⟩, ?_, ?_⟩
  · intro hm
    exact absurd F.ns.lt ((List.mem_singleton.mp hm) ▸ Nat.lt_irrefl _)
  · intro b hb
    rw [List.mem_singleton.mp hb]
    exact next_is_new F
  · intro p hp hI
    exact absurd (Heap.lt_size (N p hp).1) ((List.mem_singleton.mp hI) ▸ Nat.lt_irrefl _)
  · show IsRangeIter _ _ _ _ _
    rw [hrange]; simpa using Heap.get?_push_size _ rfl
  · rintro i v m₁ news₁ h₁ tk₁ own hi ⟨_, t, rfl⟩ ⟨c, rfl, hm, hP⟩ hnw hown _ _ _ F₁ N₁
    have e1 : (0 : Int) + (i : Int) * 1 = (i : Int) := by omega
    rw [e1]
    have hoff : OwnOff own ((LedOf c₀).map (·.1)) := fun q hq b hb e => by
      have h1 := List.mem_singleton.mp (hown q hq)
      have h2 := hlt b hb
      rw [← e, h1] at h2
      exact Nat.lt_irrefl _ h2
    refine wpAny_mono (turn c i t m₁ h₁ tk₁ own hi hoff hP (frU hm F₁) (fun q hq => N₁ q (by rcases List.mem_append.mp hq with h | h; exact List.mem_append_right _ h; exact List.mem_append_left _ h))) (fun _ s₃ h => wpAny_mono h (fun f s₄ hq => ?_) fun _ _ e => e) fun _ _ e => e
    have fin : (∃ (c : σ) (h' : Heap) (tk : Nat) (m' : Str → Option Value), s₄ = { s with heap := h', toks := tk } ∧ Fr h₀ env.locals h' m' ∧ News h₀ env.locals h' (LedOf c ++ own) ∧ (∀ z, stored.contains z = false → m' z = m₀ z) ∧ P (i + 1) c) →
        LoopStepU h₀ env.locals [s.heap.objs.size] own (fun m nx => ∃ c, nx = LedOf c ∧ (∀ z, stored.contains z = false → m z = m₀ z) ∧ P (i + 1) c) { s with heap := h₁, toks := tk₁ } .next s₄ := by
      rintro ⟨c2, h2, tk2, m2, rfl, F2, N2, hm2, hp2⟩
      refine ⟨rfl, h2, tk2, m2, LedOf c2, rfl, F2, (fun q hq => N2 q (by rcases List.mem_append.mp hq with h | h; exact List.mem_append_right _ h; exact List.mem_append_left _ h)), fun q hq hI => ?_, c2, rfl, hm2, hp2⟩
      have h1 := hlt q.1 (by rw [← hadr c2]; exact List.mem_map_of_mem hq)
      rw [List.mem_singleton.mp hI] at h1
      exact Nat.lt_irrefl _ h1
    cases f with
    | ret v => exact hq
    | brk => exact hq
    | next => exact fin hq
    | cont => exact fin hq
  · rintro h' tk m' news' F₁ N₁ _ ⟨c, rfl, hm, hP⟩
    exact done c m' h' tk hP (frU hm F₁) N₁
end Mine
namespace Mine
local macro_rules | `(tactic| walk_at $s:str) => `(tactic| k_extra $s)
local macro_rules | `(tactic| k_room) => `(tactic| k_extra "k_room")
/-- what lies at place p and below, as powers -/
noncomputable def pows (xs : List Int) (p : Int) : List Int := (xs.filter fun x => decide (x ≤ p)).map fun x => 2 ^ x.toNat
noncomputable def bel (xs : List Int) (p : Int) : Int := (pows xs p).sum
noncomputable def dueAt (xs : List Int) (p : Int) : List Int := List.replicate (bel xs p / 2 ^ (p + 1).toNat).toNat p
noncomputable def dueJ (xs : List Int) : List Int := (rangeKs 0 20).flatMap (dueAt xs)
theorem pow_le_pow {a b : Nat} (h : a ≤ b) : (2 : Int) ^ a ≤ 2 ^ b := by
  have := Nat.pow_le_pow_right (show 0 < 2 by decide) h
  exact_mod_cast this
theorem bel_bound {p : Int} : ∀ {xs : List Int}, (∀ x ∈ xs, 0 ≤ x) → 0 ≤ bel xs p ∧ bel xs p ≤ xs.length * 2 ^ p.toNat
  | [], _ => ⟨Int.le_refl _, by simp [bel, pows]⟩
  | x :: r, h => by
    obtain ⟨i1, i2⟩ := bel_bound (p := p) (xs := r) fun y hy => h y (.tail _ hy)
    have hx := h x (.head _)
    have hp : (0 : Int) < 2 ^ p.toNat := Int.pow_pos (by decide)
    have e : ((x :: r).length : Int) * 2 ^ p.toNat = (r.length : Int) * 2 ^ p.toNat + 2 ^ p.toNat := by rw [List.length_cons]; push_cast; rw [Int.add_mul, Int.one_mul]
    by_cases hc : x ≤ p
    · have e2 : bel (x :: r) p = 2 ^ x.toNat + bel r p := by simp [bel, pows, List.filter, hc]
      have hq : (2 : Int) ^ x.toNat ≤ 2 ^ p.toNat := pow_le_pow (by omega)
      have hz : (0 : Int) < 2 ^ x.toNat := Int.pow_pos (by decide)
      rw [e, e2]; omega
    · have e2 : bel (x :: r) p = bel r p := by simp [bel, pows, List.filter, hc]
      rw [e, e2]; omega
theorem due_len {xs : List Int} (h0 : ∀ x ∈ xs, 0 ≤ x) (hl : xs.length ≤ 13) (p : Int) : (dueAt xs p).length ≤ 13 := by
  obtain ⟨i1, i2⟩ := bel_bound (p := p) h0
  have hq : (2 : Int) ^ p.toNat ≤ 2 ^ (p + 1).toNat := pow_le_pow (by omega)
  have hz : (0 : Int) < 2 ^ (p + 1).toNat := Int.pow_pos (by decide)
  have hz' : (0 : Int) < 2 ^ p.toNat := Int.pow_pos (by decide)
  have h2 : bel xs p / 2 ^ (p + 1).toNat ≤ 13 := by
    have hm : (xs.length : Int) * 2 ^ p.toNat ≤ 13 * 2 ^ p.toNat := Int.mul_le_mul_of_nonneg_right (by omega) (by omega)
    have : bel xs p ≤ 13 * 2 ^ (p + 1).toNat := by omega
    exact Int.ediv_le_of_le_mul hz (by omega)
  unfold dueAt
  rw [List.length_replicate]
  omega
theorem dueJ_len {xs : List Int} (h0 : ∀ x ∈ xs, 0 ≤ x) (hl : xs.length ≤ 13) (i : Nat) : ((rangeKs 0 i).flatMap (dueAt xs)).length ≤ 13 * i := by
  have := flat_len (f := dueAt xs) (c := 13) (due_len h0 hl) (rangeKs 0 i)
  rwa [rangeKs_length] at this
/-- the loop's letters: the cell's object, the list's values and their number -/
abbrev DueS := Obj × List Value × Nat
abbrev dueLed (l c : Addr) (x : DueS) : Led := [(l, W.listOf x.2.1.toArray x.2.2), (c, x.1)]
abbrev dueP (xs : List Int) (i : Nat) (x : DueS) : Prop := (∃ ov, x.1.data = .cell ov) ∧ IntsAre x.2.1 ((rangeKs 0 i).flatMap (dueAt xs))
theorem rangeKs_snoc (i : Nat) : rangeKs 0 (i + 1) = rangeKs 0 i ++ [(i : Int)] := by
  unfold rangeKs
  rw [List.range_succ, List.map_append]
  simp
theorem due_loop {prog : Program} {w : World} {A : Around} {E : Value → Shared → Prop} {s : Shared} {env : Env} {h₀ : Heap} {x : Str} {px : Pos} {body : List Stmt} {Q : Flow → Shared → Prop} {r : Addr} {t₀ u₀ v₀ : Tok} {m₀ : Str → Option Value} {l c : Addr} {o : Obj} {ov : Option Value} {xs : List Int}
    (h0 : ∀ x ∈ xs, 0 ≤ x) (hl : xs.length ≤ 13) (hd : o.data = .cell ov) (hh : A.handled = none) (hr : IsRange s.heap r 0 20 1 t₀ u₀ v₀) (F : Fr h₀ env.locals s.heap m₀) (N : News h₀ env.locals s.heap [(l, W.listOf #[] 0), (c, o)])
    (turn : ∀ (oc : Obj) (ov : Option Value) (vs : List Value) (n : Nat) (i : Nat) t (u : Str → Option Value) h tk own, @Ne Nat l c → i < 20 → oc.data = .cell ov → IntsAre vs ((rangeKs 0 i).flatMap (dueAt xs)) → ((rangeKs 0 i).flatMap (dueAt xs)).length ≤ 13 * i → OwnOff own [l, c] →
      Fr h₀ env.locals h (fun y => if (["below"] : List Str).contains y then u y else m₀ y) → News h₀ env.locals h ((l, W.listOf vs.toArray n) :: (c, oc) :: own) →
      wpAny (model prog w) A (assign (.Name x px) env (.int (i : Int) t)) (fun _ s₃ => wpAny (model prog w) A (execs body env) (TrnPost h₀ env.locals m₀ ["below"] (dueLed l c) (dueP xs) i own { s with heap := h, toks := tk } Q) E s₃) E { s with heap := h, toks := tk })
    (done : ∀ (oc : Obj) (vs : List Value) (n : Nat) (u : Str → Option Value) h tk, IntsAre vs (dueJ xs) → Fr h₀ env.locals h (fun y => if (["below"] : List Str).contains y then u y else m₀ y) → News h₀ env.locals h [(l, W.listOf vs.toArray n), (c, oc)] → Q .next { s with heap := h, toks := tk }) :
    wpAny (model prog w) A (pyIter (.ref r)) (fun it s₂ => TurnsAt prog w A h₀ env (.Name x px) body Q E it s₂) E s := by
  have hlc : @Ne Nat l c := by
    intro e
    have h1 := (N (l, _) (.head _)).1
    have h2 := (N (c, _) (.tail _ (.head _))).1
    dsimp only at h1 h2
    rw [← e, h1] at h2
    rw [← Option.some.inj h2] at hd
    cases hd
  refine trn_range (σ := DueS) 20 ["below"] (dueLed l c) (dueP xs) (o, [], 0) hh hr rfl (by decide) F N (fun _ => rfl) ⟨⟨_, hd⟩, .nil⟩ ?_ ?_
  · rintro ⟨oc, vs, n⟩ i t u h tk own hi hoff ⟨⟨ov, hov⟩, hI⟩ F₁ N₁
    exact turn oc ov vs n i t u h tk own hlc hi hov hI (dueJ_len h0 hl i) hoff F₁ N₁
  · rintro ⟨oc, vs, n⟩ u h tk ⟨_, hI⟩ F₁ N₁
    exact done oc vs n u h tk hI F₁ N₁
section
variable {prog : Program} {w : World} {A : Around} {E : Value → Shared → Prop} {s : Shared} {h₀ : Heap} {L : Addr} {m : Str → Option Value} {news : Led} {a b : Int} {t u : Tok} {Q : Value → Shared → Prop}
theorem powM {xs : List Int} (hr : ∀ x ∈ xs, 0 ≤ x ∧ x < 16) (ha : a ∈ xs) (h : Q (.int (2 ^ a.toNat) s.toks) { s with toks := s.toks + 1 }) : wpAny (model prog w) A (binaryOp .Pow (.int 2 t) (.int a u)) Q E s :=
  powS (hr a ha).1 (by have := (hr a ha).2; omega) h
theorem sumB {xs : List Int} {i : Int} {D : Addr} {ys : List Value} (hh : A.handled = none) (F : Fr h₀ L s.heap m) (N : News h₀ L s.heap news) (hl : s.heap.IsList D ys.toArray)
    (hc : CarriedAll ys (List.map (fun a => PyData.int (2 ^ a.toNat)) (List.filter (fun a => decide (a ≤ i)) xs)))
    (h : ∀ h' tk t', Fr h₀ L h' m → News h₀ L h' news → Q (.int (bel xs i) t') { s with heap := h', toks := tk }) :
    wpAny (model prog w) A (call (.builtin "sum") [.ref D]) Q E s := sumK hh F N hl (CarriedAll.intsOf hc) h
theorem due_cnt {xs : List Int} (h0 : ∀ x ∈ xs, 0 ≤ x) (hl : xs.length ≤ 13) (p : Int) : 0 ≤ bel xs p / 2 ^ (p + 1).toNat ∧ bel xs p / 2 ^ (p + 1).toNat ≤ 13 := by
  have h1 := due_len h0 hl p
  unfold dueAt at h1
  rw [List.length_replicate] at h1
  have h2 : 0 ≤ bel xs p / 2 ^ (p + 1).toNat := Int.ediv_nonneg (bel_bound (p := p) h0).1 (Int.pow_nonneg (by decide))
  generalize bel xs p / 2 ^ (p + 1).toNat = c at *
  omega
theorem mulDue {xs : List Int} {p : Int} {l : Addr} {n : Nat} (h0 : ∀ x ∈ xs, 0 ≤ x) (hz : xs.length ≤ 13) (F : Fr h₀ L s.heap m) (N : News h₀ L s.heap news) (hm : (l, W.listOf [Value.int p t].toArray n) ∈ news)
    (h : ∀ D h' vs2, Fr h₀ L h' m → News h₀ L h' ((D, W.listOf (List.toArray vs2) 0) :: news) → (∀ p ∈ news, p.1 < D) → IntsAre vs2 (dueAt xs p) → (dueAt xs p).length ≤ 13 → Q (.ref D) { s with heap := h' }) :
    wpAny (model prog w) A (binaryOp .Mult (.ref l) (.int (bel xs p / 2 ^ (p + 1).toNat) u)) Q E s := by
  obtain ⟨c0, c1⟩ := due_cnt h0 hz p
  have hi : IntsAre [Value.int p t] [p] := .cons _ _ .nil
  refine KM.mul F N (News.isList N hm) hi (by omega) (by omega) ?_ fun D h' F' N' hlt hI _ _ _ _ _ => h D h' _ F' N' hlt (ints_as hI ?_) (due_len h0 hz p)
  · rw [List.length_singleton]; omega
  · unfold dueAt
    generalize (bel xs p / 2 ^ (p + 1).toNat).toNat = c
    induction c with
    | zero => rfl
    | succ c ih => rw [List.replicate_succ, List.flatten_cons, ih]; rfl
theorem extend_ints {D b : Addr} {vs vs2 : List Value} {xs ys : List Int} {n n2 : Nat} {G : Obj → Led} (F : Fr h₀ L s.heap m) (N : News h₀ L s.heap news) (hb : (b, W.listOf vs2.toArray n2) ∈ news) (U : UpdF D (W.listOf vs.toArray n) news G) (hi : IntsAre vs xs) (hi2 : IntsAre vs2 ys) (hsz : xs.length + ys.length ≤ 10000)
    (h : ∀ h' n', Fr h₀ L h' m → News h₀ L h' (G (W.listOf (List.toArray (vs ++ vs2)) n')) → IntsAre (vs ++ vs2) (xs ++ ys) → Q .none { s with heap := h' }) :
    wpAny (model prog w) A (call (.builtin "list.extend") [.ref D, .ref b]) Q E s := by
  have e1 := hi.length
  have e2 := hi2.length
  have hz : vs.toArray.toList.length ≤ sizeLine := by rw [sizeLine_eq, List.toList_toArray]; omega
  have hz2 : vs.toArray.size + vs2.toArray.size ≤ sizeLine + 1 := by rw [sizeLine_eq, List.size_toArray, List.size_toArray]; omega
  have hd : ¬(!vs.toArray.isEmpty && Builtin.List.listTooLong (vs.toArray.size + vs2.toArray.size)) = true := by
    intro q
    simp [Builtin.List.listTooLong, sizeLine] at q
    omega
  have hI := IntsAre.append hi hi2
  by_cases e : vs2 = []
  · subst e
    refine kxn_extend F N hb rfl (updF_upd U) hd hz hz2 fun h' F' N' => h h' n F' ?_ hI
    rw [List.append_nil]; exact N'
  · refine kl_extend F N hb (l := vs ++ vs2) (by simp) (by simpa using e) (updF_upd U) hd hz hz2 fun h' F' N' => h h' _ F' N' hI
theorem flat_snoc (f : Int → List Int) (i : Nat) : (rangeKs 0 i).flatMap f ++ f i = (rangeKs 0 (i + 1)).flatMap f := by
  rw [rangeKs_snoc, List.flatMap_append]
  simp
end
section
theorem due_c {w : World} {p : Program} {loose : List Str} {mean : ExcName → Option Value} {mg mb : Str → Option Value} {dp un : Nat} {gd : Option (List Code)} {outer : List Env} {base h₀ : Heap} {s : Shared}
    {l : Addr} {vs : List Value} {xs : List Int} (hd1 : dp + 20 < recursionLimit)
    (H : Here (hd.heap_1 w.params) p loose mean mg mb base outer h₀ s.heap) (hown : ∀ q ∈ ([] : Led), s.heap.get? q.1 = some q.2 ∧ h₀.get? q.1 = none)
    (hl : s.heap.IsList l vs.toArray) (hi : IntsAre vs xs) (hsz : xs.length ≤ 13) (hr : ∀ x ∈ xs, 0 ≤ x ∧ x < 16) :
    codeAny (model PR w) (arnd dp un gd outer) (.call (.ref 163) ⟨[.ref l], []⟩)
      (OutR s [] fun v news' => ∃ a vs n, v = .ref a ∧ (a, W.listOf (List.toArray vs) n) ∈ news' ∧ IntsAre vs (dueJ xs)) s := by
  w_on; k_with_none; revert H; unfold PR; k_fill; intro H
  k_with "k_room" => ((try simp only [depth_under_make, depth_under_kw, depth_in1, depth_deeper, depth_caller]); (try dsimp only); omega)
  k_with "binaryOp Pow int int" => (k_here; (with_reducible refine powS ?zqa ?zqb ?_); (case zqa => omega); (case zqb => omega))
  k_with "binaryOp Pow int int" => (k_here; (with_reducible refine powM (by assumption) (by assumption) ?_))
  k_with "binaryOp FloorDiv int int" => (k_here; (with_reducible refine fdivS ?zqa ?_); (case zqa => omega))
  k_with "call builtin:sum" => (k_here; (with_reducible show wpAny _ _ (call (Value.builtin "sum") [Value.ref _]) _ _ _); (with_unfolding_all refine' sumB ?zqk0 ?zqk1 ?zqk2 ?zqk3 ?zqk4 ?_; (case zqk0 => with_unfolding_all rfl); (case zqk1 => k_asm); (case zqk2 => k_asm); (case zqk3 => is_list); (case zqk4 => assumption); k_whole); intro h' tk' t' F' N')
  k_with "binaryOp Mult ref int" => (k_here; (with_reducible show wpAny _ _ (binaryOp Operator.Mult (Value.ref _) (Value.int _ _)) _ _ _); k_dflt (refine' mulDue ?zqk1 ?zqk2 ?zqk3 ?zqk4 ?zqk5 ?_; (case zqk1 => with_reducible assumption); (case zqk2 => with_reducible assumption); (case zqk3 => k_asm); (case zqk4 => k_asm); (case zqk5 => k_mem); k_whole); intro D' h' vs2' F' N' l1 hI' hL'; (try k_lt l1))
  k_with "call builtin:list.extend" => (k_here; (show wpAny _ _ (call (Value.builtin _) [Value.ref _, Value.ref _]) _ _ _); k_dflt (refine' extend_ints ?zqk1 ?zqk2 ?zqk3 ?zqk4 ?zqk5 ?zqk6 ?zqk7 ?_; (case zqk1 => k_asm); (case zqk2 => k_asm); (case zqk3 => k_mem); (case zqk4 => k_updF); (case zqk5 => l_ints); (case zqk6 => l_ints); (case zqk7 => omega); k_whole); intro h' n' F' N' hI'; (try dsimp only at N'))
  refine' enterC H hown ?k6 ?k7 ?k8 ?k9 ?kB ?kN ?_ ?c2 ?c3 ?c4
  case k6 => k_is
  case k7 => k_is
  case k8 => omega
  case k9 => exact BindsTo.of_eq rfl
  case kB => exact rfl
  case kN => decide
  case c2 => exact rfl
  case c3 => exact rfl
  case c4 => exact rfl
  intro g' L' h' tk' cells gE F' N' Y' B' X' T' hab
  have hl' : g'.IsList l vs.toArray := by rw [gE]; exact hl
  clear gE hab
  k_cells Y'
  (try dsimp only)
  (try k_fold)
  have hr0 : ∀ x ∈ xs, 0 ≤ x := fun x hx => (hr x hx).1
  k_with "exec For Name Call cons nil" => (k_here; (rename Fr _ _ _ _ => lF'); (with_unfolding_all refine' For_turns lF' ?_; k_whole))
  k_with "pyIter ref" => (k_here; refine stopB ?_)
  k_steps
  unfold StopB
  (rename Fr _ _ _ _ => lF'); (rename News _ _ _ _ => lN'); (rename IsRange _ _ _ _ _ _ _ _ => rgX); (rename Obj.data _ = _ => dX)
  refine' due_loop (xs := xs) hr0 hsz dX rfl rgX lF' lN' ?kT ?kD
  case' kT => (intro oc ov vs1 n1 i t1 u1 h1 tk1 own1 hlc1 hi1 hc1 hI1 hL1 hoff1 F1 N1)
  case' kD => (intro oc vs1 n1 u1 h1 tk1 hI1 F1 N1)
  all_goals clear lF' lN' dX rgX
  all_goals (try k_fold)
  k_steps
  · dsimp only
    refine outB (by assumption) (by assumption) ?_
    exact ⟨_, _, _, rfl, by k_mem, by assumption⟩
  · exact (Str.ofString "x")
  · exact (0 : Addr)
  · exact Value.none
  · refine' trn_end ⟨_, _, _⟩ ?k1 ?k2 ?k3 ?k4 ⟨⟨_, ?k5⟩, ?k6⟩
    (case k1 => assumption); (case k2 => assumption)
    (case k6 => exact ints_as (by assumption) (flat_snoc _ _))
    (case k5 => assumption)
    (case k3 => (refine List.forall_mem_cons.mpr ⟨by k_mem, List.forall_mem_cons.mpr ⟨by k_mem, fun q hq => ?_⟩⟩; repeat (first | exact hq | refine List.Mem.tail _ ?_)))
    case k4 =>
      intro z h3
      have h4 : z ≠ Str.ofString "below" := by intro e; subst e; revert h3; decide
      dsimp only
      rw [if_neg h4, if_neg (by rw [h3]; decide)]
end
end Mine
namespace Mine
local macro_rules | `(tactic| walk_at $s:str) => `(tactic| k_extra $s)
local macro_rules | `(tactic| k_room) => `(tactic| k_extra "k_room")
theorem dv_all (nn : Int) (xs : List Int) : dv nn xs 0 (xs.length : Int) = dval nn.toNat xs := by
  unfold dv
  rw [show ((xs.length : Int) - 0).toNat = xs.length by omega]
  simp
section
theorem d2i_1 {w : World} {p : Program} {loose : List Str} {mean : ExcName → Option Value} {mg mb : Str → Option Value} {dp un : Nat} {gd : Option (List Code)} {outer : List Env} {base h₀ : Heap} {s : Shared}
    {D : Addr} {nD : Nat} {vs : List Value} {xs : List Int} {nn : Int} {tn : Tok} (hd1 : dp + 150 < recursionLimit)
    (H : Here (hd.heap_1 w.params) p loose mean mg mb base outer h₀ s.heap) (hown : ∀ q ∈ [(30, tabObj #[]), (D, W.listOf vs.toArray nD)], s.heap.get? q.1 = some q.2 ∧ h₀.get? q.1 = none) (hD : @Ne Nat D 30)
    (hi : IntsAre vs xs) (hsz : xs.length ≤ 100) (hsz0 : 0 < xs.length) (hn0 : 0 ≤ nn) (hn1 : nn ≤ 8) (hb : ∀ i k, (dval nn.toNat ((xs.drop i).take k)).natAbs < 2 ^ 64) :
    codeAny (model PR w) (arnd dp un gd outer) (.call (.ref 35) ⟨[.ref D, .int nn tn], []⟩)
      (OutR s [(30, tabObj #[]), (D, W.listOf vs.toArray nD)] fun v news' => (∃ t, v = .int (dval nn.toNat xs) t) ∧ ∃ c' oc vs' tq, (30, tabObj (#[] ++ #[rawInt 23, rawInt 4, .ref c'])) ∈ news' ∧ (D, W.listOf vs.toArray nD) ∈ news' ∧ (c', oc) ∈ news' ∧ oc.data = .fields vs' ∧ vs'[1]? = some (.str (Str.ofString "_digits2int.<locals>.inner") tq) ∧ @Ne Nat c' 30 ∧ @Ne Nat c' D) s := by
  w_on; k_with_none; revert H; unfold PR; k_fill; intro H
  k_with "k_room" => ((try simp only [depth_under_make, depth_under_kw, depth_in1, depth_deeper, depth_caller]); (try dsimp only); omega)
  k_with "truthy ref" => (k_here; (with_reducible show wpAny _ _ (truthy (Value.ref _)) _ _ _); k_dflt (refine' truthy_ints_fit ?zqk1 ?zqk2 ?zqk3 ?_; (case zqk1 => exact News.isList (by k_asm) (by k_mem)); (case zqk2 => l_ints); (case zqk3 => ((try simp only [List.length_set, List.length_dropLast, List.length_append, List.length_cons, List.length_nil]); omega)); k_whole); (try simp only [List.length_set, List.length_dropLast, List.length_append, List.length_cons, List.length_nil]))
  k_with "call builtin:len" => (k_here; (with_reducible show wpAny _ _ (call (Value.builtin "len") [Value.ref _]) _ _ _); k_dflt (refine' len_ints_fit ?zqk1 ?zqk2 ?zqk3 ?_; (case zqk1 => exact News.isList (by k_asm) (by k_mem)); (case zqk2 => l_ints); (case zqk3 => ((try simp only [List.length_set, List.length_dropLast, List.length_append, List.length_cons, List.length_nil]); omega)); k_whole); (try simp only [List.length_set, List.length_dropLast, List.length_append, List.length_cons, List.length_nil]))
  k_with "call ref" => (k_here; refine stopB ?_)
  refine' enterC H hown ?k6 ?k7 ?k8 ?k9 ?kB ?kN ?_ ?c2 ?c3 ?c4
  case k6 => k_is
  case k7 => k_is
  case k8 => omega
  case k9 => exact BindsTo.of_eq rfl
  case kB => exact rfl
  case kN => decide
  case c2 => exact rfl
  case c3 => exact rfl
  case c4 => exact rfl
  intro g' L' h' tk' cells gE F' N' Y' B' X' T' hab
  clear gE
  have hab1 : @LT.lt Nat _ 30 L' := hab _ (.head _)
  have hab2 : @LT.lt Nat _ D L' := hab _ (.tail _ (.head _))
  have codeHd : CodeHd g' 34 30 := codeHd_of_K X' (by kernel_rfl)
  clear hab
  k_cells Y'
  simp only [List.cons_append, List.nil_append] at N'
  (try dsimp only)
  (try k_fold)
  k_steps
  unfold StopB
  refine' d2i_use (d2i_inner ?hK ?hc1 ?hc2 ?hoi ?hon ?hod hi hsz hn0 hn1 hb xs.length) ?kB ?kF ?kX ?kN ?kT rfl rfl rfl ?ho ?hd1 ?h0 ?h1 ?h2 ?h3 hb ?ret
  case kB => k_asm
  case kF => k_asm
  case kX => k_asm
  case kN => k_asm
  case kT => k_asm
  case ho =>
    refine List.forall_mem_cons.mpr ⟨by k_mem, ?_⟩
    refine List.forall_mem_cons.mpr ⟨by k_mem, ?_⟩
    refine List.forall_mem_cons.mpr ⟨by k_mem, ?_⟩
    refine List.forall_mem_cons.mpr ⟨by k_mem, ?_⟩
    refine List.forall_mem_cons.mpr ⟨by k_mem, ?_⟩
    refine List.forall_mem_cons.mpr ⟨by k_mem, List.forall_mem_nil _⟩
  case hK => k_is
  case hc1 => assumption
  case hc2 => assumption
  case hoi => assumption
  case hon => assumption
  case hod => assumption
  case hd1 => k_room
  case h0 => omega
  case h1 => omega
  case h2 => omega
  case h3 => omega
  case ret =>
    intro t h' tk' F' N' hB'
    refine outB (by assumption) (by assumption) ?_
    exact ⟨⟨_, int_eq (dv_all _ _)⟩, _, _, _, _, by k_mem, by k_mem, by k_mem, by assumption, by assumption, by k_ne, by k_ne⟩

theorem d2i_2 {w : World} {p : Program} {loose : List Str} {mean : ExcName → Option Value} {mg mb : Str → Option Value} {dp un : Nat} {gd : Option (List Code)} {outer : List Env} {base h₀ : Heap} {s : Shared}
    {D : Addr} {nD : Nat} {vs : List Value} {xs : List Int} {nn : Int} {tn : Tok} {c' : Addr} {oc : Obj} {vs' : Array Value} {tq : Tok} (hd1 : dp + 150 < recursionLimit)
    (H : Here (hd.heap_1 w.params) p loose mean mg mb base outer h₀ s.heap) (hown : ∀ q ∈ [(30, tabObj (#[] ++ #[rawInt 23, rawInt 4, .ref c'])), (c', oc), (D, W.listOf vs.toArray nD)], s.heap.get? q.1 = some q.2 ∧ h₀.get? q.1 = none) (hoc1 : oc.data = .fields vs') (hoc2 : vs'[1]? = some (.str (Str.ofString "_digits2int.<locals>.inner") tq)) (hD : @Ne Nat D 30)
    (hi : IntsAre vs xs) (hsz : xs.length ≤ 100) (hsz0 : 0 < xs.length) (hn0 : 0 ≤ nn) (hn1 : nn ≤ 8) (hb : ∀ i k, (dval nn.toNat ((xs.drop i).take k)).natAbs < 2 ^ 64) :
    codeAny (model PR w) (arnd dp un gd outer) (.call (.ref 35) ⟨[.ref D, .int nn tn], []⟩)
      (OutR s [(30, tabObj (#[] ++ #[rawInt 23, rawInt 4, .ref c'])), (c', oc), (D, W.listOf vs.toArray nD)] fun v news' => (∃ t, v = .int (dval nn.toNat xs) t) ∧ (30, tabObj (#[] ++ #[rawInt 23, rawInt 4, .ref c'])) ∈ news' ∧ (D, W.listOf vs.toArray nD) ∈ news' ∧ (c', oc) ∈ news') s := by
  w_on; k_with_none; revert H; unfold PR; k_fill; intro H
  k_with "k_room" => ((try simp only [depth_under_make, depth_under_kw, depth_in1, depth_deeper, depth_caller]); (try dsimp only); omega)
  k_with "truthy ref" => (k_here; (with_reducible show wpAny _ _ (truthy (Value.ref _)) _ _ _); k_dflt (refine' truthy_ints_fit ?zqk1 ?zqk2 ?zqk3 ?_; (case zqk1 => exact News.isList (by k_asm) (by k_mem)); (case zqk2 => l_ints); (case zqk3 => ((try simp only [List.length_set, List.length_dropLast, List.length_append, List.length_cons, List.length_nil]); omega)); k_whole); (try simp only [List.length_set, List.length_dropLast, List.length_append, List.length_cons, List.length_nil]))
  k_with "call builtin:len" => (k_here; (with_reducible show wpAny _ _ (call (Value.builtin "len") [Value.ref _]) _ _ _); k_dflt (refine' len_ints_fit ?zqk1 ?zqk2 ?zqk3 ?_; (case zqk1 => exact News.isList (by k_asm) (by k_mem)); (case zqk2 => l_ints); (case zqk3 => ((try simp only [List.length_set, List.length_dropLast, List.length_append, List.length_cons, List.length_nil]); omega)); k_whole); (try simp only [List.length_set, List.length_dropLast, List.length_append, List.length_cons, List.length_nil]))
  k_with "call ref" => (k_here; refine stopB ?_)
  refine' enterC H hown ?k6 ?k7 ?k8 ?k9 ?kB ?kN ?_ ?c2 ?c3 ?c4
  case k6 => k_is
  case k7 => k_is
  case k8 => omega
  case k9 => exact BindsTo.of_eq rfl
  case kB => exact rfl
  case kN => decide
  case c2 => exact rfl
  case c3 => exact rfl
  case c4 => exact rfl
  intro g' L' h' tk' cells gE F' N' Y' B' X' T' hab
  clear gE
  have hab1 : @LT.lt Nat _ 30 L' := hab _ (.head _)
  have hab2 : @LT.lt Nat _ c' L' := hab _ (.tail _ (.head _))
  have hab3 : @LT.lt Nat _ D L' := hab _ (.tail _ (.tail _ (.head _)))
  have codeHd : CodeHd g' 34 30 := codeHd_of_K X' (by kernel_rfl)
  clear hab
  k_cells Y'
  simp only [List.cons_append, List.nil_append] at N'
  (try dsimp only)
  (try k_fold)
  k_steps
  unfold StopB
  refine' d2i_use (d2i_inner ?hK ?hc1 ?hc2 ?hoi ?hon ?hod hi hsz hn0 hn1 hb xs.length) ?kB ?kF ?kX ?kN ?kT rfl rfl rfl ?ho ?hd1 ?h0 ?h1 ?h2 ?h3 hb ?ret
  case kB => k_asm
  case kF => k_asm
  case kX => k_asm
  case kN => k_asm
  case kT => k_asm
  case ho =>
    refine List.forall_mem_cons.mpr ⟨by k_mem, ?_⟩
    refine List.forall_mem_cons.mpr ⟨by k_mem, ?_⟩
    refine List.forall_mem_cons.mpr ⟨by k_mem, ?_⟩
    refine List.forall_mem_cons.mpr ⟨by k_mem, ?_⟩
    refine List.forall_mem_cons.mpr ⟨by k_mem, ?_⟩
    refine List.forall_mem_cons.mpr ⟨by k_mem, List.forall_mem_nil _⟩
  case hK => k_is
  case hc1 => assumption
  case hc2 => assumption
  case hoi => assumption
  case hon => assumption
  case hod => assumption
  case hd1 => k_room
  case h0 => omega
  case h1 => omega
  case h2 => omega
  case h3 => omega
  case ret =>
    intro t h' tk' F' N' hB'
    refine outB (by assumption) (by assumption) ?_
    exact ⟨⟨_, int_eq (dv_all _ _)⟩, by k_mem, by k_mem, by k_mem⟩

end
end Mine
namespace Mine
local macro_rules | `(tactic| walk_at $s:str) => `(tactic| k_extra $s)
local macro_rules | `(tactic| k_room) => `(tactic| k_extra "k_room")
theorem rep_flat (k : Nat) : (List.replicate k [(0 : Int)]).flatten = List.replicate k 0 := by
  induction k with
  | zero => rfl
  | succ c ih => rw [List.replicate_succ, List.flatten_cons, ih]; rfl
section
variable {prog : Program} {w : World} {A : Around} {E : Value → Shared → Prop} {s : Shared} {h₀ : Heap} {L : Addr} {m : Str → Option Value} {news : Led} {a b : Int} {t u : Tok} {Q : Value → Shared → Prop}
theorem fdivK {k : Nat} (hb : 0 < b) (hb8 : b ≤ 8) (hk : a / b = (k : Int)) (h : Q (.int (k : Int) s.toks) { s with toks := s.toks + 1 }) : wpAny (model prog w) A (binaryOp .FloorDiv (.int a t) (.int b u)) Q E s := by
  refine floordiv_int (by omega) ?_ (Or.inl (PyProof.noPylong_of_log2 ?_))
  · rw [Int.fdiv_eq_ediv_of_nonneg _ (by omega), hk]
    exact h
  · have : b.natAbs ≤ 8 := by omega
    have h2 : b.natAbs ≠ 0 := by omega
    have h3 := Nat.log2_self_le h2
    have h4 : b.natAbs.log2 < 4 := (Nat.log2_lt h2).mpr (by omega)
    omega
theorem mulZ {k : Nat} {l : Addr} {n : Nat} (hk : k ≤ 100) (F : Fr h₀ L s.heap m) (N : News h₀ L s.heap news) (hm : (l, W.listOf [Value.int 0 t].toArray n) ∈ news)
    (h : ∀ D h' vs2, Fr h₀ L h' m → News h₀ L h' ((D, W.listOf (List.toArray vs2) 0) :: news) → (∀ p ∈ news, p.1 < D) → IntsAre vs2 (List.replicate k 0) → Q (.ref D) { s with heap := h' }) :
    wpAny (model prog w) A (binaryOp .Mult (.ref l) (.int (k : Int) u)) Q E s := by
  have hi : IntsAre [Value.int 0 t] [0] := .cons _ _ .nil
  refine KM.mul F N (News.isList N hm) hi (by omega) (by omega) ?_ fun D h' F' N' hlt hI _ _ _ _ _ => h D h' _ F' N' hlt (ints_as hI ?_)
  · rw [List.length_singleton]; omega
  · rw [Int.toNat_natCast]
    exact rep_flat k
theorem put_all (nn x : Int) (k : Nat) : put nn (List.replicate k 0) x 0 (k : Int) = dg nn.toNat x k := by
  unfold put
  rw [show ((k : Int) - 0).toNat = k by omega]
  simp
end
section
theorem i2d_1 {w : World} {p : Program} {loose : List Str} {mean : ExcName → Option Value} {mg mb : Str → Option Value} {dp un : Nat} {gd : Option (List Code)} {outer : List Env} {base h₀ : Heap} {s : Shared}
    {a nn : Int} {ta tn : Tok} {k : Nat} (hd1 : dp + 150 < recursionLimit)
    (H : Here (hd.heap_1 w.params) p loose mean mg mb base outer h₀ s.heap) (hown : ∀ q ∈ [(23, tabObj #[])], s.heap.get? q.1 = some q.2 ∧ h₀.get? q.1 = none)
    (ha : 0 < a) (ha2 : a < 2 ^ 63) (ha3 : a < 2 ^ (nn.toNat * k)) (hk : ((Builtin.Int.intBits a : Nat) + nn - 1) / nn = (k : Int)) (hk0 : 0 < k) (hk1 : k ≤ 100) (hn0 : 0 < nn) (hn1 : nn ≤ 8) :
    codeAny (model PR w) (arnd dp un gd outer) (.call (.ref 28) ⟨[.int a ta, .int nn tn], []⟩)
      (OutR s [(23, tabObj #[])] fun v news' => ∃ D vs n c' oc vs' tq, v = .ref D ∧ (D, W.listOf (List.toArray vs) n) ∈ news' ∧ IntsAre vs (dg nn.toNat a k) ∧ (23, tabObj (#[] ++ #[rawInt 8, rawInt 4, .ref c'])) ∈ news' ∧ (c', oc) ∈ news' ∧ oc.data = .fields vs' ∧ vs'[1]? = some (.str (Str.ofString "_int2digits.<locals>.inner") tq) ∧ @Ne Nat D c' ∧ @Ne Nat D 23 ∧ @Ne Nat c' 23) s := by
  w_on; k_with_none; revert H; unfold PR; k_fill; intro H
  k_with "k_room" => ((try simp only [depth_under_make, depth_under_kw, depth_in1, depth_deeper, depth_caller]); (try dsimp only); omega)
  k_with "call builtin:len" => (k_here; (with_reducible show wpAny _ _ (call (Value.builtin "len") [Value.ref _]) _ _ _); k_dflt (refine' len_ints_fit ?zqk1 ?zqk2 ?zqk3 ?_; (case zqk1 => exact News.isList (by k_asm) (by k_mem)); (case zqk2 => l_ints); (case zqk3 => ((try simp only [List.length_replicate]); omega)); k_whole); (try simp only [List.length_replicate]))
  k_with "binaryOp FloorDiv int int" => (k_here; (with_reducible refine fdivK (k := _) (by assumption) (by assumption) (by assumption) ?_))
  k_with "binaryOp Mult ref int" => (k_here; (with_reducible show wpAny _ _ (binaryOp Operator.Mult (Value.ref _) (Value.int _ _)) _ _ _); k_dflt (refine' mulZ ?zqk1 ?zqk3 ?zqk4 ?zqk5 ?_; (case zqk1 => with_reducible assumption); (case zqk3 => k_asm); (case zqk4 => k_asm); (case zqk5 => k_mem); k_whole); intro D' h' vs2' F' N' l1 hI'; (try k_lt l1))
  k_with "call ref" => (k_here; refine stopB ?_)
  refine' enterC H hown ?k6 ?k7 ?k8 ?k9 ?kB ?kN ?_ ?c2 ?c3 ?c4
  case k6 => k_is
  case k7 => k_is
  case k8 => omega
  case k9 => exact BindsTo.of_eq rfl
  case kB => exact rfl
  case kN => decide
  case c2 => exact rfl
  case c3 => exact rfl
  case c4 => exact rfl
  intro g' L' h' tk' cells gE F' N' Y' B' X' T' hab
  clear gE
  have hab1 : @LT.lt Nat _ 23 L' := hab _ (.head _)
  have codeHd : CodeHd g' 27 23 := codeHd_of_K X' (by kernel_rfl)
  clear hab
  k_cells Y'
  simp only [List.cons_append, List.nil_append] at N'
  (try dsimp only)
  (try k_fold)
  k_steps
  · unfold StopB
    refine' i2d_use (i2d_inner ?hK ?hc1 ?hc2 ?hoi ?hon ?hod ?e1 ?e2 ?e3 ?e4 ?e5 (by omega) hn1 k) ?kB ?kF ?kX ?kN ?kT rfl rfl rfl ?kU ?ho ?hi ?hz ?hd1 ?x1 ha2 ?x3 ?h0 ?h1 ?h2 ?h3 ?ret
    case kB => k_asm
    case kF => k_asm
    case kX => k_asm
    case kN => k_asm
    case kT => k_asm
    case ho =>
      refine List.forall_mem_cons.mpr ⟨by k_mem, ?_⟩
      refine List.forall_mem_cons.mpr ⟨by k_mem, ?_⟩
      refine List.forall_mem_cons.mpr ⟨by k_mem, ?_⟩
      refine List.forall_mem_cons.mpr ⟨by k_mem, ?_⟩
      refine List.forall_mem_cons.mpr ⟨by k_mem, List.forall_mem_nil _⟩
    case hod => assumption
    case kU => k_updF
    case hK => k_is
    case hi => l_ints
    case hc1 => assumption
    case hc2 => assumption
    case hoi => assumption
    case hon => assumption
    case hd1 => k_room
    case e1 => k_ne
    case e2 => k_ne
    case e3 => k_ne
    case e4 => k_ne
    case e5 => k_ne
    case hz => rw [List.length_replicate]; omega
    case x1 => omega
    case x3 => rw [show ((k : Int) - 0).toNat = k by omega]; exact ha3
    case h0 => omega
    case h1 => omega
    case h2 => rw [List.length_replicate]; omega
    case h3 => omega
    case ret =>
      intro vs' n' h' tk' F' N' hI' hL'
      rw [put_all] at hI'
      (try dsimp only at N')
      k_steps
      dsimp only
      refine outB (by assumption) (by assumption) ?_
      exact ⟨_, _, _, _, _, _, _, rfl, by k_mem, hI', by k_mem, by k_mem, by assumption, by assumption, by k_ne, by k_ne, by k_ne⟩
  · omega

theorem i2d_2 {w : World} {p : Program} {loose : List Str} {mean : ExcName → Option Value} {mg mb : Str → Option Value} {dp un : Nat} {gd : Option (List Code)} {outer : List Env} {base h₀ : Heap} {s : Shared}
    {a nn : Int} {ta tn : Tok} {k : Nat} {c' : Addr} {oc : Obj} {vs' : Array Value} {tq : Tok} (hd1 : dp + 150 < recursionLimit)
    (H : Here (hd.heap_1 w.params) p loose mean mg mb base outer h₀ s.heap) (hown : ∀ q ∈ [(23, tabObj (#[] ++ #[rawInt 8, rawInt 4, .ref c'])), (c', oc)], s.heap.get? q.1 = some q.2 ∧ h₀.get? q.1 = none)
    (hoc1 : oc.data = .fields vs') (hoc2 : vs'[1]? = some (.str (Str.ofString "_int2digits.<locals>.inner") tq)) (ha : 0 < a) (ha2 : a < 2 ^ 63) (ha3 : a < 2 ^ (nn.toNat * k)) (hk : ((Builtin.Int.intBits a : Nat) + nn - 1) / nn = (k : Int)) (hk0 : 0 < k) (hk1 : k ≤ 100) (hn0 : 0 < nn) (hn1 : nn ≤ 8) :
    codeAny (model PR w) (arnd dp un gd outer) (.call (.ref 28) ⟨[.int a ta, .int nn tn], []⟩)
      (OutR s [(23, tabObj (#[] ++ #[rawInt 8, rawInt 4, .ref c'])), (c', oc)] fun v news' => ∃ D vs n, v = .ref D ∧ (D, W.listOf (List.toArray vs) n) ∈ news' ∧ IntsAre vs (dg nn.toNat a k) ∧ (23, tabObj (#[] ++ #[rawInt 8, rawInt 4, .ref c'])) ∈ news' ∧ (c', oc) ∈ news' ∧ @Ne Nat D c' ∧ @Ne Nat D 23) s := by
  w_on; k_with_none; revert H; unfold PR; k_fill; intro H
  k_with "k_room" => ((try simp only [depth_under_make, depth_under_kw, depth_in1, depth_deeper, depth_caller]); (try dsimp only); omega)
  k_with "call builtin:len" => (k_here; (with_reducible show wpAny _ _ (call (Value.builtin "len") [Value.ref _]) _ _ _); k_dflt (refine' len_ints_fit ?zqk1 ?zqk2 ?zqk3 ?_; (case zqk1 => exact News.isList (by k_asm) (by k_mem)); (case zqk2 => l_ints); (case zqk3 => ((try simp only [List.length_replicate]); omega)); k_whole); (try simp only [List.length_replicate]))
  k_with "binaryOp FloorDiv int int" => (k_here; (with_reducible refine fdivK (k := _) (by assumption) (by assumption) (by assumption) ?_))
  k_with "binaryOp Mult ref int" => (k_here; (with_reducible show wpAny _ _ (binaryOp Operator.Mult (Value.ref _) (Value.int _ _)) _ _ _); k_dflt (refine' mulZ ?zqk1 ?zqk3 ?zqk4 ?zqk5 ?_; (case zqk1 => with_reducible assumption); (case zqk3 => k_asm); (case zqk4 => k_asm); (case zqk5 => k_mem); k_whole); intro D' h' vs2' F' N' l1 hI'; (try k_lt l1))
  k_with "call ref" => (k_here; refine stopB ?_)
  refine' enterC H hown ?k6 ?k7 ?k8 ?k9 ?kB ?kN ?_ ?c2 ?c3 ?c4
  case k6 => k_is
  case k7 => k_is
  case k8 => omega
  case k9 => exact BindsTo.of_eq rfl
  case kB => exact rfl
  case kN => decide
  case c2 => exact rfl
  case c3 => exact rfl
  case c4 => exact rfl
  intro g' L' h' tk' cells gE F' N' Y' B' X' T' hab
  clear gE
  have hab1 : @LT.lt Nat _ 23 L' := hab _ (.head _)
  have hab2 : @LT.lt Nat _ c' L' := hab _ (.tail _ (.head _))
  have codeHd : CodeHd g' 27 23 := codeHd_of_K X' (by kernel_rfl)
  clear hab
  k_cells Y'
  simp only [List.cons_append, List.nil_append] at N'
  (try dsimp only)
  (try k_fold)
  k_steps
  · unfold StopB
    refine' i2d_use (i2d_inner ?hK ?hc1 ?hc2 ?hoi ?hon ?hod ?e1 ?e2 ?e3 ?e4 ?e5 (by omega) hn1 k) ?kB ?kF ?kX ?kN ?kT rfl rfl rfl ?kU ?ho ?hi ?hz ?hd1 ?x1 ha2 ?x3 ?h0 ?h1 ?h2 ?h3 ?ret
    case kB => k_asm
    case kF => k_asm
    case kX => k_asm
    case kN => k_asm
    case kT => k_asm
    case ho =>
      refine List.forall_mem_cons.mpr ⟨by k_mem, ?_⟩
      refine List.forall_mem_cons.mpr ⟨by k_mem, ?_⟩
      refine List.forall_mem_cons.mpr ⟨by k_mem, ?_⟩
      refine List.forall_mem_cons.mpr ⟨by k_mem, ?_⟩
      refine List.forall_mem_cons.mpr ⟨by k_mem, List.forall_mem_nil _⟩
    case hod => assumption
    case kU => k_updF
    case hK => k_is
    case hi => l_ints
    case hc1 => assumption
    case hc2 => assumption
    case hoi => assumption
    case hon => assumption
    case hd1 => k_room
    case e1 => k_ne
    case e2 => k_ne
    case e3 => k_ne
    case e4 => k_ne
    case e5 => k_ne
    case hz => rw [List.length_replicate]; omega
    case x1 => omega
    case x3 => rw [show ((k : Int) - 0).toNat = k by omega]; exact ha3
    case h0 => omega
    case h1 => omega
    case h2 => rw [List.length_replicate]; omega
    case h3 => omega
    case ret =>
      intro vs' n' h' tk' F' N' hI' hL'
      rw [put_all] at hI'
      (try dsimp only at N')
      k_steps
      dsimp only
      refine outB (by assumption) (by assumption) ?_
      exact ⟨_, _, _, rfl, by k_mem, hI', by k_mem, by k_mem, by k_ne, by k_ne⟩
  · omega

end
end Mine
namespace Mine
/-- the sum of f over a list -/
noncomputable def tot (f : Int → Int) : List Int → Int
  | [] => 0
  | x :: r => f x + tot f r
theorem tot_app (f : Int → Int) (a b : List Int) : tot f (a ++ b) = tot f a + tot f b := by
  induction a with
  | nil => simp [tot]
  | cons x r ih => rw [List.cons_append, tot, tot, ih]; omega
theorem tot_set (f : Int → Int) (v : Int) : ∀ (xs : List Int) (p : Nat), p < xs.length → tot f (xs.set p v) = tot f xs - f (xs.getD p 0) + f v
  | [], _, h => absurd h (Nat.not_lt_zero _)
  | x :: r, 0, _ => by simp only [List.set_cons_zero, tot, List.getD_cons_zero]; omega
  | x :: r, p + 1, h => by
    simp only [List.set_cons_succ, tot, List.getD_cons_succ]
    rw [tot_set f v r p (by simpa using h)]
    omega
noncomputable def ind (a : Int) (x : Int) : Int := if x = a then 1 else 0
theorem tot_ind (a : Int) (xs : List Int) : tot (ind a) xs = (xs.count a : Int) := by
  induction xs with
  | nil => rfl
  | cons x r ih =>
    rw [tot, ih, List.count_cons]
    unfold ind
    by_cases h : x = a
    · simp [h]; omega
    · simp [h]
theorem perm_tot {xs ys : List Int} (h : ∀ f, tot f xs = tot f ys) : xs.Perm ys := by
  rw [List.perm_iff_count]
  intro a
  have := h (ind a)
  rw [tot_ind, tot_ind] at this
  omega
theorem tot_perm (f : Int → Int) {xs ys : List Int} (h : xs.Perm ys) : tot f xs = tot f ys := by
  induction h with
  | nil => rfl
  | cons x _ ih => simp only [tot, ih]
  | swap x y l => simp only [tot]; omega
  | trans _ _ a b => exact a.trans b
theorem getD_set (xs : List Int) (p i : Nat) (v : Int) : (xs.set p v).getD i 0 = if p = i ∧ p < xs.length then v else xs.getD i 0 := by
  simp only [List.getD, List.getElem?_set]
  by_cases h : p = i
  · subst h
    by_cases h2 : p < xs.length
    · simp [h2]
    · simp [h2]
  · simp [h]
theorem tot_swap (f : Int → Int) (x : Int) {xs : List Int} {p q : Nat} (hp : p < xs.length) (hq : q < xs.length) (hne : p ≠ q) : tot f ((xs.set p (xs.getD q 0)).set q x) = tot f (xs.set p x) := by
  rw [tot_set _ _ _ _ (by rw [List.length_set]; exact hq), tot_set _ _ _ _ hp, tot_set _ _ _ _ hp, getD_set, if_neg (fun h => hne h.1)]
  omega

noncomputable def Heap0 (xs : List Int) : Prop := ∀ i, 0 < i → i < xs.length → xs.getD ((i - 1) / 2) 0 ≤ xs.getD i 0
/-- a heap but for the hole p -/
noncomputable def Holed (p : Nat) (xs : List Int) : Prop :=
  (∀ i, 0 < i → i < xs.length → i ≠ p → (i - 1) / 2 ≠ p → xs.getD ((i - 1) / 2) 0 ≤ xs.getD i 0) ∧
  (∀ i, 0 < i → i < xs.length → (i - 1) / 2 = p → 0 < p → xs.getD ((p - 1) / 2) 0 ≤ xs.getD i 0)

theorem set_at {xs : List Int} {p i : Nat} {v : Int} (hp : p < xs.length) (h : p = i) : (xs.set p v).getD i 0 = v := by rw [getD_set, if_pos ⟨h, hp⟩]
theorem set_off {xs : List Int} {p i : Nat} {v : Int} (h : p ≠ i) : (xs.set p v).getD i 0 = xs.getD i 0 := by rw [getD_set, if_neg (fun q => h q.1)]
theorem hole_fill {x : Int} {p : Nat} {xs : List Int} (hp : p < xs.length) (H : Holed p xs) (hk : ∀ i, 0 < i → i < xs.length → (i - 1) / 2 = p → x ≤ xs.getD i 0) (hq : 0 < p → xs.getD ((p - 1) / 2) 0 ≤ x) : Heap0 (xs.set p x) := by
  intro i hi hl
  rw [List.length_set] at hl
  by_cases h1 : p = i
  · have e1 : (xs.set p x).getD ((i - 1) / 2) 0 = xs.getD ((i - 1) / 2) 0 := set_off (by omega)
    have e2 : (xs.set p x).getD i 0 = x := set_at hp h1
    rw [e1, e2, ← h1]
    exact hq (by omega)
  · have e2 : (xs.set p x).getD i 0 = xs.getD i 0 := set_off h1
    rw [e2]
    by_cases h2 : p = (i - 1) / 2
    · rw [set_at hp h2]
      exact hk i hi hl h2.symm
    · rw [set_off h2]
      exact H.1 i hi hl (fun h => h1 h.symm) (fun h => h2 h.symm)
theorem sd_heap (x : Int) : ∀ (n p : Nat) (xs : List Int), p ≤ n → p < xs.length → Holed p xs → (∀ i, 0 < i → i < xs.length → (i - 1) / 2 = p → x ≤ xs.getD i 0) → Heap0 (sd x p xs) := by
  intro n
  induction n with
  | zero =>
    intro p xs h hp H hk
    have h0 : p = 0 := by omega
    subst h0
    rw [sd, dif_pos rfl]
    exact hole_fill hp H hk (fun h => by omega)
  | succ n ih =>
    intro p xs h hp H hk
    rw [sd]
    split
    · rename_i h0
      subst h0
      exact hole_fill hp H hk (fun h => by omega)
    · rename_i h0
      split
      · rename_i hx
        have hpq : (p - 1) / 2 < p := by omega
        generalize hq : (p - 1) / 2 = q at *
        have hql : q < (xs.set p (xs.getD q 0)).length := by rw [List.length_set]; omega
        refine ih q _ (by omega) hql ⟨fun i hi hl h1 h2 => ?_, fun i hi hl h1 h2 => ?_⟩ fun i hi hl h1 => ?_
        · rw [List.length_set] at hl
          have hip : p ≠ i := by intro e; subst e; exact h2 hq
          rw [set_off hip]
          by_cases h3 : p = (i - 1) / 2
          · rw [set_at hp h3]
            have := H.2 i hi hl h3.symm (by omega)
            rwa [hq] at this
          · rw [set_off h3]
            exact H.1 i hi hl (fun e => hip e.symm) (fun e => h3 e.symm)
        · rw [List.length_set] at hl
          have hpp : p ≠ (q - 1) / 2 := by omega
          rw [set_off hpp]
          have hqq := H.1 q h2 (by omega) (by omega) (fun e => hpp e.symm)
          by_cases h3 : p = i
          · rw [set_at hp h3]; exact hqq
          · rw [set_off h3]
            have := H.1 i hi hl (fun e => h3 e.symm) (by omega)
            rw [h1] at this
            omega
        · rw [List.length_set] at hl
          by_cases h3 : p = i
          · rw [set_at hp h3]; omega
          · rw [set_off h3]
            have := H.1 i hi hl (fun e => h3 e.symm) (by omega)
            rw [h1] at this
            omega
      · rename_i hx
        exact hole_fill hp H hk (fun _ => by omega)
theorem sd_tot (f : Int → Int) (x : Int) : ∀ (n p : Nat) (xs : List Int), p ≤ n → p < xs.length → tot f (sd x p xs) = tot f (xs.set p x) := by
  intro n
  induction n with
  | zero =>
    intro p xs h hp
    have h0 : p = 0 := by omega
    subst h0
    rw [sd, dif_pos rfl]
  | succ n ih =>
    intro p xs h hp
    rw [sd]
    split
    · rename_i h0; rw [h0]
    · split
      · rw [ih _ _ (by omega) (by rw [List.length_set]; omega)]
        exact tot_swap f x hp (by omega) (by omega)
      · rfl
theorem kid_lt {p : Nat} {xs : List Int} (h : 2 * p + 1 < xs.length) : kid p xs < xs.length ∧ p < kid p xs ∧ (kid p xs - 1) / 2 = p := by
  unfold kid
  split <;> omega
theorem kid_le {p i : Nat} {xs : List Int} (hl : i < xs.length) (hi : 0 < i) (h1 : (i - 1) / 2 = p) : xs.getD (kid p xs) 0 ≤ xs.getD i 0 := by
  unfold kid
  have h2 : i = 2 * p + 1 ∨ i = 2 * p + 2 := by omega
  split
  · rcases h2 with h2 | h2
    · rw [h2]; omega
    · rw [h2]; omega
  · rename_i hn
    rcases h2 with h2 | h2
    · rw [h2]; omega
    · have : xs.getD (2 * p + 1) 0 < xs.getD (2 * p + 2) 0 := by
        apply Classical.byContradiction
        intro h3
        exact hn ⟨by omega, h3⟩
      rw [h2]; omega
theorem su_holed : ∀ (n p : Nat) (xs : List Int), xs.length - p ≤ n → p < xs.length → Holed p xs → (su p xs).1 < xs.length ∧ xs.length ≤ 2 * (su p xs).1 + 1 ∧ Holed (su p xs).1 (su p xs).2 ∧ ∀ f x, tot f ((su p xs).2.set (su p xs).1 x) = tot f (xs.set p x) := by
  intro n
  induction n with
  | zero => intro p xs h hp; omega
  | succ n ih =>
    intro p xs h hp H
    rw [su]
    split
    · rename_i hc
      obtain ⟨k1, k2, k3⟩ := kid_lt hc
      have kl : ∀ i, i < xs.length → 0 < i → (i - 1) / 2 = p → xs.getD (kid p xs) 0 ≤ xs.getD i 0 := fun i a b c => kid_le a b c
      generalize kid p xs = c at *
      have hlen : (xs.set p (xs.getD c 0)).length = xs.length := List.length_set
      obtain ⟨i1, i2, i3, i4⟩ := ih c (xs.set p (xs.getD c 0)) (by rw [hlen]; omega) (by rw [hlen]; exact k1) ⟨fun i hi hl h1 h2 => by
        rw [hlen] at hl
        by_cases h3 : p = i
        · rw [set_at hp h3, set_off (by omega)]
          have := H.2 c (by omega) k1 k3 (by omega)
          rw [← h3]
          exact this
        · rw [set_off h3]
          by_cases h4 : p = (i - 1) / 2
          · rw [set_at hp h4]
            exact kl i hl hi h4.symm
          · rw [set_off h4]
            exact H.1 i hi hl (fun e => h3 e.symm) (fun e => h4 e.symm), fun i hi hl h1 h2 => by
        rw [hlen] at hl
        rw [set_at hp k3.symm, set_off (by omega)]
        have := H.1 i hi hl (by omega) (by omega)
        rwa [h1] at this⟩
      rw [hlen] at i1 i2
      exact ⟨i1, i2, i3, fun f x => by rw [i4 f x]; exact tot_swap f x hp k1 (by omega)⟩
    · exact ⟨hp, by omega, H, fun _ _ => rfl⟩
/-- a heap but for the root: sup mends it -/
theorem sup_heap {xs : List Int} (h : 0 < xs.length) (H : Holed 0 xs) : Heap0 (sup xs) ∧ ∀ f, tot f (sup xs) = tot f xs := by
  obtain ⟨i1, i2, i3, i4⟩ := su_holed _ 0 xs (Nat.le_refl _) h H
  have hl := su_len _ 0 xs (Nat.le_refl _)
  unfold sup
  have hlt : (su 0 xs).1 < ((su 0 xs).2.set (su 0 xs).1 (xs.getD 0 0)).length := by rw [List.length_set, hl]; exact i1
  refine ⟨sd_heap _ _ _ _ (Nat.le_refl _) hlt ⟨fun i hi hll h1 h2 => ?_, fun i hi hll h1 h2 => ?_⟩ fun i hi hll h1 => ?_, fun f => ?_⟩
  · rw [List.length_set] at hll
    rw [set_off (by omega), set_off (by omega)]
    exact i3.1 i hi hll h1 h2
  · rw [List.length_set] at hll
    rw [set_off (by omega), set_off (by omega)]
    exact i3.2 i hi hll h1 h2
  · rw [List.length_set, hl] at hll
    omega
  · rw [sd_tot f _ _ _ _ (Nat.le_refl _) hlt, List.set_set, i4]
    have e := tot_set f (xs.getD 0 0) xs 0 h
    omega
theorem heap_min {xs : List Int} (H : Heap0 xs) : ∀ (n i : Nat), i ≤ n → i < xs.length → xs.getD 0 0 ≤ xs.getD i 0 := by
  intro n
  induction n with
  | zero => intro i h _; rw [show i = 0 by omega]; omega
  | succ n ih =>
    intro i h hl
    by_cases h0 : i = 0
    · rw [h0]; omega
    · have h1 := H i (by omega) hl
      have h2 := ih ((i - 1) / 2) (by omega) (by omega)
      omega
theorem heap_least {xs : List Int} (H : Heap0 xs) {y : Int} (hy : y ∈ xs) : xs.getD 0 0 ≤ y := by
  obtain ⟨i, hi, rfl⟩ := List.mem_iff_getElem.mp hy
  have := heap_min H i i (Nat.le_refl _) hi
  have e : xs.getD i 0 = xs[i] := by simp [List.getD, hi]
  rwa [e] at this
theorem push_ok {h : List Int} (H : Heap0 h) (x : Int) : Heap0 (push h x) ∧ ∀ f, tot f (push h x) = tot f h + f x := by
  unfold push
  have hlen : (h ++ [x]).length = h.length + 1 := by simp
  refine ⟨sd_heap _ _ _ _ (Nat.le_refl _) (by omega) ⟨fun i hi hl h1 h2 => ?_, fun i hi hl h1 h2 => ?_⟩ fun i hi hl h1 => ?_, fun f => ?_⟩
  · have e1 : i < h.length := by omega
    have e2 : (i - 1) / 2 < h.length := by omega
    have := H i hi e1
    simpa [List.getD, List.getElem?_append, e1, e2] using this
  · omega
  · omega
  · rw [sd_tot f _ _ _ _ (Nat.le_refl _) (by omega)]
    have e : (h ++ [x]).set h.length x = h ++ [x] := by simp
    rw [e, tot_app, tot, tot]
    omega
theorem heapUp_ok (xs : List Int) : Heap0 (heapUp xs) ∧ (∀ f, tot f (heapUp xs) = tot f xs) ∧ (heapUp xs).length = xs.length := by
  have main : ∀ (xs h : List Int), Heap0 h → Heap0 (xs.foldl push h) ∧ (∀ f, tot f (xs.foldl push h) = tot f h + tot f xs) ∧ (xs.foldl push h).length = h.length + xs.length := by
    intro xs
    induction xs with
    | nil => intro h H; exact ⟨H, fun f => by simp [tot], rfl⟩
    | cons x r ih =>
      intro h H
      obtain ⟨p1, p2⟩ := push_ok H x
      obtain ⟨a, b, c⟩ := ih (push h x) p1
      refine ⟨a, fun f => ?_, ?_⟩
      · rw [List.foldl_cons, b, p2, tot]; omega
      · rw [List.foldl_cons, c]
        unfold push
        rw [sd_len]; simp; omega
  obtain ⟨a, b, c⟩ := main xs [] (fun i hi hl => absurd hl (Nat.not_lt_zero _))
  exact ⟨a, fun f => by rw [heapUp, b]; simp [tot], by rw [heapUp, c]; simp⟩
theorem popr_ok {h : List Int} (H : Heap0 h) (h0 : 0 < h.length) : Heap0 (popr h) ∧ (∀ f, tot f h = f (h.getD 0 0) + tot f (popr h)) ∧ (popr h).length = h.length - 1 := by
  unfold popr
  by_cases h1 : h.length ≤ 1
  · rw [if_pos h1]
    match h, h0, h1 with
    | [a], _, _ => exact ⟨fun i hi hl => absurd hl (Nat.not_lt_zero _), fun f => rfl, rfl⟩
  · rw [if_neg h1]
    have hne : h ≠ [] := by intro e; subst e; exact absurd h0 (Nat.lt_irrefl _)
    have hdl : h.dropLast.length = h.length - 1 := List.length_dropLast
    have hgd : ∀ i, i < h.length - 1 → h.dropLast.getD i 0 = h.getD i 0 := by
      intro i hi
      have e1 : i < h.dropLast.length := by omega
      have e2 : i < h.length := by omega
      simp [List.getD, List.getElem?_dropLast, hi, e2]
    obtain ⟨s1, s2⟩ := sup_heap (xs := h.dropLast.set 0 (h.getLastD 0)) (by rw [List.length_set]; omega) ⟨fun i hi hl a b => by
      rw [List.length_set] at hl
      rw [set_off (by omega), set_off (by omega), hgd _ (by omega), hgd _ (by omega)]
      exact H i hi (by omega), fun i hi hl a b => by omega⟩
    refine ⟨s1, fun f => ?_, by rw [sup_len, List.length_set, hdl]⟩
    rw [s2, tot_set _ _ _ _ (by omega), hgd 0 (by omega)]
    have e : h = h.dropLast ++ [h.getLastD 0] := by
      have e1 : h.getLastD 0 = h.getLast hne := by
        rw [List.getLastD_eq_getLast?, List.getLast?_eq_some_getLast hne]; rfl
      rw [e1]
      exact (List.dropLast_concat_getLast hne).symm
    have e2 : tot f h = tot f h.dropLast + f (h.getLastD 0) := by
      conv => lhs; rw [e]
      rw [tot_app, tot, tot]; omega
    rw [e2]
    omega
theorem repl_ok {h : List Int} (H : Heap0 h) (h0 : 0 < h.length) (v : Int) : Heap0 (sup (h.set 0 v)) ∧ (∀ f, tot f (sup (h.set 0 v)) = tot f h - f (h.getD 0 0) + f v) ∧ (sup (h.set 0 v)).length = h.length := by
  obtain ⟨s1, s2⟩ := sup_heap (xs := h.set 0 v) (by rw [List.length_set]; exact h0) ⟨fun i hi hl a b => by
      rw [List.length_set] at hl
      rw [set_off (by omega), set_off (by omega)]
      exact H i hi hl, fun i hi hl a b => by omega⟩
  exact ⟨s1, fun f => by rw [s2, tot_set _ _ _ _ h0], by rw [sup_len, List.length_set]⟩
end Mine
namespace Mine
theorem mem_perm {xs ys : List Int} (h : ∀ f, tot f xs = tot f ys) {y : Int} : y ∈ xs ↔ y ∈ ys := (perm_tot h).mem_iff
/-- two of place m against one of the place above -/
noncomputable def two (f : Int → Int) (m : Int) : Int := 2 * f m - f (m + 1)
structure FallOk (r : List Int × List Int) (S : (Int → Int) → Int) (n : Nat) : Prop where
  up : r.1.Pairwise (· < ·)
  nn : ∀ a ∈ r.1, 0 ≤ a
  jup : r.2.Pairwise (· ≤ ·)
  jnn : ∀ a ∈ r.2, 0 ≤ a
  eq : ∀ f, tot f r.1 + tot (two f) r.2 = S f
  len : r.1.length + r.2.length = n
theorem pw_snoc {R : Int → Int → Prop} {k : List Int} {m : Int} (h : k.Pairwise R) (hm : ∀ a ∈ k, R a m) : (k ++ [m]).Pairwise R := by
  rw [List.pairwise_append]
  exact ⟨h, List.pairwise_singleton _ _, fun a ha b hb => by rw [List.mem_singleton.mp hb]; exact hm a ha⟩
theorem fall_ok : ∀ (n : Nat) (h k j : List Int), h.length = n → Heap0 h → (∀ y ∈ h, 0 ≤ y) → k.Pairwise (· < ·) → (∀ a ∈ k, ∀ b ∈ h, a < b) → (∀ a ∈ k, 0 ≤ a) → j.Pairwise (· ≤ ·) → (∀ a ∈ j, ∀ b ∈ h, a ≤ b) → (∀ a ∈ j, 0 ≤ a) →
    FallOk (fall n h k j) (fun f => tot f h + tot f k + tot (two f) j) (n + k.length + j.length) := by
  intro n
  induction n with
  | zero =>
    intro h k j hl H h0 k1 k2 k3 j1 j2 j3
    have e : h = [] := List.eq_nil_of_length_eq_zero hl
    subst e
    exact ⟨k1, k3, j1, j3, fun f => by show tot f k + tot (two f) j = tot f [] + tot f k + tot (two f) j; simp only [tot]; omega, by show k.length + j.length = _; omega⟩
  | succ n ih =>
    intro h k j hl H h0 k1 k2 k3 j1 j2 j3
    obtain ⟨p1, p2, p3⟩ := popr_ok H (by omega)
    have hmem : h.getD 0 0 ∈ h := by
      match h, hl with
      | a :: r, _ => exact .head _
    have hsub : ∀ y ∈ popr h, y ∈ h := fun y hy => by
      have : ∀ f, tot f h = tot f (h.getD 0 0 :: popr h) := fun f => by rw [p2 f, tot]
      exact (mem_perm this).mpr (.tail _ hy)
    have hle : ∀ y ∈ popr h, h.getD 0 0 ≤ y := fun y hy => heap_least H (hsub y hy)
    have hm0 := h0 _ hmem
    show FallOk (if _ then _ else _) _ _
    split
    · rename_i hc
      obtain ⟨c1, c2⟩ := hc
      obtain ⟨r1, r2, r3⟩ := repl_ok p1 c1 (h.getD 0 0 + 1)
      have hin : ∀ y ∈ sup ((popr h).set 0 (h.getD 0 0 + 1)), h.getD 0 0 ≤ y := fun y hy => by
        have e : ∀ f, tot f (sup ((popr h).set 0 (h.getD 0 0 + 1))) = tot f ((popr h).set 0 (h.getD 0 0 + 1)) := fun f => by rw [r2, tot_set _ _ _ _ c1]
        have hy2 := (mem_perm e).mp hy
        rcases List.mem_or_eq_of_mem_set hy2 with q | q
        · exact hle y q
        · omega
      have I := ih (sup ((popr h).set 0 (h.getD 0 0 + 1))) k (j ++ [(popr h).getD 0 0]) (by rw [r3, p3]; omega) r1 (fun y hy => by have := hin y hy; omega) k1 (fun a ha b hb => by have := k2 a ha _ hmem; have := hin b hb; omega) k3
        (pw_snoc j1 fun a ha => by rw [c2]; exact j2 a ha _ hmem) (fun a ha b hb => by
          have := hin b hb
          rcases List.mem_append.mp ha with q | q
          · have := j2 a q _ hmem; omega
          · rw [List.mem_singleton.mp q, c2]; exact this) (fun a ha => by
          rcases List.mem_append.mp ha with q | q
          · exact j3 a q
          · rw [List.mem_singleton.mp q, c2]; exact hm0)
      refine ⟨I.up, I.nn, I.jup, I.jnn, fun f => ?_, ?_⟩
      · have e1 := I.eq f
        have e2 := r2 f
        have e3 := p2 f
        have e4 : tot (two f) (j ++ [(popr h).getD 0 0]) = tot (two f) j + (2 * f (h.getD 0 0) - f (h.getD 0 0 + 1)) := by
          rw [tot_app, c2]
          simp only [tot, two]
          omega
        rw [c2] at e2
        (try dsimp only at e1 ⊢)
        omega
      · have e1 := I.len
        rw [List.length_append, List.length_singleton] at e1
        omega
    · rename_i hc
      have hlt : ∀ y ∈ popr h, h.getD 0 0 < y := fun y hy => by
        have h1 := hle y hy
        have hpl : 0 < (popr h).length := List.length_pos_of_mem hy
        have h2 : (popr h).getD 0 0 ≠ h.getD 0 0 := fun e => hc ⟨hpl, e⟩
        have h3 := heap_least p1 hy
        have h4 : (popr h).getD 0 0 ∈ popr h := by
          match popr h, hpl with
          | a :: r, _ => exact .head _
        have h5 := hle _ h4
        omega
      have I := ih (popr h) (k ++ [h.getD 0 0]) j (by rw [p3]; omega) p1 (fun y hy => h0 y (hsub y hy)) (pw_snoc k1 fun a ha => k2 a ha _ hmem) (fun a ha b hb => by
          rcases List.mem_append.mp ha with q | q
          · exact k2 a q b (hsub b hb)
          · rw [List.mem_singleton.mp q]; exact hlt b hb) (fun a ha => by
          rcases List.mem_append.mp ha with q | q
          · exact k3 a q
          · rw [List.mem_singleton.mp q]; exact hm0) j1 (fun a ha b hb => j2 a ha b (hsub b hb)) j3
      refine ⟨I.up, I.nn, I.jup, I.jnn, fun f => ?_, ?_⟩
      · have e1 := I.eq f
        have e3 := p2 f
        rw [tot_app] at e1
        simp only [tot] at e1
        (try dsimp only at e1 ⊢)
        omega
      · have e1 := I.len
        rw [List.length_append, List.length_singleton] at e1
        omega
theorem fallen_ok {xs : List Int} (h0 : ∀ x ∈ xs, 0 ≤ x) : FallOk (fallen xs) (fun f => tot f xs) xs.length := by
  obtain ⟨a, b, c⟩ := heapUp_ok xs
  have I := fall_ok xs.length (heapUp xs) [] [] c a (fun y hy => h0 y ((mem_perm b).mp hy)) .nil (fun _ h => nomatch h) (fun _ h => nomatch h) .nil (fun _ h => nomatch h) (fun _ h => nomatch h)
  refine ⟨I.up, I.nn, I.jup, I.jnn, fun f => ?_, by have e := I.len; simp at e; exact e⟩
  have e := I.eq f
  simp only [tot, b] at e
  unfold fallen
  omega
theorem fallen_len (xs : List Int) : (fallen xs).1.length + (fallen xs).2.length = xs.length := by
  have main : ∀ (n : Nat) (h k j : List Int), h.length = n → (fall n h k j).1.length + (fall n h k j).2.length = n + k.length + j.length := by
    intro n
    induction n with
    | zero => intro h k j _; show k.length + j.length = _; omega
    | succ n ih =>
      intro h k j hl
      have hp : (popr h).length = n := by
        unfold popr
        split
        · simp; omega
        · rw [sup_len, List.length_set, List.length_dropLast]; omega
      show (if _ then _ else _ : List Int × List Int).1.length + (if _ then _ else _ : List Int × List Int).2.length = _
      split
      · rw [ih _ _ _ (by rw [sup_len, List.length_set]; exact hp), List.length_append, List.length_singleton]; omega
      · rw [ih _ _ _ hp, List.length_append, List.length_singleton]; omega
  have := main xs.length (heapUp xs) [] [] (heapUp_ok xs).2.2
  simpa [fallen] using this
end Mine
namespace Mine
noncomputable def pw (x : Int) : Int := 2 ^ x.toNat
noncomputable def spf (p x : Int) : Int := if x ≤ p then 2 ^ x.toNat else 0
noncomputable def Wt (xs : List Int) : Int := tot pw xs
noncomputable def Sp (p : Int) (xs : List Int) : Int := tot (spf p) xs
theorem tot_congr {f g : Int → Int} {xs : List Int} (h : ∀ x ∈ xs, f x = g x) : tot f xs = tot g xs := by
  induction xs with
  | nil => rfl
  | cons x r ih => rw [tot, tot, h x (.head _), ih fun y hy => h y (.tail _ hy)]
theorem tot_zero {f : Int → Int} {xs : List Int} (h : ∀ x ∈ xs, f x = 0) : tot f xs = 0 := by
  induction xs with
  | nil => rfl
  | cons x r ih => rw [tot, h x (.head _), ih fun y hy => h y (.tail _ hy)]; rfl
theorem tot_nn {f : Int → Int} {xs : List Int} (h : ∀ x ∈ xs, 0 ≤ f x) : 0 ≤ tot f xs := by
  induction xs with
  | nil => exact Int.le_refl _
  | cons x r ih => have := h x (.head _); have := ih fun y hy => h y (.tail _ hy); rw [tot]; omega
theorem tot_le {f g : Int → Int} {xs : List Int} (h : ∀ x ∈ xs, f x ≤ g x) : tot f xs ≤ tot g xs := by
  induction xs with
  | nil => exact Int.le_refl _
  | cons x r ih => have := h x (.head _); have := ih fun y hy => h y (.tail _ hy); rw [tot, tot]; omega
theorem tot_scale (f : Int → Int) (c : Int) (xs : List Int) : tot (fun x => c * f x) xs = c * tot f xs := by
  induction xs with
  | nil => simp [tot]
  | cons x r ih => rw [tot, tot, ih, Int.mul_add]
theorem pw_pos (x : Int) : 0 < (2 : Int) ^ x.toNat := Int.pow_pos (by decide)
theorem pow_up {m : Int} (h : 0 ≤ m) : (2 : Int) ^ (m + 1).toNat = 2 * 2 ^ m.toNat := by
  rw [show (m + 1).toNat = m.toNat + 1 by omega, Int.pow_succ]; omega
theorem two_pw {m : Int} (h : 0 ≤ m) : two pw m = 0 := by
  unfold two pw
  rw [pow_up h]; omega
theorem two_spf {p m : Int} (h : 0 ≤ m) : two (spf p) m = 2 ^ (p + 1).toNat * ind p m := by
  unfold two spf ind
  by_cases h1 : m = p
  · subst h1
    rw [if_pos (by omega), if_neg (by omega), if_pos rfl, pow_up h]; omega
  · rw [if_neg h1, Int.mul_zero]
    by_cases h2 : m ≤ p
    · rw [if_pos h2, if_pos (by omega), pow_up h]; omega
    · rw [if_neg h2, if_neg (by omega)]; rfl
theorem bel_Sp (xs : List Int) (p : Int) : bel xs p = Sp p xs := by
  unfold bel pows Sp
  induction xs with
  | nil => rfl
  | cons x r ih =>
    rw [tot, ← ih]
    unfold spf
    by_cases h : x ≤ p
    · simp [List.filter, h]
    · simp [List.filter, h]
theorem kept_W {xs : List Int} (h0 : ∀ x ∈ xs, 0 ≤ x) : Wt (fallen xs).1 = Wt xs := by
  have I := fallen_ok h0
  have e := I.eq pw
  rw [tot_zero (f := two pw) fun x hx => two_pw (I.jnn x hx)] at e
  unfold Wt
  omega
theorem join_cnt {xs : List Int} (h0 : ∀ x ∈ xs, 0 ≤ x) (p : Int) : Sp p (fallen xs).1 + 2 ^ (p + 1).toNat * ((fallen xs).2.count p : Int) = Sp p xs := by
  have I := fallen_ok h0
  have e := I.eq (spf p)
  rw [tot_congr (f := two (spf p)) fun x hx => two_spf (I.jnn x hx), tot_scale, tot_ind] at e
  exact e
theorem sp_small {p : Int} : ∀ {k : List Int} {c : Int}, 0 ≤ c → c ≤ p + 1 → k.Pairwise (· < ·) → (∀ a ∈ k, c ≤ a) → Sp p k ≤ 2 ^ (p + 1).toNat - 2 ^ c.toNat
  | [], c, h0, h1, _, _ => by
    have := pow_le_pow (show c.toNat ≤ (p + 1).toNat by omega)
    show (0 : Int) ≤ _
    omega
  | a :: t, c, h0, h1, hp, hk => by
    have ha := hk a (.head _)
    obtain ⟨q1, q2⟩ := List.pairwise_cons.mp hp
    show spf p a + Sp p t ≤ _
    unfold spf
    by_cases h2 : a ≤ p
    · have I := sp_small (p := p) (k := t) (c := a + 1) (by omega) (by omega) q2 (fun b hb => by have := q1 b hb; omega)
      rw [if_pos h2]
      have e := pow_up (m := a) (by omega)
      have := pow_le_pow (show c.toNat ≤ a.toNat by omega)
      omega
    · have I := sp_small (p := p) (k := t) (c := c) h0 h1 q2 (fun b hb => hk b (.tail _ hb))
      rw [if_neg h2]
      omega
theorem sp_lt {p : Int} {k : List Int} (hp : 0 ≤ p) (hk : k.Pairwise (· < ·)) (h0 : ∀ a ∈ k, 0 ≤ a) : 0 ≤ Sp p k ∧ Sp p k < 2 ^ (p + 1).toNat := by
  have := sp_small (p := p) (c := 0) (by omega) (by omega) hk h0
  refine ⟨tot_nn fun x _ => ?_, by have : (2 : Int) ^ (0 : Int).toNat = 1 := rfl; omega⟩
  unfold spf
  split
  · exact Int.le_of_lt (pw_pos x)
  · omega
theorem div_of {a r c b : Int} (hb : 0 < b) (h0 : 0 ≤ r) (h1 : r < b) (e : r + b * c = a) : a / b = c := by
  rw [← e, Int.add_mul_ediv_left _ _ (by omega), Int.ediv_eq_zero_of_lt h0 h1]; omega
theorem join_div {xs : List Int} (h0 : ∀ x ∈ xs, 0 ≤ x) {p : Int} (hp : 0 ≤ p) : ((fallen xs).2.count p : Int) = Sp p xs / 2 ^ (p + 1).toNat := by
  have I := fallen_ok h0
  obtain ⟨a, b⟩ := sp_lt hp I.up I.nn
  exact (div_of (Int.pow_pos (by decide)) a b (join_cnt h0 p)).symm
/-- parted at a cut: as many fall together at p -/
theorem parted_cnt {xs ys : List Int} (h0 : ∀ x ∈ xs, 0 ≤ x) (h1 : ∀ x ∈ ys, 0 ≤ x) {p : Int} (hp : 0 ≤ p) :
    ((fallen xs).2.count p : Int) + ((fallen ys).2.count p : Int) + ((fallen ((fallen ys).1 ++ (fallen xs).1)).2.count p : Int) = Sp p (xs ++ ys) / 2 ^ (p + 1).toNat := by
  have Ix := fallen_ok h0
  have Iy := fallen_ok h1
  have h2 : ∀ x ∈ (fallen ys).1 ++ (fallen xs).1, 0 ≤ x := fun x hx => (List.mem_append.mp hx).elim (Iy.nn x) (Ix.nn x)
  have Iz := fallen_ok h2
  obtain ⟨a, b⟩ := sp_lt hp Iz.up Iz.nn
  have e1 := join_cnt h0 p
  have e2 := join_cnt h1 p
  have e3 := join_cnt h2 p
  have e4 : Sp p ((fallen ys).1 ++ (fallen xs).1) = Sp p (fallen ys).1 + Sp p (fallen xs).1 := tot_app _ _ _
  have e5 : Sp p (xs ++ ys) = Sp p xs + Sp p ys := tot_app _ _ _
  refine (div_of (Int.pow_pos (by decide)) a b ?_).symm
  rw [Int.mul_add, Int.mul_add]
  omega
theorem parted_W {xs ys : List Int} (h0 : ∀ x ∈ xs, 0 ≤ x) (h1 : ∀ x ∈ ys, 0 ≤ x) : Wt (fallen ((fallen ys).1 ++ (fallen xs).1)).1 = Wt (xs ++ ys) := by
  have Ix := fallen_ok h0
  have Iy := fallen_ok h1
  have h2 : ∀ x ∈ (fallen ys).1 ++ (fallen xs).1, 0 ≤ x := fun x hx => (List.mem_append.mp hx).elim (Iy.nn x) (Ix.nn x)
  rw [kept_W h2]
  have e1 := kept_W h0
  have e2 := kept_W h1
  unfold Wt at *
  rw [tot_app, tot_app]; omega
/-- the bits of a worth are the places that are kept -/
theorem bit_mem : ∀ {k : List Int} {c : Int}, 0 ≤ c → k.Pairwise (· < ·) → (∀ a ∈ k, c ≤ a) → (∃ u, Wt k = 2 ^ c.toNat * u) ∧ ∀ b : Int, 0 ≤ b → (Wt k / 2 ^ b.toNat % 2 = 1 ↔ b ∈ k)
  | [], c, _, _, _ => ⟨⟨0, by simp [Wt, tot]⟩, fun b _ => by simp [Wt, tot]⟩
  | a :: t, c, h0, hp, hk => by
    have ha := hk a (.head _)
    obtain ⟨q1, q2⟩ := List.pairwise_cons.mp hp
    obtain ⟨⟨u, hu⟩, I⟩ := bit_mem (k := t) (c := a + 1) (by omega) q2 (fun b hb => by have := q1 b hb; omega)
    have e : Wt (a :: t) = 2 ^ a.toNat * (1 + 2 * u) := by
      show pw a + Wt t = _
      rw [hu, pow_up (by omega)]
      unfold pw
      rw [Int.mul_add, Int.mul_one, ← Int.mul_assoc, Int.mul_comm 2]
    refine ⟨⟨2 ^ (a - c).toNat * (1 + 2 * u), by rw [e, ← Int.mul_assoc, ← Int.pow_add, show c.toNat + (a - c).toNat = a.toNat by omega]⟩, fun b hb => ?_⟩
    have hpa : (0 : Int) < 2 ^ a.toNat := pw_pos a
    have hpb : (0 : Int) < 2 ^ b.toNat := pw_pos b
    by_cases h1 : b < a
    · have h2 : b ∉ a :: t := fun h => by
        rcases List.mem_cons.mp h with q | q
        · omega
        · have := q1 b q; omega
      have e2 : Wt (a :: t) = 2 ^ b.toNat * (2 * (2 ^ (a - b - 1).toNat * (1 + 2 * u))) := by
        rw [e, ← Int.mul_assoc, ← Int.mul_assoc, ← Int.pow_succ, ← Int.pow_add, show b.toNat + 1 + (a - b - 1).toNat = a.toNat by omega]
      rw [e2, Int.mul_ediv_cancel_left _ (by omega)]
      constructor
      · intro h; omega
      · intro h; exact absurd h h2
    · by_cases h3 : b = a
      · rw [e, h3, Int.mul_ediv_cancel_left _ (by omega)]
        constructor
        · intro _; exact .head _
        · intro _; omega
      · have h4 : Wt (a :: t) / 2 ^ b.toNat = Wt t / 2 ^ b.toNat := by
          have e6 : b.toNat = (a + 1).toNat + (b - a - 1).toNat := by omega
          have e3 : Wt (a :: t) / 2 ^ (a + 1).toNat = u := div_of (pw_pos _) (Int.le_of_lt hpa) (by rw [pow_up (by omega)]; omega) (show 2 ^ a.toNat + 2 ^ (a + 1).toNat * u = Wt (a :: t) by rw [e, pow_up (by omega), Int.mul_add, Int.mul_one, ← Int.mul_assoc, Int.mul_comm 2])
          have e4 : Wt t / 2 ^ (a + 1).toNat = u := by rw [hu, Int.mul_ediv_cancel_left _ (Int.ne_of_gt (pw_pos _))]
          rw [e6, ← ediv_pow, ← ediv_pow, e3, e4]
        rw [h4, I b hb, List.mem_cons]
        constructor
        · intro h; exact .inr h
        · intro h; exact h.resolve_left h3
theorem pw_nodup {k : List Int} (h : k.Pairwise (· < ·)) : k.Nodup := h.imp fun h => Int.ne_of_lt h
theorem up_ext {k l : List Int} (h1 : k.Pairwise (· < ·)) (h2 : l.Pairwise (· < ·)) (h : ∀ x, x ∈ k ↔ x ∈ l) : k = l := by
  have P : k.Perm l := (List.perm_ext_iff_of_nodup (pw_nodup h1) (pw_nodup h2)).mpr h
  exact P.eq_of_pairwise (fun a b _ _ x y => by omega) h1 h2
theorem le_ext {k l : List Int} (h1 : k.Pairwise (· ≤ ·)) (h2 : l.Pairwise (· ≤ ·)) (h : ∀ x, k.count x = l.count x) : k = l := by
  have P : k.Perm l := List.perm_iff_count.mpr h
  exact P.eq_of_pairwise (fun a b _ _ x y => by omega) h1 h2
/-- one worth, one row of ones -/
theorem W_inj {k l : List Int} (h1 : k.Pairwise (· < ·)) (h2 : l.Pairwise (· < ·)) (p1 : ∀ a ∈ k, 0 ≤ a) (p2 : ∀ a ∈ l, 0 ≤ a) (h : Wt k = Wt l) : k = l := by
  refine up_ext h1 h2 fun x => ?_
  have a := (bit_mem (by omega) h1 p1).2 x
  have b := (bit_mem (by omega) h2 p2).2 x
  rw [h] at a
  constructor
  · intro hx
    exact (b (p1 x hx)).mp ((a (p1 x hx)).mpr hx)
  · intro hx
    exact (a (p2 x hx)).mp ((b (p2 x hx)).mpr hx)
end Mine
namespace Mine
theorem sp_le_W (p : Int) (xs : List Int) : Sp p xs ≤ Wt xs := tot_le fun x _ => by
  unfold spf pw
  have := pw_pos x
  split <;> omega
theorem Wt_le {xs : List Int} (h : ∀ x ∈ xs, 0 ≤ x ∧ x < 16) : Wt xs ≤ xs.length * 32768 := by
  induction xs with
  | nil => exact Int.le_refl _
  | cons x r ih =>
    have a := ih fun y hy => h y (.tail _ hy)
    have b := pow_le_pow (show x.toNat ≤ 15 by have := h x (.head _); omega)
    have e : (2 : Int) ^ 15 = 32768 := rfl
    show pw x + Wt r ≤ _
    rw [List.length_cons]
    unfold pw
    omega
theorem Wt_nn (xs : List Int) : 0 ≤ Wt xs := tot_nn fun x _ => Int.le_of_lt (pw_pos x)
theorem Wt_pos {xs : List Int} (h : 0 < xs.length) : 0 < Wt xs := by
  match xs, h with
  | x :: r, _ =>
    have := pw_pos x
    have := Wt_nn r
    show 0 < pw x + Wt r
    unfold pw
    omega
theorem count_flat (c : Int → Nat) (x : Int) : ∀ ks : List Int, ks.Nodup → (ks.flatMap fun k => List.replicate (c k) k).count x = if x ∈ ks then c x else 0
  | [], _ => rfl
  | k :: r, h => by
    obtain ⟨h1, h2⟩ := List.nodup_cons.mp h
    rw [List.flatMap_cons, List.count_append, count_flat c x r h2, List.count_replicate]
    by_cases e : k = x
    · subst e; simp [h1]
    · have e' : ¬ x = k := fun q => e q.symm
      simp [e, e']
theorem rangeKs_up (n : Nat) : (rangeKs 0 n).Pairwise (· < ·) := by
  induction n with
  | zero => exact .nil
  | succ n ih =>
    rw [rangeKs_snoc]
    refine pw_snoc ih fun a ha => ?_
    unfold rangeKs at ha
    obtain ⟨i, hi, rfl⟩ := List.mem_map.mp ha
    have := List.mem_range.mp hi
    omega
theorem mem_rangeKs {n : Nat} {x : Int} : x ∈ rangeKs 0 n ↔ 0 ≤ x ∧ x < (n : Int) := by
  unfold rangeKs
  constructor
  · intro h
    obtain ⟨i, hi, rfl⟩ := List.mem_map.mp h
    have := List.mem_range.mp hi
    omega
  · intro ⟨h1, h2⟩
    exact List.mem_map.mpr ⟨x.toNat, List.mem_range.mpr (by omega), by omega⟩
theorem due_is {xs j : List Int} (hx : ∀ x ∈ xs, 0 ≤ x ∧ x < 16) (hl : xs.length ≤ 13) (hj : j.Pairwise (· ≤ ·)) (hn : ∀ a ∈ j, 0 ≤ a) (hc : ∀ p, 0 ≤ p → (j.count p : Int) = Sp p xs / 2 ^ (p + 1).toNat) : j = dueJ xs := by
  have e : dueJ xs = (rangeKs 0 20).flatMap fun k => List.replicate (Sp k xs / 2 ^ (k + 1).toNat).toNat k := by
    unfold dueJ
    congr 1
    funext k
    unfold dueAt
    rw [bel_Sp]
  rw [e]
  refine le_ext hj ?_ fun x => ?_
  · rw [List.pairwise_flatMap]
    refine ⟨fun a _ => List.pairwise_replicate.mpr (.inr (Int.le_refl _)), (rangeKs_up 20).imp fun h x hx y hy => ?_⟩
    rw [(List.mem_replicate.mp hx).2, (List.mem_replicate.mp hy).2]
    omega
  · rw [count_flat (fun k => (Sp k xs / 2 ^ (k + 1).toNat).toNat) x _ (pw_nodup (rangeKs_up 20))]
    by_cases h0 : 0 ≤ x
    · have h1 := hc x h0
      by_cases h2 : x < 20
      · rw [if_pos (mem_rangeKs.mpr ⟨h0, h2⟩)]
        omega
      · rw [if_neg (fun h => h2 (mem_rangeKs.mp h).2)]
        have a := sp_le_W x xs
        have b := Wt_le hx
        have c : Sp x xs / 2 ^ (x + 1).toNat = 0 := by
          refine Int.ediv_eq_zero_of_lt (tot_nn fun y _ => ?_) ?_
          · unfold spf; have := pw_pos y; split <;> omega
          · have d := pow_le_pow (show 21 ≤ (x + 1).toNat by omega)
            have e : (2 : Int) ^ 21 = 2097152 := rfl
            omega
        omega
    · rw [if_neg (fun h => h0 (mem_rangeKs.mp h).1)]
      exact List.count_eq_zero.mpr fun h => h0 (hn x h)
theorem joined_due {xs : List Int} (hx : ∀ x ∈ xs, 0 ≤ x ∧ x < 16) (hl : xs.length ≤ 13) : (fallen xs).2 = dueJ xs := by
  have h0 : ∀ x ∈ xs, 0 ≤ x := fun x h => (hx x h).1
  have I := fallen_ok h0
  exact due_is hx hl I.jup I.jnn fun p hp => join_div h0 hp
theorem parted_kept {xs ys : List Int} (h0 : ∀ x ∈ xs, 0 ≤ x) (h1 : ∀ x ∈ ys, 0 ≤ x) : (fallen ((fallen ys).1 ++ (fallen xs).1)).1 = (fallen (xs ++ ys)).1 := by
  have Ix := fallen_ok h0
  have Iy := fallen_ok h1
  have h2 : ∀ x ∈ (fallen ys).1 ++ (fallen xs).1, 0 ≤ x := fun x hx => (List.mem_append.mp hx).elim (Iy.nn x) (Ix.nn x)
  have h3 : ∀ x ∈ xs ++ ys, 0 ≤ x := fun x hx => (List.mem_append.mp hx).elim (h0 x) (h1 x)
  have Iz := fallen_ok h2
  have Iw := fallen_ok h3
  exact W_inj Iz.up Iw.up Iz.nn Iw.nn (by rw [parted_W h0 h1, kept_W h3])
theorem parted_joined {xs ys l : List Int} (hx : ∀ x ∈ xs ++ ys, 0 ≤ x ∧ x < 16) (hl : (xs ++ ys).length ≤ 13) (hs : l.Pairwise (· ≤ ·)) (hp : l.Perm ((fallen xs).2 ++ (fallen ys).2 ++ (fallen ((fallen ys).1 ++ (fallen xs).1)).2)) :
    l = (fallen (xs ++ ys)).2 := by
  have h0 : ∀ x ∈ xs, 0 ≤ x := fun x h => (hx x (List.mem_append_left _ h)).1
  have h1 : ∀ x ∈ ys, 0 ≤ x := fun x h => (hx x (List.mem_append_right _ h)).1
  have Ix := fallen_ok h0
  have Iy := fallen_ok h1
  have h2 : ∀ x ∈ (fallen ys).1 ++ (fallen xs).1, 0 ≤ x := fun x hx => (List.mem_append.mp hx).elim (Iy.nn x) (Ix.nn x)
  have Iz := fallen_ok h2
  rw [joined_due hx hl]
  refine due_is hx hl hs (fun a ha => ?_) fun p hp0 => ?_
  · have := hp.mem_iff.mp ha
    simp only [List.mem_append] at this
    rcases this with (q | q) | q
    · exact Ix.jnn a q
    · exact Iy.jnn a q
    · exact Iz.jnn a q
  · rw [hp.count_eq, List.count_append, List.count_append, ← parted_cnt h0 h1 hp0]
    omega
theorem flat_if {c : Int → Prop} [DecidablePred c] (ks : List Int) : (ks.flatMap fun p => if c p then [p] else []) = ks.filter fun p => decide (c p) := by
  induction ks with
  | nil => rfl
  | cons k r ih =>
    rw [List.flatMap_cons, ih, List.filter_cons]
    by_cases h : c k <;> simp [h]
/-- the ones of a number are the places that are kept -/
theorem ones_is {k : List Int} {w : Int} (hw : w < 2 ^ 24) (hk : k.Pairwise (· < ·)) (h0 : ∀ a ∈ k, 0 ≤ a) (e : Wt k = w) : ((rangeKs 0 24).filter fun p => decide (w / 2 ^ p.toNat % 2 = 1)) = k := by
  refine up_ext ((rangeKs_up 24).filter _) hk fun x => ?_
  have B := (bit_mem (by omega) hk h0).2 x
  rw [e] at B
  rw [List.mem_filter, mem_rangeKs, decide_eq_true_eq]
  constructor
  · rintro ⟨⟨a, _⟩, b⟩
    exact (B a).mp b
  · intro hx
    have a := h0 x hx
    have b := (B a).mpr hx
    refine ⟨⟨a, ?_⟩, b⟩
    apply Classical.byContradiction
    intro hc
    have d := pow_le_pow (show 24 ≤ x.toNat by omega)
    have w0 : 0 ≤ w := e ▸ Wt_nn k
    rw [Int.ediv_eq_zero_of_lt w0 (by omega)] at b
    omega
noncomputable def figs (w : Int) : List Int := [w / 65536 % 256 / 4, w / 65536 % 256 % 4 * 16 + w / 256 % 256 / 16, w / 256 % 256 % 16 * 4 + w % 256 / 64, w % 256 % 64]
theorem figs_in (w : Int) : ∀ f ∈ figs w, 0 ≤ f ∧ f < 64 := by
  intro f hf
  simp only [figs, List.mem_cons, List.not_mem_nil, or_false] at hf
  rcases hf with rfl | rfl | rfl | rfl <;> omega
theorem bit_six (w : Int) (k b : Nat) (hb : b < 6) : w / 2 ^ (6 * k) % 64 / 2 ^ b % 2 = w / 2 ^ (6 * k + b) % 2 := by
  have e : (64 : Int) = 2 ^ (b + (6 - b)) := by rw [show b + (6 - b) = 6 by omega]; rfl
  rw [e, emod_div, ediv_pow]
  exact emod_low _ 1 (6 - b) (by omega)
theorem flat_congr {α : Type} {f g : α → List Int} : ∀ {l : List α}, (∀ x ∈ l, f x = g x) → l.flatMap f = l.flatMap g
  | [], _ => rfl
  | x :: r, h => by rw [List.flatMap_cons, List.flatMap_cons, h x (.head _), flat_congr fun y hy => h y (.tail _ hy)]
theorem told_flat (w : Int) (g : Int → Int) (hg : ∀ k : Nat, k < 4 → g (k : Int) = w / 2 ^ (6 * k) % 64) :
    ((rangeKs 0 4).flatMap fun k => (rangeKs 0 6).flatMap fun b => if g k / 2 ^ b.toNat % 2 = 1 then [6 * k + b] else []) = (rangeKs 0 24).flatMap fun p => if w / 2 ^ p.toNat % 2 = 1 then [p] else [] := by
  have main : ∀ k : Nat, k < 4 → ((rangeKs 0 6).flatMap fun b => if g k / 2 ^ b.toNat % 2 = 1 then [6 * (k : Int) + b] else []) = (rangeKs (6 * k : Nat) 6).flatMap fun p => if w / 2 ^ p.toNat % 2 = 1 then [p] else [] := by
    intro k hk
    unfold rangeKs
    rw [List.flatMap_map, List.flatMap_map]
    refine flat_congr fun i hi => ?_
    have hi2 := List.mem_range.mp hi
    have e1 : (0 + (i : Int)).toNat = i := by omega
    have e2 : (((6 * k : Nat) : Int) + (i : Int)).toNat = 6 * k + i := by omega
    rw [e1, e2, hg k hk, bit_six w k i hi2]
    have e3 : 6 * (k : Int) + (0 + (i : Int)) = ((6 * k : Nat) : Int) + (i : Int) := by omega
    rw [e3]
  have m0 := main 0 (by omega)
  have m1 := main 1 (by omega)
  have m2 := main 2 (by omega)
  have m3 := main 3 (by omega)
  have e4 : rangeKs 0 4 = [((0 : Nat) : Int), ((1 : Nat) : Int), ((2 : Nat) : Int), ((3 : Nat) : Int)] := rfl
  have e24 : rangeKs 0 24 = rangeKs ((6 * 0 : Nat) : Int) 6 ++ rangeKs ((6 * 1 : Nat) : Int) 6 ++ rangeKs ((6 * 2 : Nat) : Int) 6 ++ rangeKs ((6 * 3 : Nat) : Int) 6 := by decide
  rw [e4, e24, List.flatMap_cons, List.flatMap_cons, List.flatMap_cons, List.flatMap_cons, m0, m1, m2, m3, List.flatMap_append, List.flatMap_append, List.flatMap_append]
  simp only [List.flatMap_nil, List.append_nil, List.append_assoc]
theorem told_is {k : List Int} {w : Int} (hw : w < 2 ^ 24) (hk : k.Pairwise (· < ·)) (h0 : ∀ a ∈ k, 0 ≤ a) (e : Wt k = w) : ot (figs w) (rangeKs 0 4) = k := by
  have w0 : 0 ≤ w := e ▸ Wt_nn k
  unfold ot
  rw [told_flat w (fun k => (figs w).getD (4 - 1 - k).toNat 0) ?_, flat_if, ones_is hw hk h0 e]
  intro i hi
  have h4 : i = 0 ∨ i = 1 ∨ i = 2 ∨ i = 3 := by omega
  rcases h4 with rfl | rfl | rfl | rfl
  · show w % 256 % 64 = w / 1 % 64; omega
  · show w / 256 % 256 % 16 * 4 + w % 256 / 64 = w / 64 % 64; omega
  · show w / 65536 % 256 % 4 * 16 + w / 256 % 256 / 16 = w / 4096 % 64; omega
  · show w / 65536 % 256 / 4 = w / 262144 % 64; omega
end Mine
namespace Mine
/-- a lies apart from all of a ledger (told so that omega does not see it) -/
noncomputable def OffAll (news : Led) (a : Addr) : Prop := ∀ q ∈ news, q.1 ≠ a
theorem OffAll.l {news : Led} {a d : Addr} {o : Obj} (h : OffAll news a) (hm : (d, o) ∈ news) : @Ne Nat d a := h _ hm
theorem OffAll.r {news : Led} {a d : Addr} {o : Obj} (h : OffAll news a) (hm : (d, o) ∈ news) : @Ne Nat a d := fun e => h _ hm e.symm
section
variable {w : World} {p : Program} {loose : List Str} {mean : ExcName → Option Value} {mg mb : Str → Option Value} {A₀ A : Around} {env : Env} {L : Addr} {m : Str → Option Value} {news : Led} {dp un : Nat} {gd : Option (List Code)} {outer : List Env} {base h₀ : Heap} {s : Shared} {Q E : Value → Shared → Prop}
theorem newsN {h h' : Heap} (N : News h₀ L h news) (K' : ∀ q ∈ news, q.1 ∉ adr [] → h'.get? q.1 = some q.2) : News h₀ L h' news := fun q hq => ⟨K' q hq (fun e => nomatch e), (N q hq).2⟩
theorem fallen_use {l : Addr} {vs : List Value} {xs : List Int} {n : Nat} (B : Below A₀ base outer h₀) (F : Fr h₀ L s.heap m) (X : (hd.heap_1 w.params).In h₀) (N : News h₀ L s.heap news) (T : Top p loose mean mg mb h₀) (hA : A = arnd dp un gd (env :: outer)) (hf : env.frame = some L) (hke : env.scope.kind = .function)
    (hm : (l, W.listOf vs.toArray n) ∈ news) (hi : IntsAre vs xs) (hd1 : dp + 20 < recursionLimit) (hsz : xs.length ≤ 100)
    (ret : ∀ a b c vs1 n1 vs2 n2 nt h' tk', Fr h₀ L h' m → News h₀ L h' ((a, ({ cls := .type "tuple", data := .seq #[.ref b, .ref c] nt } : Obj)) :: (b, W.listOf (List.toArray vs1) n1) :: (c, W.listOf (List.toArray vs2) n2) :: news) →
      OffAll news a → OffAll news b → OffAll news c → @Ne Nat a b → @Ne Nat a c → @Ne Nat b c → IntsAre vs1 (fallen xs).1 → IntsAre vs2 (fallen xs).2 → (fallen xs).1.length + (fallen xs).2.length = xs.length → Q (.ref a) { s with heap := h', toks := tk' }) :
    wpAny (model PR w) A (call (.ref 158) [.ref l]) Q E s := by
  refine useO (own := []) B F X N T hA hf hke (fun q hq => nomatch hq) (fun g H ho => fallen_c hd1 H ho (News.isList N hm) hi hsz) ?_
  rintro v h' tk news' F' K' N' ne ⟨a, b, c, vs1, n1, vs2, n2, nt, rfl, ha, hb, hc, i1, i2, x1, x2, x3⟩
  have off : ∀ q ∈ news', OffAll news q.1 := fun q hq x hx e => ne q hq x hx (fun h => nomatch h) e
  refine ret a b c vs1 n1 vs2 n2 nt h' tk F' (fun q hq => ?_) (off _ ha) (off _ hb) (off _ hc) x1 x2 x3 i1 i2 (fallen_len xs)
  rcases List.mem_cons.mp hq with rfl | hq
  · exact N' _ ha
  · rcases List.mem_cons.mp hq with rfl | hq
    · exact N' _ hb
    · rcases List.mem_cons.mp hq with rfl | hq
      · exact N' _ hc
      · exact newsN N K' q hq
theorem due_use {l : Addr} {vs : List Value} {xs : List Int} {n : Nat} (B : Below A₀ base outer h₀) (F : Fr h₀ L s.heap m) (X : (hd.heap_1 w.params).In h₀) (N : News h₀ L s.heap news) (T : Top p loose mean mg mb h₀) (hA : A = arnd dp un gd (env :: outer)) (hf : env.frame = some L) (hke : env.scope.kind = .function)
    (hm : (l, W.listOf vs.toArray n) ∈ news) (hi : IntsAre vs xs) (hd1 : dp + 20 < recursionLimit) (hsz : xs.length ≤ 13) (hr : ∀ x ∈ xs, 0 ≤ x ∧ x < 16)
    (ret : ∀ a vs1 n1 h' tk', Fr h₀ L h' m → News h₀ L h' ((a, W.listOf (List.toArray vs1) n1) :: news) → OffAll news a → IntsAre vs1 (dueJ xs) → Q (.ref a) { s with heap := h', toks := tk' }) :
    wpAny (model PR w) A (call (.ref 163) [.ref l]) Q E s := by
  refine useO (own := []) B F X N T hA hf hke (fun q hq => nomatch hq) (fun g H ho => due_c hd1 H ho (News.isList N hm) hi hsz hr) ?_
  rintro v h' tk news' F' K' N' ne ⟨a, vs1, n1, rfl, ha, i1⟩
  refine ret a vs1 n1 h' tk F' (fun q hq => ?_) (fun x hx e => ne _ ha x hx (fun h => nomatch h) e) i1
  rcases List.mem_cons.mp hq with rfl | hq
  · exact N' _ ha
  · exact newsN N K' q hq
theorem told_use {b : Array UInt8} {tb : Tok} {fs : List Int} (B : Below A₀ base outer h₀) (F : Fr h₀ L s.heap m) (X : (hd.heap_1 w.params).In h₀) (N : News h₀ L s.heap news) (T : Top p loose mean mg mb h₀) (hA : A = arnd dp un gd (env :: outer)) (hf : env.frame = some L) (hke : env.scope.kind = .function)
    (hd1 : dp + 20 < recursionLimit) (hb : KBw.bInts b = fs.map sig) (hl : fs.length = 4) (hr : ∀ f ∈ fs, 0 ≤ f ∧ f < 64)
    (ret : ∀ a vs1 n1 h' tk', Fr h₀ L h' m → News h₀ L h' ((a, W.listOf (List.toArray vs1) n1) :: news) → OffAll news a → IntsAre vs1 (ot fs (rangeKs 0 4)) → Q (.ref a) { s with heap := h', toks := tk' }) :
    wpAny (model PR w) A (call (.ref 184) [.bytes b tb]) Q E s := by
  refine useO (own := []) B F X N T hA hf hke (fun q hq => nomatch hq) (fun g H ho => told_c hd1 H ho hb hl hr) ?_
  rintro v h' tk news' F' K' N' ne ⟨a, vs1, n1, rfl, ha, i1⟩
  refine ret a vs1 n1 h' tk F' (fun q hq => ?_) (fun x hx e => ne _ ha x hx (fun h => nomatch h) e) i1
  rcases List.mem_cons.mp hq with rfl | hq
  · exact N' _ ha
  · exact newsN N K' q hq
theorem enc_use {b : Array UInt8} {x y z : Int} {tb : Tok} (B : Below A₀ base outer h₀) (F : Fr h₀ L s.heap m) (X : (hd.heap_1 w.params).In h₀) (N : News h₀ L s.heap news) (T : Top p loose mean mg mb h₀) (hA : A = arnd dp un gd (env :: outer)) (hf : env.frame = some L) (hke : env.scope.kind = .function)
    (hd1 : dp + 20 < recursionLimit) (hb : KBw.bInts b = [x, y, z]) (hx : 0 ≤ x) (hx2 : x < 256) (hy : 0 ≤ y) (hy2 : y < 256) (hz : 0 ≤ z) (hz2 : z < 256)
    (ret : ∀ t h' tk', Fr h₀ L h' m → News h₀ L h' news → Q (.bytes (byteArr [sig (x / 4), sig (x % 4 * 16 + y / 16), sig (y % 16 * 4 + z / 64), sig (z % 64)]) t) { s with heap := h', toks := tk' }) :
    wpAny (model PR w) A (call (.ref 143) [.bytes b tb]) Q E s := by
  refine useO (own := []) B F X N T hA hf hke (fun q hq => nomatch hq) (fun g H ho => b64enc hd1 H ho hb hx hx2 hy hy2 hz hz2) ?_
  rintro v h' tk news' F' K' N' ne ⟨t, rfl⟩
  exact ret t h' tk F' (newsN N K')
theorem dec_use {b : Array UInt8} {i j k l : Int} {tb : Tok} (B : Below A₀ base outer h₀) (F : Fr h₀ L s.heap m) (X : (hd.heap_1 w.params).In h₀) (N : News h₀ L s.heap news) (T : Top p loose mean mg mb h₀) (hA : A = arnd dp un gd (env :: outer)) (hf : env.frame = some L) (hke : env.scope.kind = .function)
    (hd1 : dp + 20 < recursionLimit) (hb : KBw.bInts b = [sig i, sig j, sig k, sig l]) (hi : 0 ≤ i) (hi2 : i < 64) (hj : 0 ≤ j) (hj2 : j < 64) (hk : 0 ≤ k) (hk2 : k < 64) (hl : 0 ≤ l) (hl2 : l < 64)
    (ret : ∀ t h' tk', Fr h₀ L h' m → News h₀ L h' news → Q (.bytes (byteArr [i * 4 + j / 16, j % 16 * 16 + k / 4, k % 4 * 64 + l]) t) { s with heap := h', toks := tk' }) :
    wpAny (model PR w) A (call (.ref 151) [.bytes b tb]) Q E s := by
  refine useO (own := []) B F X N T hA hf hke (fun q hq => nomatch hq) (fun g H ho => b64dec hd1 H ho hb hi hi2 hj hj2 hk hk2 hl hl2) ?_
  rintro v h' tk news' F' K' N' ne ⟨t, rfl⟩
  exact ret t h' tk F' (newsN N K')
theorem two_mem {c d : Addr} {oc od : Obj} (h1 : (c, oc) ∈ news) (h2 : (d, od) ∈ news) : ∀ q ∈ [(c, oc), (d, od)], q ∈ news := fun q hq => by
  rcases List.mem_cons.mp hq with rfl | hq
  · exact h1
  · exact List.mem_singleton.mp hq ▸ h2
theorem news_tab {h h' : Heap} {P : Addr} {o o' : Obj} {news pre : Led} {G : Obj → Led} (N : News h₀ L h news) (U : UpdF P o news G) (hp : ∀ q ∈ pre, q ∈ news) (K' : ∀ q ∈ news, q.1 ∉ adr ((P, o) :: pre) → h'.get? q.1 = some q.2) (h1 : h'.get? P = some o') (h2 : ∀ q ∈ pre, h'.get? q.1 = some q.2) : News h₀ L h' (G o') := by
  refine newsU N U (fun q hq e => ?_) h1
  by_cases e2 : q.1 ∈ adr pre
  · obtain ⟨x, hx, ex⟩ := List.mem_map.mp e2
    have h3 := (N x (hp x hx)).1
    rw [ex, (N q hq).1] at h3
    rw [← ex, h2 x hx, ← Option.some.inj h3]
  · refine K' q hq fun e3 => ?_
    rcases List.mem_cons.mp e3 with e4 | e4
    · exact e (by simp [e4])
    · exact e2 e4
theorem offOwn {own news' : Led} {D : Addr} {o : Obj} (ne : ∀ q ∈ news', ∀ x ∈ news, x.1 ∉ adr own → x.1 ≠ q.1) (hD : (D, o) ∈ news') (h : ∀ q ∈ own, q.1 ≠ D) : OffAll news D := fun q hq e => by
  by_cases e2 : q.1 ∈ adr own
  · obtain ⟨x, hx, ex⟩ := List.mem_map.mp e2
    exact h x hx (ex.trans e)
  · exact ne _ hD q hq e2 e
theorem i2d_1_use {a nn : Int} {ta tn : Tok} {k : Nat} {G : Obj → Led} (B : Below A₀ base outer h₀) (F : Fr h₀ L s.heap m) (X : (hd.heap_1 w.params).In h₀) (N : News h₀ L s.heap news) (T : Top p loose mean mg mb h₀) (hA : A = arnd dp un gd (env :: outer)) (hf : env.frame = some L) (hke : env.scope.kind = .function)
    (U : UpdF 23 (tabObj #[]) news G) (hd1 : dp + 150 < recursionLimit) (ha : 0 < a) (ha2 : a < 2 ^ 63) (ha3 : a < 2 ^ (nn.toNat * k)) (hk : ((Builtin.Int.intBits a : Nat) + nn - 1) / nn = (k : Int)) (hk0 : 0 < k) (hk1 : k ≤ 100) (hn0 : 0 < nn) (hn1 : nn ≤ 8)
    (ret : ∀ D vs n c' oc vs' tq h' tk', Fr h₀ L h' m → News h₀ L h' ((D, W.listOf (List.toArray vs) n) :: (c', oc) :: G (tabObj (#[] ++ #[rawInt 8, rawInt 4, .ref c']))) → OffAll news D → OffAll news c' → @Ne Nat D c' → IntsAre vs (dg nn.toNat a k) →
      oc.data = .fields vs' → vs'[1]? = some (.str (Str.ofString "_int2digits.<locals>.inner") tq) → Q (.ref D) { s with heap := h', toks := tk' }) :
    wpAny (model PR w) A (call (.ref 28) [.int a ta, .int nn tn]) Q E s := by
  refine useO (own := [(23, tabObj #[])]) B F X N T hA hf hke (updF_mem U) (fun g H ho => i2d_1 hd1 H ho ha ha2 ha3 hk hk0 hk1 hn0 hn1) ?_
  rintro v h' tk news' F' K' N' ne ⟨D, vs, n, c', oc, vs', tq, rfl, hD, hI, ht, hc, e1, e2, x1, x2, x3⟩
  refine ret D vs n c' oc vs' tq h' tk F' (fun q hq => ?_) (offOwn ne hD fun q hq => by rw [List.mem_singleton.mp hq]; exact x2.symm) (offOwn ne hc fun q hq => by rw [List.mem_singleton.mp hq]; exact x3.symm) x1 hI e1 e2
  rcases List.mem_cons.mp hq with rfl | hq
  · exact N' _ hD
  · rcases List.mem_cons.mp hq with rfl | hq
    · exact N' _ hc
    · exact newsU N U K' (N' _ ht).1 q hq
theorem i2d_2_use {a nn : Int} {ta tn : Tok} {k : Nat} {c' : Addr} {oc : Obj} {vs' : Array Value} {tq : Tok} (B : Below A₀ base outer h₀) (F : Fr h₀ L s.heap m) (X : (hd.heap_1 w.params).In h₀) (N : News h₀ L s.heap news) (T : Top p loose mean mg mb h₀) (hA : A = arnd dp un gd (env :: outer)) (hf : env.frame = some L) (hke : env.scope.kind = .function)
    (hm1 : (23, tabObj (#[] ++ #[rawInt 8, rawInt 4, .ref c'])) ∈ news) (hm2 : (c', oc) ∈ news) (hoc1 : oc.data = .fields vs') (hoc2 : vs'[1]? = some (.str (Str.ofString "_int2digits.<locals>.inner") tq)) (hd1 : dp + 150 < recursionLimit) (ha : 0 < a) (ha2 : a < 2 ^ 63) (ha3 : a < 2 ^ (nn.toNat * k)) (hk : ((Builtin.Int.intBits a : Nat) + nn - 1) / nn = (k : Int)) (hk0 : 0 < k) (hk1 : k ≤ 100) (hn0 : 0 < nn) (hn1 : nn ≤ 8)
    (ret : ∀ D vs n h' tk', Fr h₀ L h' m → News h₀ L h' ((D, W.listOf (List.toArray vs) n) :: news) → OffAll news D → IntsAre vs (dg nn.toNat a k) → Q (.ref D) { s with heap := h', toks := tk' }) :
    wpAny (model PR w) A (call (.ref 28) [.int a ta, .int nn tn]) Q E s := by
  refine useO (own := [(23, tabObj (#[] ++ #[rawInt 8, rawInt 4, .ref c'])), (c', oc)]) B F X N T hA hf hke (two_mem hm1 hm2) (fun g H ho => i2d_2 hd1 H ho hoc1 hoc2 ha ha2 ha3 hk hk0 hk1 hn0 hn1) ?_
  rintro v h' tk news' F' K' N' ne ⟨D, vs, n, rfl, hD, hI, ht, hc, x1, x2⟩
  refine ret D vs n h' tk F' (fun q hq => ?_) (offOwn ne hD fun q hq => ?_) hI
  · rcases List.mem_cons.mp hq with rfl | hq
    · exact N' _ hD
    · exact news_back N (two_mem hm1 hm2) K' (fun q hq => N' q (two_mem ht hc q hq)) q hq
  · rcases List.mem_cons.mp hq with rfl | hq
    · exact x2.symm
    · rw [List.mem_singleton.mp hq]; exact x1.symm
theorem d2i_1_use {D : Addr} {nD : Nat} {vs : List Value} {xs : List Int} {nn : Int} {tn : Tok} {G : Obj → Led} (B : Below A₀ base outer h₀) (F : Fr h₀ L s.heap m) (X : (hd.heap_1 w.params).In h₀) (N : News h₀ L s.heap news) (T : Top p loose mean mg mb h₀) (hA : A = arnd dp un gd (env :: outer)) (hf : env.frame = some L) (hke : env.scope.kind = .function)
    (U : UpdF 30 (tabObj #[]) news G) (hm : (D, W.listOf vs.toArray nD) ∈ news) (hD : @Ne Nat D 30) (hd1 : dp + 150 < recursionLimit)
    (hi : IntsAre vs xs) (hsz : xs.length ≤ 100) (hsz0 : 0 < xs.length) (hn0 : 0 ≤ nn) (hn1 : nn ≤ 8) (hb : ∀ i k, (dval nn.toNat ((xs.drop i).take k)).natAbs < 2 ^ 64)
    (ret : ∀ c' oc vs' tq t h' tk', Fr h₀ L h' m → News h₀ L h' ((c', oc) :: G (tabObj (#[] ++ #[rawInt 23, rawInt 4, .ref c']))) → OffAll news c' → oc.data = .fields vs' → vs'[1]? = some (.str (Str.ofString "_digits2int.<locals>.inner") tq) → Q (.int (dval nn.toNat xs) t) { s with heap := h', toks := tk' }) :
    wpAny (model PR w) A (call (.ref 35) [.ref D, .int nn tn]) Q E s := by
  have hU := updF_mem U _ (.head _)
  refine useO (own := [(30, tabObj #[]), (D, W.listOf vs.toArray nD)]) B F X N T hA hf hke (two_mem hU hm) (fun g H ho => d2i_1 hd1 H ho hD hi hsz hsz0 hn0 hn1 hb) ?_
  rintro v h' tk news' F' K' N' ne ⟨⟨t, rfl⟩, c', oc, vs', tq, ht, hD', hc, e1, e2, x1, x2⟩
  refine ret c' oc vs' tq t h' tk F' (fun q hq => ?_) (offOwn ne hc fun q hq => ?_) e1 e2
  · rcases List.mem_cons.mp hq with rfl | hq
    · exact N' _ hc
    · exact news_tab N U (pre := [(D, W.listOf vs.toArray nD)]) (fun q hq => List.mem_singleton.mp hq ▸ hm) K' (N' _ ht).1 (fun q hq => List.mem_singleton.mp hq ▸ (N' _ hD').1) q hq
  · rcases List.mem_cons.mp hq with rfl | hq
    · exact x1.symm
    · rw [List.mem_singleton.mp hq]; exact x2.symm
theorem three_mem {c d e : Addr} {oc od oe : Obj} (h1 : (c, oc) ∈ news) (h2 : (d, od) ∈ news) (h3 : (e, oe) ∈ news) : ∀ q ∈ [(c, oc), (d, od), (e, oe)], q ∈ news := fun q hq => by
  rcases List.mem_cons.mp hq with rfl | hq
  · exact h1
  · exact two_mem h2 h3 q hq
theorem d2i_2_use {D : Addr} {nD : Nat} {vs : List Value} {xs : List Int} {nn : Int} {tn : Tok} {c' : Addr} {oc : Obj} {vs' : Array Value} {tq : Tok} (B : Below A₀ base outer h₀) (F : Fr h₀ L s.heap m) (X : (hd.heap_1 w.params).In h₀) (N : News h₀ L s.heap news) (T : Top p loose mean mg mb h₀) (hA : A = arnd dp un gd (env :: outer)) (hf : env.frame = some L) (hke : env.scope.kind = .function)
    (hm1 : (30, tabObj (#[] ++ #[rawInt 23, rawInt 4, .ref c'])) ∈ news) (hm2 : (c', oc) ∈ news) (hoc1 : oc.data = .fields vs') (hoc2 : vs'[1]? = some (.str (Str.ofString "_digits2int.<locals>.inner") tq)) (hm : (D, W.listOf vs.toArray nD) ∈ news) (hD : @Ne Nat D 30) (hd1 : dp + 150 < recursionLimit)
    (hi : IntsAre vs xs) (hsz : xs.length ≤ 100) (hsz0 : 0 < xs.length) (hn0 : 0 ≤ nn) (hn1 : nn ≤ 8) (hb : ∀ i k, (dval nn.toNat ((xs.drop i).take k)).natAbs < 2 ^ 64)
    (ret : ∀ t h' tk', Fr h₀ L h' m → News h₀ L h' news → Q (.int (dval nn.toNat xs) t) { s with heap := h', toks := tk' }) :
    wpAny (model PR w) A (call (.ref 35) [.ref D, .int nn tn]) Q E s := by
  refine useO (own := [(30, tabObj (#[] ++ #[rawInt 23, rawInt 4, .ref c'])), (c', oc), (D, W.listOf vs.toArray nD)]) B F X N T hA hf hke (three_mem hm1 hm2 hm) (fun g H ho => d2i_2 hd1 H ho hoc1 hoc2 hD hi hsz hsz0 hn0 hn1 hb) ?_
  rintro v h' tk news' F' K' N' ne ⟨⟨t, rfl⟩, x1, x2, x3⟩
  exact ret t h' tk F' (news_back N (three_mem hm1 hm2 hm) K' fun q hq => N' q (three_mem ‹_› ‹_› ‹_› q hq))
end
end Mine
namespace Mine
/-- the places, as the law builds them -/
structure GoodXs (xs : List Int) : Prop where
  len : xs.length ≤ 13
  pos : 3 ≤ xs.length
  rng : ∀ x ∈ xs, 0 ≤ x ∧ x < 16
theorem goodXs (script : List Int) : GoodXs (List.map (fun (k' : Int) => Int.fmod k' 16) (List.take 10 script) ++ [2, 2, 3]) := by
  refine ⟨by simp; omega, by simp, fun x hx => ?_⟩
  rcases List.mem_append.mp hx with h | h
  · obtain ⟨y, _, rfl⟩ := List.mem_map.mp h
    rw [Int.fmod_eq_emod_of_nonneg _ (by decide)]
    omega
  · simp at h; omega
theorem GoodXs.nn {xs : List Int} (h : GoodXs xs) : ∀ x ∈ xs, 0 ≤ x := fun x hx => (h.rng x hx).1
theorem GoodXs.W {xs : List Int} (h : GoodXs xs) : 0 < Wt xs ∧ Wt xs ≤ 425984 := by
  have a := Wt_le h.rng
  have b := h.len
  have c := h.pos
  exact ⟨Wt_pos (by omega), by omega⟩
theorem cut_in (script : List Int) : 0 ≤ (List.map (fun (k' : Int) => Int.fmod k' 16) (List.take 10 script) ++ [2, 2, 3]).sum.fmod (((List.map (fun (k' : Int) => Int.fmod k' 16) (List.take 10 script)).length + (1 + 1 + 1) : Nat) + 1 : Int) ∧
    (List.map (fun (k' : Int) => Int.fmod k' 16) (List.take 10 script) ++ [2, 2, 3]).sum.fmod (((List.map (fun (k' : Int) => Int.fmod k' 16) (List.take 10 script)).length + (1 + 1 + 1) : Nat) + 1 : Int) ≤ ((List.map (fun (k' : Int) => Int.fmod k' 16) (List.take 10 script) ++ [2, 2, 3]).length : Int) := by
  have hp : (0 : Int) < (((List.map (fun (k' : Int) => Int.fmod k' 16) (List.take 10 script)).length + (1 + 1 + 1) : Nat) + 1 : Int) := by omega
  rw [Int.fmod_eq_emod_of_nonneg _ (by omega)]
  have h1 := Int.emod_nonneg ((List.map (fun (k' : Int) => Int.fmod k' 16) (List.take 10 script) ++ [2, 2, 3]).sum) (show (((List.map (fun (k' : Int) => Int.fmod k' 16) (List.take 10 script)).length + (1 + 1 + 1) : Nat) + 1 : Int) ≠ 0 by omega)
  have h2 := Int.emod_lt_of_pos ((List.map (fun (k' : Int) => Int.fmod k' 16) (List.take 10 script) ++ [2, 2, 3]).sum) hp
  rw [List.length_append, List.length_cons, List.length_cons, List.length_cons, List.length_nil]
  omega
theorem dval_add (n : Nat) (f g : Int → Int) : ∀ ks : List Int, dval n (ks.map fun k => f k + g k) = dval n (ks.map f) + dval n (ks.map g)
  | [] => rfl
  | k :: r => by
    simp only [List.map_cons, dval]
    rw [dval_add n f g r, Int.mul_add]
    omega
theorem dval_zero (n : Nat) : ∀ ks : List Int, dval n (ks.map fun _ => 0) = 0
  | [] => rfl
  | k :: r => by
    simp only [List.map_cons, dval]
    rw [dval_zero n r, Int.mul_zero]
    rfl
theorem dval_one : ∀ n : Nat, n < 16 → dval 1 ((rangeKs 0 (16 - 0 : Int).toNat).map fun k => if ((n : Int) == k) = true then 1 else 0) = 2 ^ n := by decide
theorem cnts_val {xs : List Int} (h : ∀ x ∈ xs, 0 ≤ x ∧ x < 16) : dval 1 (List.map (fun k' => ((List.count k' xs : Nat) : Int)) (rangeKs 0 (16 - 0 : Int).toNat)) = Wt xs := by
  induction xs with
  | nil => exact dval_zero 1 _
  | cons x r ih =>
    have a := ih fun y hy => h y (.tail _ hy)
    have b := h x (.head _)
    have e : (fun k' => ((List.count k' (x :: r) : Nat) : Int)) = fun k' => ((List.count k' r : Nat) : Int) + (if (x == k') = true then 1 else 0) := by
      funext k'
      rw [List.count_cons]
      split <;> simp
    rw [e, dval_add 1 (fun k' => ((List.count k' r : Nat) : Int)) (fun k' => if (x == k') = true then 1 else 0), a]
    have c := dval_one x.toNat (by omega)
    rw [show ((x.toNat : Nat) : Int) = x by omega] at c
    rw [c]
    show _ = pw x + Wt r
    unfold pw
    omega
theorem dval_le {n : Nat} (hn : 1 ≤ n) {M : Int} (hM : 0 ≤ M) : ∀ {ks : List Int}, (∀ x ∈ ks, 0 ≤ x ∧ x ≤ M) → 0 ≤ dval n ks ∧ dval n ks ≤ M * (2 ^ (n * ks.length) - 1)
  | [], _ => ⟨Int.le_refl _, by simp [dval]⟩
  | x :: r, h => by
    obtain ⟨i1, i2⟩ := dval_le hn hM (ks := r) fun y hy => h y (.tail _ hy)
    have hx := h x (.head _)
    have hp : (2 : Int) ≤ 2 ^ n := by
      have := pow_le_pow (show 1 ≤ n from hn)
      exact this
    have hq : (0 : Int) ≤ 2 ^ n := by omega
    have e1 := Int.mul_le_mul_of_nonneg_left i2 hq
    have e2 : (2 : Int) ^ (n * (x :: r).length) = 2 ^ n * 2 ^ (n * r.length) := by rw [List.length_cons, Nat.mul_add, Nat.mul_one, Nat.add_comm, Int.pow_add]
    have e3 : (2 : Int) ^ n * (M * (2 ^ (n * r.length) - 1)) = M * (2 ^ n * 2 ^ (n * r.length)) - M * 2 ^ n := by
      rw [Int.mul_sub, Int.mul_one, Int.mul_sub, ← Int.mul_assoc, ← Int.mul_assoc, Int.mul_comm (2 ^ n) M]
    have e4 : M * 2 ≤ M * 2 ^ n := Int.mul_le_mul_of_nonneg_left hp hM
    have e5 := Int.mul_nonneg hq i1
    rw [e2, dval, Int.mul_sub, Int.mul_one]
    omega
theorem cnts_hb {xs : List Int} (h : xs.length ≤ 13) (i k : Nat) : (dval (1 : Int).toNat (((List.map (fun k' => ((List.count k' xs : Nat) : Int)) (rangeKs 0 (16 - 0 : Int).toNat)).drop i).take k)).natAbs < 2 ^ 64 := by
  show (dval 1 _).natAbs < _
  generalize hs : ((List.map (fun k' => ((List.count k' xs : Nat) : Int)) (rangeKs 0 (16 - 0 : Int).toNat)).drop i).take k = ks
  have hm : ∀ x ∈ ks, 0 ≤ x ∧ x ≤ 13 := fun x hx => by
    rw [← hs] at hx
    obtain ⟨p, _, rfl⟩ := List.mem_map.mp (List.mem_of_mem_drop (List.mem_of_mem_take hx))
    have := List.count_le_length (a := p) (l := xs)
    omega
  have hl : ks.length ≤ 16 := by
    rw [← hs, List.length_take, List.length_drop, List.length_map, rangeKs_length]
    have : (16 - 0 : Int).toNat = 16 := rfl
    omega
  obtain ⟨a, b⟩ := dval_le (n := 1) (by omega) (M := 13) (by omega) hm
  have c := pow_le_pow (show 1 * ks.length ≤ 16 by omega)
  have d : (2 : Int) ^ 16 = 65536 := rfl
  omega
theorem oct_val {W : Int} (h0 : 0 ≤ W) (h1 : W < 16777216) : dg 8 (W + 16777216) 4 = [W % 256, W / 256 % 256, W / 65536 % 256, 1] := by
  show [(W + 16777216) % 256, (W + 16777216) / 256 % 256, (W + 16777216) / 256 / 256 % 256, (W + 16777216) / 256 / 256 / 256 % 256] = _
  have e1 : (W + 16777216) % 256 = W % 256 := by omega
  have e2 : (W + 16777216) / 256 % 256 = W / 256 % 256 := by omega
  have e3 : (W + 16777216) / 256 / 256 % 256 = W / 65536 % 256 := by omega
  have e4 : (W + 16777216) / 256 / 256 / 256 % 256 = 1 := by omega
  rw [e1, e2, e3, e4]
theorem bits_is {a : Int} {k : Nat} (h1 : (2 : Int) ^ k ≤ a) (h2 : a < 2 ^ (k + 1)) : Builtin.Int.intBits a = k + 1 := by
  have h0 : (0 : Int) < 2 ^ k := Int.pow_pos (by decide)
  have e1 : ((2 ^ k : Nat) : Int) = 2 ^ k := by simp
  have e2 : ((2 ^ (k + 1) : Nat) : Int) = 2 ^ (k + 1) := by simp
  have a1 : Builtin.Int.intBits a ≤ k + 1 := PySem.intBits_le_iff.mpr (by omega)
  have a2 : ¬ Builtin.Int.intBits a ≤ k := fun h => by
    have := PySem.intBits_le_iff.mp h
    omega
  omega
theorem oct_bits {W : Int} (h0 : 0 ≤ W) (h1 : W < 16777216) : ((Builtin.Int.intBits (W + 16777216) : Nat) + 8 - 1 : Int) / 8 = ((4 : Nat) : Int) := by
  rw [bits_is (k := 24) (by show (16777216 : Int) ≤ _; omega) (by show _ < (33554432 : Int); omega)]
  rfl
theorem back_val {W : Int} (h0 : 0 ≤ W) (h1 : W < 16777216) : dval (8 : Int).toNat [W % 256, W / 256 % 256, W / 65536 % 256] = W := by
  show W % 256 + 256 * (W / 256 % 256 + 256 * (W / 65536 % 256 + 256 * 0)) = W
  omega
theorem back_hb {W : Int} (i k : Nat) : (dval (8 : Int).toNat (([W % 256, W / 256 % 256, W / 65536 % 256].drop i).take k)).natAbs < 2 ^ 64 := by
  show (dval 8 _).natAbs < _
  generalize hs : ([W % 256, W / 256 % 256, W / 65536 % 256].drop i).take k = ks
  have hm : ∀ x ∈ ks, 0 ≤ x ∧ x ≤ 255 := fun x hx => by
    rw [← hs] at hx
    have := List.mem_of_mem_drop (List.mem_of_mem_take hx)
    simp only [List.mem_cons, List.not_mem_nil, or_false] at this
    omega
  have hl : ks.length ≤ 3 := by
    rw [← hs, List.length_take, List.length_drop]
    simp only [List.length_cons, List.length_nil]
    omega
  obtain ⟨a, b⟩ := dval_le (n := 8) (by omega) (M := 255) (by omega) hm
  have c := pow_le_pow (show 8 * ks.length ≤ 24 by omega)
  have d : (2 : Int) ^ 24 = 16777216 := rfl
  omega
theorem dec_val (W : Int) : [W / 65536 % 256 / 4 * 4 + (W / 65536 % 256 % 4 * 16 + W / 256 % 256 / 16) / 16, (W / 65536 % 256 % 4 * 16 + W / 256 % 256 / 16) % 16 * 16 + (W / 256 % 256 % 16 * 4 + W % 256 / 64) / 4, (W / 256 % 256 % 16 * 4 + W % 256 / 64) % 4 * 64 + W % 256 % 64] = [W / 65536 % 256, W / 256 % 256, W % 256] := by
  have e1 : W / 65536 % 256 / 4 * 4 + (W / 65536 % 256 % 4 * 16 + W / 256 % 256 / 16) / 16 = W / 65536 % 256 := by omega
  have e2 : (W / 65536 % 256 % 4 * 16 + W / 256 % 256 / 16) % 16 * 16 + (W / 256 % 256 % 16 * 4 + W % 256 / 64) / 4 = W / 256 % 256 := by omega
  have e3 : (W / 256 % 256 % 16 * 4 + W % 256 / 64) % 4 * 64 + W % 256 % 64 = W % 256 := by omega
  rw [e1, e2, e3]
/-- the last place kept, and the number of the worth's digits -/
theorem last_bits {k : List Int} (hk : k.Pairwise (· < ·)) (h0 : ∀ a ∈ k, 0 ≤ a) (hne : k ≠ []) : 0 ≤ k.getLastD 0 ∧ (Builtin.Int.intBits (Wt k) : Int) = k.getLastD 0 + 1 := by
  have el : k.getLastD 0 = k.getLast hne := by rw [List.getLastD_eq_getLast?, List.getLast?_eq_some_getLast hne]; rfl
  have hm := List.getLast_mem hne
  have hl : ∀ a ∈ k, a ≤ k.getLast hne := by
    intro a ha
    have e := List.dropLast_concat_getLast hne
    rw [← e] at ha hk
    rcases List.mem_append.mp ha with q | q
    · have := (List.pairwise_append.mp hk).2.2 a q _ (List.mem_singleton.mpr rfl)
      omega
    · rw [List.mem_singleton.mp q]; omega
  rw [el]
  generalize k.getLast hne = l at *
  have l0 := h0 l hm
  have e1 : Sp l k = Wt k := tot_congr fun x hx => by unfold spf pw; rw [if_pos (hl x hx)]
  obtain ⟨a, b⟩ := sp_lt l0 hk h0
  have B := ((bit_mem (by omega) hk h0).2 l l0).mpr hm
  have c : (2 : Int) ^ l.toNat ≤ Wt k := by
    apply Classical.byContradiction
    intro hc
    rw [Int.ediv_eq_zero_of_lt (Wt_nn k) (by omega)] at B
    omega
  have d := bits_is (a := Wt k) (k := l.toNat) c (by rw [← e1, show l.toNat + 1 = (l + 1).toNat by omega]; exact b)
  exact ⟨l0, by rw [d]; omega⟩
theorem dg_map (w : Int) : ∀ (n : Nat) (i : Nat), dg 1 (w / 2 ^ i) n = (rangeKs (i : Int) n).map fun p => w / 2 ^ p.toNat % 2
  | 0, _ => rfl
  | n + 1, i => by
    have e : rangeKs (i : Int) (n + 1) = (i : Int) :: rangeKs ((i + 1 : Nat) : Int) n := by
      unfold rangeKs
      rw [List.range_succ_eq_map, List.map_cons, List.map_map]
      refine congr (congrArg List.cons (by simp)) (List.map_congr_left fun x _ => ?_)
      show (i : Int) + ((x + 1 : Nat) : Int) = ((i + 1 : Nat) : Int) + (x : Int)
      omega
    rw [e, List.map_cons, dg, ediv_pow, dg_map w n (i + 1), Int.toNat_natCast]
    rfl
theorem digits_is {k : List Int} (hk : k.Pairwise (· < ·)) (h0 : ∀ a ∈ k, 0 ≤ a) (n : Nat) : dg 1 (Wt k) n = (rangeKs 0 n).map fun p => if p ∈ k then 1 else 0 := by
  have e := dg_map (Wt k) n 0
  rw [Int.pow_zero, Int.ediv_one] at e
  rw [e]
  refine List.map_congr_left fun p hp => ?_
  have B := (bit_mem (by omega) hk h0).2 p (mem_rangeKs.mp hp).1
  by_cases h : p ∈ k
  · rw [if_pos h]; exact B.mpr h
  · rw [if_neg h]
    have : ¬ Wt k / 2 ^ p.toNat % 2 = 1 := fun q => h (B.mp q)
    omega
end Mine
namespace Mine
section
variable {prog : Program} {w : World} {A : Around} {E : Value → Shared → Prop} {s : Shared}
abbrev emptyL (c : Nat) : Obj := { cls := .type "list", data := .seq #[] c }
abbrev ListEnd (R : Result → Shared → Prop) (res : Value) (P : Nat → Value → Prop) (n : Nat) (S : Addr) (s : Shared) : Prop :=
  ∀ h' tk acc' c', (∀ b o, b ≠ S → s.heap.get? b = some o → h'.get? b = some o) → h'.get? S = some { cls := .type "list", dict := none, data := .seq acc' c', slots := #[] } → ItemsOf P acc' n → R (.ok (.ret res)) { s with heap := h', toks := tk }
abbrev FinAny (prog : Program) (w : World) (A : Around) (R : Result → Shared → Prop) (fin : Fin) (s' : Shared) : Prop := match fin with | .done f => R (.ok f) s' | .again c' => c'.quiet = true ∧ codeAny (model prog w) A c' R s'
/-- the loop that fills the list, over an iterator that lies new at the heap's end -/
theorem loop_new {R : Result → Shared → Prop} {S I : Addr} {h : Heap} {c₀ tk n : Nat} {P : Nat → Value → Prop} {St : Nat → Heap → Prop} {res : Value} {fp wr : List Addr} (W : Walks prog w A.in1 I fp wr n P St) (hn : n ≤ 16777216) (hSf : S ∉ fp) (hw : ∀ b ∈ wr, s.heap.get? b = none)
    (hst : St 0 h) (hS : h.get? S = some (emptyL c₀)) (hk : ∀ b o, b ≠ S → s.heap.get? b = some o → h.get? b = some o) (hR : ListEnd R res P n S s) :
    codeAny (model prog w) A (.builtin "list.extend.loop" ⟨[.ref S, .ref I, res], []⟩) R { s with heap := h, toks := tk } := by
  refine codeAny_extend_loopS W.toS (by rw [sizeLine_eq]; omega) S hSf res n 0 _ #[] c₀ rfl (Nat.zero_le _) hst hS (ItemsOf.nil _) fun s' acc' c' hm hS' hacc => ?_
  rw [Moved.eq_with hm]
  refine hR s'.heap s'.toks acc' c' (fun b o hb e => hm.heap b o (fun hmem => ?_) (hk b o hb e)) hS' hacc
  rcases List.mem_cons.mp hmem with e' | hmem
  · exact hb e'
  · rw [hw b hmem] at e; cases e
theorem ext_bytes {R : Result → Shared → Prop} (hh : A.handled = none) (b : Array UInt8) (t : Tok) (S : Addr) (res : Value) (c₀ : Nat) (hS : s.heap.get? S = some (emptyL c₀)) (hn : b.size ≤ 16777216)
    (hR : ListEnd R res (fun i v => ∃ c u, b[i]? = some c ∧ v = .int (c.toNat : Int) u) b.size S s) :
    wpAny (model prog w) A.in1 (Builtin.List.listExtendWith (.ref S) (.bytes b t) res) (FinAny prog w A R) (fun e s' => R (.error e) s') s := by
  unfold Builtin.List.listExtendWith
  refine wpAny_bind (wpAny_typeOf (T := "bytes") (v := .bytes b t) rfl ?_)
  have h1 : Builtin.List.listSameRef (.ref S) (.bytes b t) = false := rfl
  have h2 : (Value.type "bytes" == Value.type "list") = false := by decide
  have h3 : (Value.type "bytes" == Value.type "tuple") = false := by decide
  simp only [h1, h2, h3, Bool.or_false, Bool.false_eq_true, if_false]
  refine wpAny_bind (KBw.pyIter_bytes ?_)
  refine wpAny_bind (wpAny_holding ?_)
  unfold Builtin.List.listLengthHint
  refine wpAny_bind (wpAny_specialOf (T := "bytes") (v := .bytes b t) rfl FB.slot_bytes_len.lookup ?_)
  wp_delta
  refine wpAny_bind (wpAny_isInstance (T := "bytes") (v := .bytes b t) (b := true) rfl (by rw [isSubtype_type]; kernel_rfl) ?_)
  show wpAny _ _ (typeOf (Value.bytes b t) >>= _) _ _ _
  refine wpAny_bind (wpAny_typeOf (T := "bytes") (v := .bytes b t) rfl ?_)
  refine wpAny_pure ?_
  rw [if_neg (by decide)]
  have hlt := Heap.lt_size hS
  refine wpAny_pure ⟨plainId_quiet F.plain_extend_loop _, loop_new (s := s) (KBw.walks (A := A.in1) hh s.heap.objs.size b t) hn (fun hm => Nat.ne_of_lt hlt (List.mem_singleton.mp hm)) (fun b hb => by rw [List.mem_singleton.mp hb]; exact Heap.get?_none_of_le (Nat.le_refl _)) ⟨_, Heap.get?_push_size _ rfl, rfl, rfl⟩ (Heap.get?_push_of_some _ hS) (fun b o _ e => Heap.get?_push_of_some _ e) hR⟩
theorem lri_hint : typeLookup (.type "list_reverseiterator") "__length_hint__" = pure (some (.builtin "list_reverseiterator.__length_hint__")) := by rw [typeLookup_type, builtinLookup_eq_fast]; kernel_rfl
theorem lri_no_len : typeLookup (.type "list_reverseiterator") "__len__" = pure none := by rw [typeLookup_type, builtinLookup_eq_fast]; kernel_rfl
theorem ext_rev {R : Result → Shared → Prop} (hh : A.handled = none) {I l : Addr} {items : Array Value} (S : Addr) (res : Value) (c₀ : Nat) (hS : s.heap.get? S = some (emptyL c₀)) (hn : items.size ≤ 16777216) (hI : s.heap.IsRevIter I l ((items.size : Int) - 1)) (hl : s.heap.IsList l items) (hSI : S ≠ I) (hSl : S ≠ l) (hlI : l ≠ I)
    (hR : ∀ h' tk acc' c', (∀ b o, b ≠ S → b ≠ I → s.heap.get? b = some o → h'.get? b = some o) → h'.get? S = some { cls := .type "list", dict := none, data := .seq acc' c', slots := #[] } → ItemsOf (fun i v => items[items.size - 1 - i]? = some v) acc' items.size → R (.ok (.ret res)) { s with heap := h', toks := tk }) :
    wpAny (model prog w) A.in1 (Builtin.List.listExtendWith (.ref S) (.ref I) res) (FinAny prog w A R) (fun e s' => R (.error e) s') s := by
  unfold Builtin.List.listExtendWith
  refine wpAny_bind (wpAny_typeOf hI.typeIs ?_)
  have h1 : Builtin.List.listSameRef (.ref S) (.ref I) = false := by simp [Builtin.List.listSameRef, hSI]
  have h2 : (Value.type "list_reverseiterator" == Value.type "list") = false := by decide
  have h3 : (Value.type "list_reverseiterator" == Value.type "tuple") = false := by decide
  simp only [h1, h2, h3, Bool.or_false, Bool.false_eq_true, if_false]
  refine wpAny_bind (wpAny_pyIter_revIter hI ?_)
  refine wpAny_bind (wpAny_holding ?_)
  unfold Builtin.List.listLengthHint
  refine wpAny_bind (wpAny_specialOf hI.typeIs lri_no_len ?_)
  show wpAny _ A.in1 (specialOf (Value.ref I) (Str.ofString "__length_hint__") >>= _) _ _ _
  refine wpAny_bind (wpAny_specialOf hI.typeIs lri_hint ?_)
  generalize hid : ("list_reverseiterator.__length_hint__" : String) = id0
  wp_delta
  rw [show splitId id0 = some ("list_reverseiterator", "__length_hint__") from by subst hid; decide +kernel]
  subst hid
  refine wpAny_bind (wpAny_isInstance (T := "list_reverseiterator") (b := true) hI.typeIs (by rw [isSubtype_type]; kernel_rfl) ?_)
  refine wpAny_ite_split (fun hab => absurd hab (by decide)) (fun _ => ?_)
  refine wpAny_ite_split (fun _ => ?_) (fun hab => absurd (by decide +kernel) hab)
  refine wpAny_ite_split (fun hab => absurd hab (by decide +kernel)) (fun _ => ?_)
  refine wpAny_pure ?_
  rw [if_neg (by decide)]
  have W := Walks.listRev (prog := prog) (w := w) (A := A.in1) hh I l hlI items
  refine wpAny_pure ⟨plainId_quiet F.plain_extend_loop _, codeAny_extend_loopS W.toS (by rw [sizeLine_eq]; omega) S (by simp [hSI, hSl]) res items.size 0 _ #[] c₀ rfl (Nat.zero_le _) ⟨Nat.zero_le _, by simpa using hI, hl⟩ hS (ItemsOf.nil _) fun s' acc' c' hm hS' hacc => ?_⟩
  rw [Moved.eq_with hm]
  refine hR s'.heap s'.toks acc' c' (fun b o hb hb2 e => hm.heap b o (fun hmem => ?_) e) hS' hacc
  rcases List.mem_cons.mp hmem with e' | hmem
  · exact hb e'
  · exact hb2 (List.mem_singleton.mp hmem)
theorem list_init {R : Result → Shared → Prop} {x : Value} (S : Addr) (hS : s.heap.get? S = some (emptyL 0))
    (ext : ∀ (h : Heap) (c : Nat), h.get? S = some (emptyL c) → (∀ b o, b ≠ S → s.heap.get? b = some o → h.get? b = some o) →
      wpAny (model prog w) A.in1 (Builtin.List.listExtendWith (.ref S) x .none) (FinAny prog w A R) (fun e s' => R (.error e) s') { s with heap := h }) :
    wpAny (model prog w) A.in1 (Builtin.«list.__init__» ⟨[.ref S, x], []⟩) (FinAny prog w A R) (fun e s' => R (.error e) s') s := by
  show wpAny _ A.in1 (do let old ← Builtin.List.listItems (.ref S); Builtin.List.listUpdate (.ref S) (fun _ => #[]); letGo old.toList.reverse; Builtin.List.listExtendWith (.ref S) x .none) _ _ s
  refine wpAny_bind ?_
  unfold Builtin.List.listItems
  refine wpAny_bind (wpAny_seqItems hS rfl (wpAny_pure ?_))
  show wpAny _ A.in1 (updateSeq S (fun _ => #[]) >>= fun _ => letGo (#[] : Array Value).toList.reverse >>= fun _ => Builtin.List.listExtendWith (.ref S) x .none) _ _ s
  refine wpAny_bind (wpAny_updateSeq hS rfl ?_)
  refine wpAny_bind (wpAny_letGo ?_)
  exact ext _ _ (Heap.get?_update_self (Obj.mapSeq (fun _ => (#[] : Array Value))) hS rfl) fun b o hb e => (Heap.get?_update_other _ _ (Ne.symm hb)).trans e
theorem call_list {x : Value} {Q : Value → Shared → Prop}
    (ext : ∀ (h : Heap) (c : Nat), h.get? s.heap.objs.size = some (emptyL c) → (∀ b o, s.heap.get? b = some o → h.get? b = some o) →
      wpAny (model prog w) A.in1.in1 (Builtin.List.listExtendWith (.ref s.heap.objs.size) x .none) (FinAny prog w A.in1 (wants (fun r s₂ => r = .none ∧ Q (.ref s.heap.objs.size) s₂) E)) (fun e s' => wants (fun r s₂ => r = .none ∧ Q (.ref s.heap.objs.size) s₂) E (.error e) s') { s with heap := h }) :
    wpAny (model prog w) A (call (.type "list") [x]) Q E s := by
  refine callType_codes (Q₁ := fun obj s₁ => obj = .ref s.heap.objs.size ∧ s₁ = { s with heap := s.heap.push { cls := .type "list", data := .seq #[] } }) F.called_list (F.typeCall_list_1 _) F.entry_list_init
    (code_list_new _ ⟨rfl, rfl⟩) fun obj s₁ h₁ => ?_
  obtain ⟨rfl, rfl⟩ := h₁
  have hS : (s.heap.push { cls := .type "list", data := .seq #[] }).get? s.heap.objs.size = some { cls := .type "list", data := .seq #[] } := Heap.get?_push_size _ rfl
  refine ⟨⟨_, hS, rfl⟩, F.args_list_init_2 _ _, list_init (A := A.in1) _ hS fun h c hh hk => ext h c hh fun b o e => hk b o (Nat.ne_of_lt (Heap.lt_size e)) (Heap.get?_push_of_some _ e)⟩
theorem ints_get : ∀ {vs : List Value} {ks : List Int}, vs.length = ks.length → (∀ (i : Nat) v k, vs[i]? = some v → ks[i]? = some k → ∃ u, v = .int k u) → IntsAre vs ks
  | [], [], _, _ => .nil
  | v :: r, k :: q, hl, h => by
    obtain ⟨u, rfl⟩ := h 0 v k rfl rfl
    exact .cons _ _ (ints_get (by simpa using hl) fun i v k a b => h (i + 1) v k (by simpa using a) (by simpa using b))
  | [], _ :: _, hl, _ => by simp at hl
  | _ :: _, [], hl, _ => by simp at hl
theorem ints_nth {vs : List Value} {ks : List Int} (h : IntsAre vs ks) : ∀ {i : Nat} {v : Value} {k : Int}, vs[i]? = some v → ks[i]? = some k → ∃ u, v = .int k u := by
  induction h with
  | nil => intro i v k e; simp at e
  | cons n t _ ih =>
    intro i v k e1 e2
    cases i with
    | zero => simp at e1 e2; exact ⟨t, by rw [← e1, ← e2]⟩
    | succ i => exact ih (by simpa using e1) (by simpa using e2)
section
variable {h₀ : Heap} {L : Addr} {m : Str → Option Value} {news : List (Addr × Obj)} {Q : Value → Shared → Prop}
theorem list_bytes {b : Array UInt8} {t : Tok} {ks : List Int} (hh : A.handled = none) (F : Fr h₀ L s.heap m) (N : News h₀ L s.heap news) (hk : KBw.bInts b = ks) (hn : ks.length ≤ 1000)
    (h : ∀ D vs n h' tk, Fr h₀ L h' m → News h₀ L h' ((D, W.listOf (List.toArray vs) n) :: news) → (∀ p ∈ news, p.1 < D) → IntsAre vs ks → Q (.ref D) { s with heap := h', toks := tk }) :
    wpAny (model prog w) A (call (.type "list") [.bytes b t]) Q E s := by
  have hbs : b.size = ks.length := by rw [← hk, KBw.ints_length]
  have hlt := F.ns.lt
  refine call_list fun h1 c hS hkeep => ext_bytes (A := A.in1) hh b t _ _ c hS (by omega) fun h' tk acc' c' hk2 hS' hacc => ?_
  have all : ∀ b o, s.heap.get? b = some o → h'.get? b = some o := fun b o e => hk2 b o (Nat.ne_of_lt (Heap.lt_size e)) (hkeep b o e)
  refine ⟨rfl, h s.heap.objs.size acc'.toList c' h' tk (F.keeps all) (fun q hq => ?_) (fun p hp => Heap.lt_size (N p hp).1) (ints_get ?_ fun i v k e1 e2 => ?_)⟩
  · rcases List.mem_cons.mp hq with rfl | hq
    · exact ⟨hS', Nat.ne_of_gt hlt, Heap.get?_none_of_le (Nat.le_trans F.above (Nat.le_of_lt hlt))⟩
    · exact ⟨all _ _ (N q hq).1, (N q hq).2⟩
  · rw [Array.length_toList, hacc.1, hbs]
  · rw [Array.getElem?_toList] at e1
    obtain ⟨c, u, e3, e4⟩ := hacc.2 i v e1
    have e5 := KBw.ints_get e3
    rw [hk, e2] at e5
    exact ⟨u, by rw [e4, ← Option.some.inj e5]⟩
theorem list_rev {I l : Addr} {vs : List Value} {ks : List Int} {n : Nat} (hh : A.handled = none) (F : Fr h₀ L s.heap m) (N : News h₀ L s.heap ((I, revObj l ((vs.length : Int) - 1)) :: news)) (hm : (l, W.listOf vs.toArray n) ∈ news) (hne : ∀ p ∈ news, p.1 ≠ I) (hi : IntsAre vs ks) (hn : ks.length ≤ 1000)
    (h : ∀ D vs n h' tk, Fr h₀ L h' m → News h₀ L h' ((D, W.listOf (List.toArray vs) n) :: news) → (∀ p ∈ news, p.1 < D) → IntsAre vs ks.reverse → Q (.ref D) { s with heap := h', toks := tk }) :
    wpAny (model prog w) A (call (.type "list") [.ref I]) Q E s := by
  have hlt := F.ns.lt
  have hNI := N _ (.head _)
  have hNl := N _ (.tail _ hm)
  have hlen := hi.length
  have hl : s.heap.IsList l vs.toArray := News.isList N (.tail _ hm)
  have hI : s.heap.IsRevIter I l ((vs.toArray.size : Int) - 1) := ⟨_, hNI.1, rfl, by simp [revObj]⟩
  have iLt := Heap.lt_size hNI.1
  have lLt := Heap.lt_size hNl.1
  have hlI : l ≠ I := hne _ hm
  refine call_list fun h1 c hS hkeep => ext_rev (A := A.in1) hh (I := I) (l := l) (items := vs.toArray) _ _ c hS (by simp; omega) (hI.at fun o e => hkeep _ o e) (hl.at fun o e => hkeep _ o e) (Nat.ne_of_gt iLt) (Nat.ne_of_gt lLt) hlI fun h' tk acc' c' hk2 hS' hacc => ?_
  have all : ∀ b o, b ≠ I → s.heap.get? b = some o → h'.get? b = some o := fun b o hb e => hk2 b o (Nat.ne_of_lt (Heap.lt_size e)) hb (hkeep b o e)
  obtain ⟨oL, es, ep, hL, hLd, hLk, hLf⟩ := F.ns
  have hLI : L ≠ I := fun e => hNI.2.1 e.symm
  refine ⟨rfl, h s.heap.objs.size acc'.toList c' h' tk ⟨⟨oL, es, ep, all _ _ hLI hL, hLd, hLk, hLf⟩, fun b o e => all b o (fun q => ?_) (F.keep b o e), F.above⟩ (fun q hq => ?_) (fun p hp => Heap.lt_size (N p (.tail _ hp)).1) (ints_get ?_ fun i v k e1 e2 => ?_)⟩
  · have := hNI.2.2
    dsimp only at this
    rw [← q, e] at this
    cases this
  · rcases List.mem_cons.mp hq with rfl | hq
    · exact ⟨hS', Nat.ne_of_gt hlt, Heap.get?_none_of_le (Nat.le_trans F.above (Nat.le_of_lt hlt))⟩
    · exact ⟨all _ _ (hne q hq) (N q (.tail _ hq)).1, (N q (.tail _ hq)).2⟩
  · rw [Array.length_toList, hacc.1, List.size_toArray, List.length_reverse, hlen]
  · rw [Array.getElem?_toList] at e1
    have e3 := hacc.2 i v e1
    simp only [List.size_toArray, List.getElem?_toArray] at e3
    have hi2 : i < ks.length := by
      have := (List.getElem?_eq_some_iff.mp e2).1
      simpa using this
    rw [List.getElem?_reverse hi2, ← hlen] at e2
    exact ints_nth hi e3 e2
end
end
end Mine
namespace Mine
section
variable {w : World} {p : Program} {loose : List Str} {mean : ExcName → Option Value} {mg mb : Str → Option Value} {A₀ A : Around} {env : Env} {L : Addr} {m : Str → Option Value} {news : Led} {dp un : Nat} {gd : Option (List Code)} {outer : List Env} {base h₀ : Heap} {s : Shared} {Q E : Value → Shared → Prop} {xs : List Int}
/-- the same worth's counts, as digits -/
theorem counts_use {D : Addr} {nD : Nat} {vs : List Value} {tn : Tok} {G : Obj → Led} (hG : GoodXs xs) (B : Below A₀ base outer h₀) (F : Fr h₀ L s.heap m) (X : (hd.heap_1 w.params).In h₀) (N : News h₀ L s.heap news) (T : Top p loose mean mg mb h₀) (hA : A = arnd dp un gd (env :: outer)) (hf : env.frame = some L) (hke : env.scope.kind = .function)
    (U : UpdF 30 (tabObj #[]) news G) (hm : (D, W.listOf vs.toArray nD) ∈ news) (hD : @Ne Nat D 30) (hd1 : dp + 150 < recursionLimit)
    (hi : IntsAre vs (List.map (fun k' => ((List.count k' xs : Nat) : Int)) (rangeKs 0 (16 - 0 : Int).toNat)))
    (ret : ∀ c' oc vs' tq t h' tk', Fr h₀ L h' m → News h₀ L h' ((c', oc) :: G (tabObj (#[] ++ #[rawInt 23, rawInt 4, .ref c']))) → OffAll news c' → oc.data = .fields vs' → vs'[1]? = some (.str (Str.ofString "_digits2int.<locals>.inner") tq) → Q (.int (Wt xs) t) { s with heap := h', toks := tk' }) :
    wpAny (model PR w) A (call (.ref 35) [.ref D, .int 1 tn]) Q E s := by
  refine d2i_1_use B F X N T hA hf hke U hm hD hd1 hi ?_ ?_ (by decide) (by decide) (cnts_hb hG.len) ?_
  · rw [List.length_map, rangeKs_length]; decide
  · rw [List.length_map, rangeKs_length]; decide
  · intro c' oc vs' tq t h' tk' F' N' o1 e1 e2
    have e : dval (1 : Int).toNat (List.map (fun k' => ((List.count k' xs : Nat) : Int)) (rangeKs 0 (16 - 0 : Int).toNat)) = Wt xs := cnts_val hG.rng
    rw [e]
    exact ret c' oc vs' tq t h' tk' F' N' o1 e1 e2
theorem oct_use {ta tn : Tok} {G : Obj → Led} (hG : GoodXs xs) (B : Below A₀ base outer h₀) (F : Fr h₀ L s.heap m) (X : (hd.heap_1 w.params).In h₀) (N : News h₀ L s.heap news) (T : Top p loose mean mg mb h₀) (hA : A = arnd dp un gd (env :: outer)) (hf : env.frame = some L) (hke : env.scope.kind = .function)
    (U : UpdF 23 (tabObj #[]) news G) (hd1 : dp + 150 < recursionLimit)
    (ret : ∀ D vs n c' oc vs' tq h' tk', Fr h₀ L h' m → News h₀ L h' ((D, W.listOf (List.toArray vs) n) :: (c', oc) :: G (tabObj (#[] ++ #[rawInt 8, rawInt 4, .ref c']))) → OffAll news D → OffAll news c' → @Ne Nat D c' → IntsAre vs [Wt xs % 256, Wt xs / 256 % 256, Wt xs / 65536 % 256, 1] →
      oc.data = .fields vs' → vs'[1]? = some (.str (Str.ofString "_int2digits.<locals>.inner") tq) → Q (.ref D) { s with heap := h', toks := tk' }) :
    wpAny (model PR w) A (call (.ref 28) [.int (Wt xs + 16777216) ta, .int 8 tn]) Q E s := by
  obtain ⟨w0, w1⟩ := hG.W
  refine i2d_1_use (k := 4) B F X N T hA hf hke U hd1 (by omega) (by omega) ?_ (oct_bits (by omega) (by omega)) (by decide) (by decide) (by decide) (by decide) ?_
  · show _ < (4294967296 : Int); omega
  · intro D vs n c' oc vs' tq h' tk' F' N' o1 o2 x1 hI e1 e2
    have hI' := ints_as hI (oct_val (W := Wt xs) (by omega) (by omega))
    exact ret D vs n c' oc vs' tq h' tk' F' N' o1 o2 x1 hI' e1 e2
/-- the worth's digits by 2 -/
theorem ones_use {ta tn : Tok} {c' : Addr} {oc : Obj} {vs' : Array Value} {tq : Tok} (hG : GoodXs xs) (B : Below A₀ base outer h₀) (F : Fr h₀ L s.heap m) (X : (hd.heap_1 w.params).In h₀) (N : News h₀ L s.heap news) (T : Top p loose mean mg mb h₀) (hA : A = arnd dp un gd (env :: outer)) (hf : env.frame = some L) (hke : env.scope.kind = .function)
    (hm1 : (23, tabObj (#[] ++ #[rawInt 8, rawInt 4, .ref c'])) ∈ news) (hm2 : (c', oc) ∈ news) (hoc1 : oc.data = .fields vs') (hoc2 : vs'[1]? = some (.str (Str.ofString "_int2digits.<locals>.inner") tq)) (hd1 : dp + 150 < recursionLimit)
    (ret : ∀ D vs n h' tk', Fr h₀ L h' m → News h₀ L h' ((D, W.listOf (List.toArray vs) n) :: news) → OffAll news D → IntsAre vs (List.map (fun p => if p ∈ (fallen xs).1 then (1 : Int) else 0) (rangeKs 0 ((fallen xs).1.getLastD 0 + 1).toNat)) → Q (.ref D) { s with heap := h', toks := tk' }) :
    wpAny (model PR w) A (call (.ref 28) [.int (Wt xs) ta, .int 1 tn]) Q E s := by
  obtain ⟨w0, w1⟩ := hG.W
  have I := fallen_ok hG.nn
  have hne : (fallen xs).1 ≠ [] := fun e => by
    have := kept_W hG.nn
    rw [e] at this
    have e0 : Wt [] = 0 := rfl
    omega
  obtain ⟨l0, lb⟩ := last_bits I.up I.nn hne
  rw [kept_W hG.nn] at lb
  have hB : Builtin.Int.intBits (Wt xs) ≤ 20 := PySem.intBits_le_iff.mpr (by have : (2 : Nat) ^ 20 = 1048576 := rfl; omega)
  have hB2 : (Wt xs).natAbs < 2 ^ Builtin.Int.intBits (Wt xs) := PySem.intBits_le_iff.mp (Nat.le_refl _)
  refine i2d_2_use (k := Builtin.Int.intBits (Wt xs)) B F X N T hA hf hke hm1 hm2 hoc1 hoc2 hd1 w0 (by omega) ?_ (by omega) (by omega) (by omega) (by decide) (by decide) ?_
  · show Wt xs < 2 ^ (1 * Builtin.Int.intBits (Wt xs))
    have e2 : ((2 ^ (1 * Builtin.Int.intBits (Wt xs)) : Nat) : Int) = 2 ^ (1 * Builtin.Int.intBits (Wt xs)) := by simp
    rw [← e2, Nat.one_mul]
    omega
  · intro D vs n h' tk' F' N' o1 hI
    have e : dg (1 : Int).toNat (Wt xs) (Builtin.Int.intBits (Wt xs)) = List.map (fun p => if p ∈ (fallen xs).1 then (1 : Int) else 0) (rangeKs 0 ((fallen xs).1.getLastD 0 + 1).toNat) := by
      rw [← lb, Int.toNat_natCast, ← kept_W hG.nn]
      exact digits_is I.up I.nn _
    exact ret D vs n h' tk' F' N' o1 (ints_as hI e)
theorem encW_use {b : Array UInt8} {tb : Tok} {W : Int} (hb : KBw.bInts b = [W / 65536 % 256, W / 256 % 256, W % 256]) (B : Below A₀ base outer h₀) (F : Fr h₀ L s.heap m) (X : (hd.heap_1 w.params).In h₀) (N : News h₀ L s.heap news) (T : Top p loose mean mg mb h₀) (hA : A = arnd dp un gd (env :: outer)) (hf : env.frame = some L) (hke : env.scope.kind = .function)
    (hd1 : dp + 20 < recursionLimit)
    (ret : ∀ b' t h' tk', Fr h₀ L h' m → News h₀ L h' news → KBw.bInts b' = (figs W).map sig → Q (.bytes b' t) { s with heap := h', toks := tk' }) :
    wpAny (model PR w) A (call (.ref 143) [.bytes b tb]) Q E s := by
  refine enc_use B F X N T hA hf hke hd1 hb (by omega) (by omega) (by omega) (by omega) (by omega) (by omega) fun t h' tk' F' N' => ret _ t h' tk' F' N' ?_
  have hin : KBa.In ((figs W).map sig) := fun n hn => by
    obtain ⟨f, _, rfl⟩ := List.mem_map.mp hn
    exact sig_in f
  exact KBa.ints_make hin
theorem decW_use {b : Array UInt8} {tb : Tok} {W : Int} (hb : KBw.bInts b = (figs W).map sig) (B : Below A₀ base outer h₀) (F : Fr h₀ L s.heap m) (X : (hd.heap_1 w.params).In h₀) (N : News h₀ L s.heap news) (T : Top p loose mean mg mb h₀) (hA : A = arnd dp un gd (env :: outer)) (hf : env.frame = some L) (hke : env.scope.kind = .function)
    (hd1 : dp + 20 < recursionLimit)
    (ret : ∀ b' t h' tk', Fr h₀ L h' m → News h₀ L h' news → KBw.bInts b' = [W / 65536 % 256, W / 256 % 256, W % 256] → Q (.bytes b' t) { s with heap := h', toks := tk' }) :
    wpAny (model PR w) A (call (.ref 151) [.bytes b tb]) Q E s := by
  refine dec_use B F X N T hA hf hke hd1 (i := W / 65536 % 256 / 4) (j := W / 65536 % 256 % 4 * 16 + W / 256 % 256 / 16) (k := W / 256 % 256 % 16 * 4 + W % 256 / 64) (l := W % 256 % 64) hb (by omega) (by omega) (by omega) (by omega) (by omega) (by omega) (by omega) (by omega) fun t h' tk' F' N' => ret _ t h' tk' F' N' ?_
  rw [dec_val W]
  refine KBa.ints_make fun n hn => ?_
  simp only [List.mem_cons, List.not_mem_nil, or_false] at hn
  omega
theorem back_use {D : Addr} {nD : Nat} {vs : List Value} {tn : Tok} {c' : Addr} {oc : Obj} {vs' : Array Value} {tq : Tok} (hG : GoodXs xs) (B : Below A₀ base outer h₀) (F : Fr h₀ L s.heap m) (X : (hd.heap_1 w.params).In h₀) (N : News h₀ L s.heap news) (T : Top p loose mean mg mb h₀) (hA : A = arnd dp un gd (env :: outer)) (hf : env.frame = some L) (hke : env.scope.kind = .function)
    (hm1 : (30, tabObj (#[] ++ #[rawInt 23, rawInt 4, .ref c'])) ∈ news) (hm2 : (c', oc) ∈ news) (hoc1 : oc.data = .fields vs') (hoc2 : vs'[1]? = some (.str (Str.ofString "_digits2int.<locals>.inner") tq)) (hm : (D, W.listOf vs.toArray nD) ∈ news) (hD : @Ne Nat D 30) (hd1 : dp + 150 < recursionLimit)
    (hi : IntsAre vs [Wt xs / 65536 % 256, Wt xs / 256 % 256, Wt xs % 256].reverse)
    (ret : ∀ t h' tk', Fr h₀ L h' m → News h₀ L h' news → Q (.int (Wt xs) t) { s with heap := h', toks := tk' }) :
    wpAny (model PR w) A (call (.ref 35) [.ref D, .int 8 tn]) Q E s := by
  obtain ⟨w0, w1⟩ := hG.W
  have hi' : IntsAre vs [Wt xs % 256, Wt xs / 256 % 256, Wt xs / 65536 % 256] := hi
  refine d2i_2_use B F X N T hA hf hke hm1 hm2 hoc1 hoc2 hm hD hd1 hi' (show 3 ≤ 100 by decide) (show 0 < 3 by decide) (by decide) (by decide) back_hb fun t h' tk' F' N' => ?_
  rw [back_val (W := Wt xs) (by omega) (by omega)]
  exact ret t h' tk' F' N'
theorem toldW_use {b : Array UInt8} {tb : Tok} (hG : GoodXs xs) (hb : KBw.bInts b = (figs (Wt xs)).map sig) (B : Below A₀ base outer h₀) (F : Fr h₀ L s.heap m) (X : (hd.heap_1 w.params).In h₀) (N : News h₀ L s.heap news) (T : Top p loose mean mg mb h₀) (hA : A = arnd dp un gd (env :: outer)) (hf : env.frame = some L) (hke : env.scope.kind = .function)
    (hd1 : dp + 20 < recursionLimit)
    (ret : ∀ a vs1 n1 h' tk', Fr h₀ L h' m → News h₀ L h' ((a, W.listOf (List.toArray vs1) n1) :: news) → OffAll news a → IntsAre vs1 (fallen xs).1 → Q (.ref a) { s with heap := h', toks := tk' }) :
    wpAny (model PR w) A (call (.ref 184) [.bytes b tb]) Q E s := by
  obtain ⟨w0, w1⟩ := hG.W
  have I := fallen_ok hG.nn
  refine told_use B F X N T hA hf hke hd1 hb rfl (figs_in _) fun a vs1 n1 h' tk' F' N' o1 hI => ret a vs1 n1 h' tk' F' N' o1 (ints_as hI ?_)
  exact told_is (by show _ < (16777216 : Int); omega) I.up I.nn (kept_W hG.nn)
theorem dueW_use {l : Addr} {vs : List Value} {n : Nat} (hG : GoodXs xs) (B : Below A₀ base outer h₀) (F : Fr h₀ L s.heap m) (X : (hd.heap_1 w.params).In h₀) (N : News h₀ L s.heap news) (T : Top p loose mean mg mb h₀) (hA : A = arnd dp un gd (env :: outer)) (hf : env.frame = some L) (hke : env.scope.kind = .function)
    (hm : (l, W.listOf vs.toArray n) ∈ news) (hi : IntsAre vs xs) (hd1 : dp + 20 < recursionLimit)
    (ret : ∀ a vs1 n1 h' tk', Fr h₀ L h' m → News h₀ L h' ((a, W.listOf (List.toArray vs1) n1) :: news) → OffAll news a → IntsAre vs1 (fallen xs).2 → Q (.ref a) { s with heap := h', toks := tk' }) :
    wpAny (model PR w) A (call (.ref 163) [.ref l]) Q E s := by
  refine due_use B F X N T hA hf hke hm hi hd1 hG.len hG.rng fun a vs1 n1 h' tk' F' N' o1 hI => ret a vs1 n1 h' tk' F' N' o1 (ints_as hI ?_)
  exact (joined_due hG.rng hG.len).symm
/-- what is kept of both parts, fallen once more -/
theorem parted_use {l : Addr} {vs : List Value} {ys zs : List Int} {n : Nat} (hG : GoodXs xs) (hz : ys ++ zs = xs) (B : Below A₀ base outer h₀) (F : Fr h₀ L s.heap m) (X : (hd.heap_1 w.params).In h₀) (N : News h₀ L s.heap news) (T : Top p loose mean mg mb h₀) (hA : A = arnd dp un gd (env :: outer)) (hf : env.frame = some L) (hke : env.scope.kind = .function)
    (hm : (l, W.listOf vs.toArray n) ∈ news) (hi : IntsAre vs ((fallen zs).1 ++ (fallen ys).1)) (hd1 : dp + 20 < recursionLimit)
    (ret : ∀ a b c vs1 n1 vs2 n2 nt h' tk' js, Fr h₀ L h' m → News h₀ L h' ((a, ({ cls := .type "tuple", data := .seq #[.ref b, .ref c] nt } : Obj)) :: (b, W.listOf (List.toArray vs1) n1) :: (c, W.listOf (List.toArray vs2) n2) :: news) →
      OffAll news a → OffAll news b → OffAll news c → @Ne Nat a b → @Ne Nat a c → @Ne Nat b c → IntsAre vs1 (fallen xs).1 → IntsAre vs2 js → js.length ≤ 13 → (∀ l, List.Perm l ((fallen ys).2 ++ (fallen zs).2 ++ js) → List.Pairwise (· ≤ ·) l → l = (fallen xs).2) → Q (.ref a) { s with heap := h', toks := tk' }) :
    wpAny (model PR w) A (call (.ref 158) [.ref l]) Q E s := by
  subst hz
  have l1 := fallen_len ys
  have l2 := fallen_len zs
  have l3 := fallen_len ((fallen zs).1 ++ (fallen ys).1)
  have l4 := hG.len
  rw [List.length_append] at l3 l4
  refine fallen_use B F X N T hA hf hke hm hi hd1 (by rw [List.length_append]; omega) fun a b c vs1 n1 vs2 n2 nt h' tk' F' N' oa ob oc x1 x2 x3 i1 i2 _ => ret a b c vs1 n1 vs2 n2 nt h' tk' _ F' N' oa ob oc x1 x2 x3 (ints_as i1 ?_) i2 (by omega) fun l hp hs => ?_
  · exact parted_kept (fun x hx => hG.nn x (List.mem_append_left _ hx)) (fun x hx => hG.nn x (List.mem_append_right _ hx))
  · exact parted_joined hG.rng hG.len hs hp
end
section
variable {prog : Program} {w : World} {A : Around} {E : Value → Shared → Prop} {s : Shared} {h₀ : Heap} {L D : Addr} {m : Str → Option Value} {news : Led} {vs : List Value} {a b c d : Int} {n : Nat} {u : Tok} {value slice : Expr} {Q : Value → Shared → Prop}
theorem item4_0 (N : News h₀ L s.heap news) (hm : (D, W.listOf vs.toArray n) ∈ news) (hi : IntsAre vs [a, b, c, d]) (h : ∀ t, Q (.int a t) s) (hs : subscripted slice false (.ref D) (.int 0 u) = operate [.ref D, .int 0 u] (getItem (.ref D) (.int 0 u)) := by with_unfolding_all rfl) : wpAny (model prog w) A (subscriptTail value slice (.ref D) (.int 0 u)) Q E s :=
  ksa_sub N hm hi (by decide) (by show (0 : Int) < 4; decide) (by decide) h hs
theorem item4_1 (N : News h₀ L s.heap news) (hm : (D, W.listOf vs.toArray n) ∈ news) (hi : IntsAre vs [a, b, c, d]) (h : ∀ t, Q (.int b t) s) (hs : subscripted slice false (.ref D) (.int 1 u) = operate [.ref D, .int 1 u] (getItem (.ref D) (.int 1 u)) := by with_unfolding_all rfl) : wpAny (model prog w) A (subscriptTail value slice (.ref D) (.int 1 u)) Q E s :=
  ksa_sub N hm hi (by decide) (by show (1 : Int) < 4; decide) (by decide) h hs
theorem item4_2 (N : News h₀ L s.heap news) (hm : (D, W.listOf vs.toArray n) ∈ news) (hi : IntsAre vs [a, b, c, d]) (h : ∀ t, Q (.int c t) s) (hs : subscripted slice false (.ref D) (.int 2 u) = operate [.ref D, .int 2 u] (getItem (.ref D) (.int 2 u)) := by with_unfolding_all rfl) : wpAny (model prog w) A (subscriptTail value slice (.ref D) (.int 2 u)) Q E s :=
  ksa_sub N hm hi (by decide) (by show (2 : Int) < 4; decide) (by decide) h hs
theorem lenW {bs : Array UInt8} {t : Tok} {W : Int} (hk : KBw.bInts bs = (figs W).map sig) (h : Q (.int 4 (s.toks + 1)) { s with toks := s.toks + 1 + 1 }) :
    wpAny (model prog w) A (call (.builtin "len") [.bytes bs t]) Q E s := lenF hk rfl h
end
theorem inW (W : Int) : KBa.In [W / 65536 % 256, W / 256 % 256, W % 256] := fun n hn => by
  simp only [List.mem_cons, List.not_mem_nil, or_false] at hn
  omega
end Mine
namespace Mine
local macro_rules | `(tactic| walk_at $s:str) => `(tactic| k_extra $s)
local macro_rules | `(tactic| k_room) => `(tactic| k_extra "k_room")
local macro_rules | `(tactic| k_ne) => `(tactic| k_extra "k_ne")
noncomputable def isSeq : Data → Bool
  | .seq _ _ => true
  | _ => false
noncomputable def isCell : Data → Bool
  | .cell _ => true
  | _ => false
theorem ne_get {h : Heap} {a d : Addr} {o o' : Obj} {f : Data → Bool} (ha : h.get? a = some o) (hd : h.get? d = some o') (e1 : f o.data = true) (e2 : f o'.data = false) : @Ne Nat a d := fun e => by
  have e' : a = d := e
  subst e'
  rw [ha] at hd
  rw [Option.some.inj hd, e2] at e1
  cases e1
section
variable {h₀ h : Heap} {L a d : Addr} {news : Led} {o o' : Obj} {v : Option Value}
theorem ne_seqL (N : News h₀ L h news) (h1 : (a, o) ∈ news) (h2 : (d, o') ∈ news) (e1 : isSeq o.data = true) (e2 : isSeq o'.data = false) : @Ne Nat a d := ne_get (N _ h1).1 (N _ h2).1 e1 e2
theorem ne_seqR (N : News h₀ L h news) (h1 : (a, o) ∈ news) (h2 : (d, o') ∈ news) (e1 : isSeq o.data = true) (e2 : isSeq o'.data = false) : @Ne Nat d a := (ne_seqL N h1 h2 e1 e2).symm
theorem ne_cellL (N : News h₀ L h news) (h1 : (a, o) ∈ news) (h2 : (d, o') ∈ news) (e1 : o.data = .cell v) (e2 : isCell o'.data = false) : @Ne Nat a d := ne_get (f := isCell) (N _ h1).1 (N _ h2).1 (by rw [e1]; rfl) e2
theorem ne_cellR (N : News h₀ L h news) (h1 : (a, o) ∈ news) (h2 : (d, o') ∈ news) (e1 : o.data = .cell v) (e2 : isCell o'.data = false) : @Ne Nat d a := (ne_cellL N h1 h2 e1 e2).symm
theorem offLt (h : ∀ p ∈ news, p.1 < a) : OffAll news a := fun q hq => Nat.ne_of_lt (h q hq)
theorem OffAll.out (h : OffAll news a) : ∀ p ∈ news, p.1 ≠ a := h
end
theorem itemLast {prog : Program} {w : World} {A : Around} {E : Value → Shared → Prop} {s : Shared} {h₀ : Heap} {L D : Addr} {news : Led} {vs : List Value} {xs : List Int} {n : Nat} {u : Tok} {value slice : Expr} {Q : Value → Shared → Prop} (N : News h₀ L s.heap news) (hm : (D, W.listOf vs.toArray n) ∈ news) (hi : IntsAre vs xs) (h0 : 0 < xs.length) (h1 : xs.length ≤ 1000) (h : ∀ t, Q (.int (xs.getLastD 0) t) s)
    (hs : subscripted slice false (.ref D) (.int (-1) u) = operate [.ref D, .int (-1) u] (getItem (.ref D) (.int (-1) u)) := by with_unfolding_all rfl) :
    wpAny (model prog w) A (subscriptTail value slice (.ref D) (.int (-1) u)) Q E s := by
  have hl := hi.length
  have e1 : ((-1 : Int) + (vs.length : Int)).toNat = xs.length - 1 := by omega
  have hne : xs ≠ [] := fun e => by rw [e] at h0; exact absurd h0 (Nat.lt_irrefl _)
  have e2 : xs[xs.length - 1]? = some (xs.getLastD 0) := by
    rw [List.getLastD_eq_getLast?, List.getLast?_eq_getElem?, List.getElem?_eq_getElem (by omega)]; rfl
  obtain ⟨v, hv⟩ : ∃ v, vs[xs.length - 1]? = some v := ⟨_, List.getElem?_eq_getElem (by omega)⟩
  obtain ⟨t, rfl⟩ := ints_nth hi hv e2
  have hL : s.heap.IsList D vs.toArray := News.isList N hm
  exact tail_any hL.typeIs slot_list_getitem.lookup (wpAny_getItem_list_neg hL (by decide) (by rw [List.size_toArray]; omega) (by decide) (by rw [List.size_toArray, e1]; simpa using hv) (h t)) hs
theorem kept_last {xs : List Int} (hG : GoodXs xs) : 0 < (fallen xs).1.length ∧ 0 ≤ (fallen xs).1.getLastD 0 ∧ (fallen xs).1.getLastD 0 ≤ 20 := by
  obtain ⟨w0, w1⟩ := hG.W
  have I := fallen_ok hG.nn
  have hne : (fallen xs).1 ≠ [] := fun e => by
    have := kept_W hG.nn
    rw [e] at this
    have e0 : Wt [] = 0 := rfl
    omega
  obtain ⟨l0, lb⟩ := last_bits I.up I.nn hne
  rw [kept_W hG.nn] at lb
  have hB : Builtin.Int.intBits (Wt xs) ≤ 20 := PySem.intBits_le_iff.mpr (by have : (2 : Nat) ^ 20 = 1048576 := rfl; omega)
  exact ⟨List.length_pos_iff.mpr hne, l0, by omega⟩
theorem stopB' {P : Prop} (h : P) : StopB P := h
theorem comp_ones {prog : Program} {w : World} {A : Around} {h₀ : Heap} {L : Addr} {m : Str → Option Value} {env : Env} {elt : Expr} {x : Str} {scope : Scope} {cl : List (Str × Addr)} {s : Shared} {S : List (Addr × Obj) → Prop} {Fin : List Value → List (Addr × Obj) → Prop} {news : List (Addr × Obj)} {n : Nat} {a : Int} {vs : List Value} {xs : List Int} {N : Nat}
    (_hZ : StopB (IntsAre vs (List.map (fun p => if p ∈ (fallen xs).1 then (1 : Int) else 0) (rangeKs 0 N))))
    (turn : ∀ k t I oI C oC D m₂ ys h tk (E' : Value → Shared → Prop), a ≤ k → k < a + (n : Int) → LCg.NsObj oC m₂ → m₂ x = some (.int k t) → Fr h₀ L h m → News h₀ L h ((I, oI) :: (C, oC) :: (D, LCg.lst ys) :: news) → LCg.Off3 I C D news → ((@Ne Nat I C) ∧ (@Ne Nat I D) ∧ (@Ne Nat C D)) → KPfMark →
      wpAny (model prog w) A (eval elt (compEnvC scope cl C env)) (LCg.CompEnd h₀ L m { s with heap := h, toks := tk } I oI C oC D (LCg.lst ys) S (fun y news' => KCfEl news (if k ∈ (fallen xs).1 then (1 : Int) else 0) y news')) E' { s with heap := h, toks := tk })
    (fin : KPfDone (∀ ys, IntsAre ys ((rangeKs a n).map (fun p => if p ∈ (fallen xs).1 then (1 : Int) else 0)) → Fin ys news)) : LCg.CompRest prog w A h₀ L m env elt x scope cl s S (fun i v => ∃ t, v = .int (a + (i : Int)) t) Fin n 0 [] news :=
  kcf_range (fun p => if p ∈ (fallen xs).1 then (1 : Int) else 0) turn fin
section
variable {prog : Program} {w : World} {A : Around} {E : Value → Shared → Prop} {s : Shared} {h₀ : Heap} {L a b : Addr} {news : Led} {vs us : List Value} {ns ms : List Int} {n k : Nat} {Q : Value → Shared → Prop}
theorem eqT (N : News h₀ L s.heap news) (h1 : (a, W.listOf vs.toArray n) ∈ news) (hi : IntsAre vs ns) (h2 : (b, W.listOf us.toArray k) ∈ news) (hi' : IntsAre us ms) (hu : A.units + 64 < cLine) (e : ns = ms) (h : Q (.bool true) s) : wpAny (model prog w) A (compareOp .Eq (.ref a) (.ref b)) Q E s := by
  refine eq_intsK (News.isList N h1) hi (News.isList N h2) hi' hu ?_
  rw [decide_eq_true e]; exact h
theorem neF (N : News h₀ L s.heap news) (h1 : (a, W.listOf vs.toArray n) ∈ news) (hi : IntsAre vs ns) (h2 : (b, W.listOf us.toArray k) ∈ news) (hi' : IntsAre us ms) (hu : A.units + 64 < cLine) (e : ns = ms) (h : Q (.bool false) s) : wpAny (model prog w) A (compareOp .NotEq (.ref a) (.ref b)) Q E s := by
  refine ne_intsK (News.isList N h1) hi (News.isList N h2) hi' hu ?_
  rw [decide_eq_true e]; exact h
end
theorem any_yes {xs : List Int} {k : Int} (h : (xs.any fun x => x == k) = true) : (if k ∈ xs then (1 : Int) else 0) = 1 := by
  obtain ⟨x, hx, e⟩ := List.any_eq_true.mp h
  rw [if_pos (eq_of_beq e ▸ hx)]
theorem any_no {xs : List Int} {k : Int} (h : (xs.any fun x => x == k) = false) : (if k ∈ xs then (1 : Int) else 0) = 0 := by
  rw [if_neg fun hk => ?_]
  have : (xs.any fun x => x == k) = true := List.any_eq_true.mpr ⟨k, hk, beq_self_eq_true k⟩
  rw [h] at this
  cases this
theorem bytesW {prog : Program} {w : World} {A : Around} {E : Value → Shared → Prop} {s : Shared} {h₀ : Heap} {L D : Addr} {m : Str → Option Value} {news : Led} {vs : List Value} {wt : Int} {n : Nat} {Q : Value → Shared → Prop}
    (hh : A.handled = none) (F : Fr h₀ L s.heap m) (N : News h₀ L s.heap news) (hm : (D, W.listOf vs.toArray n) ∈ news) (hi : IntsAre vs [wt / 65536 % 256, wt / 256 % 256, wt % 256])
    (h : ∀ b t h' tk, Fr h₀ L h' m → News h₀ L h' news → KBw.bInts b = [wt / 65536 % 256, wt / 256 % 256, wt % 256] → Q (.bytes b t) { s with heap := h', toks := tk }) : wpAny (model prog w) A (call (.type "bytes") [.ref D]) Q E s :=
  KBa.make_K F N hh (News.isList N hm) hi (inW wt) (by show 3 ≤ 16777216; decide) fun h' t' k F' N' hin => h _ t' h' k F' N' (KBa.ints_make hin)
section
theorem law_holds : PySem.Challenge.rw_qh0054_01.Holds := hd (by
  k_with_none
  k_with "k_room" => ((try simp only [depth_under_make, depth_under_kw, depth_in1, depth_deeper, depth_caller]); (try dsimp only); (try decide); omega)
  k_with "k_ne" => (refine neN ?_; (try dsimp only); first | (refine' OffAll.l ?zqh ?zqm; (case zqh => assumption); (case zqm => k_mem)) | (refine' OffAll.r ?zqh ?zqm; (case zqh => assumption); (case zqm => k_mem)) | (refine' ne_seqL ?zqn ?zqh ?zqm ?zqe ?zqf; (case zqn => k_asm); (case zqh => k_mem); (case zqm => k_mem); (case zqe => exact rfl); (case zqf => exact rfl)) | (refine' ne_seqR ?zqn ?zqh ?zqm ?zqe ?zqf; (case zqn => k_asm); (case zqh => k_mem); (case zqm => k_mem); (case zqe => exact rfl); (case zqf => exact rfl)) | (refine' ne_cellL ?zqn ?zqh ?zqm ?zqe ?zqf; (case zqn => k_asm); (case zqh => k_mem); (case zqm => k_mem); (case zqe => assumption); (case zqf => exact rfl)) | (refine' ne_cellR ?zqn ?zqh ?zqm ?zqe ?zqf; (case zqn => k_asm); (case zqh => k_mem); (case zqm => k_mem); (case zqe => assumption); (case zqf => exact rfl)) | fail "k_ne")
  k_with "call ref" => (k_here; (with_reducible show wpAny _ _ (call (Value.ref 158) _) _ _ _); refine stopB ?_)
  k_with "call ref" => (k_here; (with_reducible show wpAny _ _ (call (Value.ref 28) _) _ _ _); refine stopB ?_)
  k_with "call ref" => (k_here; (with_reducible show wpAny _ _ (call (Value.ref 35) _) _ _ _); refine stopB ?_)
  k_with "call ref" => (k_here; (with_reducible show wpAny _ _ (call (Value.ref 143) _) _ _ _); refine stopB ?_)
  k_with "call ref" => (k_here; (with_reducible show wpAny _ _ (call (Value.ref 151) _) _ _ _); refine stopB ?_)
  k_with "call ref" => (k_here; (with_reducible show wpAny _ _ (call (Value.ref 163) _) _ _ _); refine stopB ?_)
  k_with "call ref" => (k_here; (with_reducible show wpAny _ _ (call (Value.ref 184) _) _ _ _); refine stopB ?_)
  k_with "call ref" => ((rename GoodXs _ => hG9); k_here; (with_reducible show wpAny _ _ (call (Value.ref 158) _) _ _ _); k_dflt (refine' fallen_use ?zqk1 ?zqk2 ?zqk3 ?zqk4 ?zqk5 ?zqkA ?zqkF ?zqkK ?zqkm ?zqkI ?zqkd ?zqkz ?_; (case zqkA => exact rfl); (case zqkF => exact rfl); (case zqkK => exact rfl); (case zqk1 => k_asm); (case zqk2 => k_asm); (case zqk3 => k_asm); (case zqk4 => k_asm); (case zqk5 => k_asm); (case zqkm => k_mem); (case zqkI => l_ints); (case zqkd => k_room); (case zqkz => ((try simp only [List.length_append, List.length_take, List.length_drop]); omega)); k_whole); intro a b c vs1 n1 vs2 n2 nt h' tk' F' N' oa ob oc xab xac xbc hI1 hI2 hLn; (try simp only [List.length_append, List.length_take, List.length_drop] at hLn); (try dsimp only at N'); (try k_sweep))
  k_with "call ref" => ((rename GoodXs _ => hG9); k_here; (with_reducible show wpAny _ _ (call (Value.ref 158) _) _ _ _); k_dflt (refine' parted_use ?zqkg ?zqkz ?zqk1 ?zqk2 ?zqk3 ?zqk4 ?zqk5 ?zqkA ?zqkF ?zqkK ?zqkm ?zqkI ?zqkd ?_; (case zqkA => exact rfl); (case zqkF => exact rfl); (case zqkK => exact rfl); (case zqk1 => k_asm); (case zqk2 => k_asm); (case zqk3 => k_asm); (case zqk4 => k_asm); (case zqk5 => k_asm); (case zqkd => k_room); (case zqkm => k_mem); (case zqkI => l_ints); (case zqkg => assumption); (case zqkz => exact List.take_append_drop _ _); k_whole); intro a b c vs1 n1 vs2 n2 nt h' tk' js F' N' oa ob oc xab xac xbc hI1 hI2 hLn hJs; (try dsimp only at N'); (try k_sweep))
  k_with "call ref" => ((rename GoodXs _ => hG9); k_here; (with_reducible show wpAny _ _ (call (Value.ref 35) _) _ _ _); k_dflt (refine' counts_use ?zqkg ?zqk1 ?zqk2 ?zqk3 ?zqk4 ?zqk5 ?zqkA ?zqkF ?zqkK ?zqkU ?zqkm ?zqkn ?zqkd ?zqkI ?_; (case zqkA => exact rfl); (case zqkF => exact rfl); (case zqkK => exact rfl); (case zqk1 => k_asm); (case zqk2 => k_asm); (case zqk3 => k_asm); (case zqk4 => k_asm); (case zqk5 => k_asm); (case zqkd => k_room); (case zqkg => assumption); (case zqkU => k_updF); (case zqkm => k_mem); (case zqkn => k_ne); (case zqkI => l_ints); k_whole); intro c' oc vs' tq t' h' tk' F' N' o1 e1 e2; (try dsimp only at N'); (try k_sweep))
  k_with "call ref" => ((rename GoodXs _ => hG9); k_here; (with_reducible show wpAny _ _ (call (Value.ref 35) _) _ _ _); k_dflt (refine' back_use ?zqkg ?zqk1 ?zqk2 ?zqk3 ?zqk4 ?zqk5 ?zqkA ?zqkF ?zqkK ?zqx1 ?zqx2 ?zqx3 ?zqx4 ?zqkm ?zqkn ?zqkd ?zqkI ?_; (case zqkA => exact rfl); (case zqkF => exact rfl); (case zqkK => exact rfl); (case zqk1 => k_asm); (case zqk2 => k_asm); (case zqk3 => k_asm); (case zqk4 => k_asm); (case zqk5 => k_asm); (case zqkd => k_room); (case zqkg => assumption); (case zqx1 => k_mem); (case zqx2 => k_mem); (case zqx3 => assumption); (case zqx4 => assumption); (case zqkm => k_mem); (case zqkn => k_ne); (case zqkI => l_ints); k_whole); intro t' h' tk' F' N'; (try dsimp only at N'); (try k_sweep))
  k_with "call ref" => ((rename GoodXs _ => hG9); k_here; (with_reducible show wpAny _ _ (call (Value.ref 28) _) _ _ _); k_dflt (refine' oct_use ?zqkg ?zqk1 ?zqk2 ?zqk3 ?zqk4 ?zqk5 ?zqkA ?zqkF ?zqkK ?zqkU ?zqkd ?_; (case zqkA => exact rfl); (case zqkF => exact rfl); (case zqkK => exact rfl); (case zqk1 => k_asm); (case zqk2 => k_asm); (case zqk3 => k_asm); (case zqk4 => k_asm); (case zqk5 => k_asm); (case zqkd => k_room); (case zqkg => assumption); (case zqkU => k_updF); k_whole); intro D' vs' n' c' oc vs2' tq h' tk' F' N' o1 o2 x1 hI e1 e2; (try dsimp only at N'); (try k_sweep))
  k_with "call ref" => ((rename GoodXs _ => hG9); k_here; (with_reducible show wpAny _ _ (call (Value.ref 28) _) _ _ _); k_dflt (refine' ones_use ?zqkg ?zqk1 ?zqk2 ?zqk3 ?zqk4 ?zqk5 ?zqkA ?zqkF ?zqkK ?zqx1 ?zqx2 ?zqx3 ?zqx4 ?zqkd ?_; (case zqkA => exact rfl); (case zqkF => exact rfl); (case zqkK => exact rfl); (case zqk1 => k_asm); (case zqk2 => k_asm); (case zqk3 => k_asm); (case zqk4 => k_asm); (case zqk5 => k_asm); (case zqkd => k_room); (case zqkg => assumption); (case zqx1 => k_mem); (case zqx2 => k_mem); (case zqx3 => assumption); (case zqx4 => assumption); k_whole); intro D' vs' n' h' tk' F' N' o1 hI; (try dsimp only at N'); (try k_sweep))
  k_with "call ref" => ((rename GoodXs _ => hG9); k_here; (with_reducible show wpAny _ _ (call (Value.ref 143) _) _ _ _); k_dflt (refine' encW_use ?zqkb ?zqk1 ?zqk2 ?zqk3 ?zqk4 ?zqk5 ?zqkA ?zqkF ?zqkK ?zqkd ?_; (case zqkA => exact rfl); (case zqkF => exact rfl); (case zqkK => exact rfl); (case zqk1 => k_asm); (case zqk2 => k_asm); (case zqk3 => k_asm); (case zqk4 => k_asm); (case zqk5 => k_asm); (case zqkd => k_room); (case zqkb => assumption); k_whole); intro b' t' h' tk' F' N' hB'; (try k_sweep))
  k_with "call ref" => ((rename GoodXs _ => hG9); k_here; (with_reducible show wpAny _ _ (call (Value.ref 151) _) _ _ _); k_dflt (refine' decW_use ?zqkb ?zqk1 ?zqk2 ?zqk3 ?zqk4 ?zqk5 ?zqkA ?zqkF ?zqkK ?zqkd ?_; (case zqkA => exact rfl); (case zqkF => exact rfl); (case zqkK => exact rfl); (case zqk1 => k_asm); (case zqk2 => k_asm); (case zqk3 => k_asm); (case zqk4 => k_asm); (case zqk5 => k_asm); (case zqkd => k_room); (case zqkb => assumption); k_whole); intro b' t' h' tk' F' N' hB'; (try k_sweep))
  k_with "call ref" => ((rename GoodXs _ => hG9); k_here; (with_reducible show wpAny _ _ (call (Value.ref 184) _) _ _ _); k_dflt (refine' toldW_use ?zqkg ?zqkb ?zqk1 ?zqk2 ?zqk3 ?zqk4 ?zqk5 ?zqkA ?zqkF ?zqkK ?zqkd ?_; (case zqkA => exact rfl); (case zqkF => exact rfl); (case zqkK => exact rfl); (case zqk1 => k_asm); (case zqk2 => k_asm); (case zqk3 => k_asm); (case zqk4 => k_asm); (case zqk5 => k_asm); (case zqkd => k_room); (case zqkg => assumption); (case zqkb => assumption); k_whole); intro a vs1 n1 h' tk' F' N' o1 hI; (try dsimp only at N'); (try k_sweep))
  k_with "call ref" => ((rename GoodXs _ => hG9); k_here; (with_reducible show wpAny _ _ (call (Value.ref 163) _) _ _ _); k_dflt (refine' dueW_use ?zqkg ?zqk1 ?zqk2 ?zqk3 ?zqk4 ?zqk5 ?zqkA ?zqkF ?zqkK ?zqkm ?zqkI ?zqkd ?_; (case zqkA => exact rfl); (case zqkF => exact rfl); (case zqkK => exact rfl); (case zqk1 => k_asm); (case zqk2 => k_asm); (case zqk3 => k_asm); (case zqk4 => k_asm); (case zqk5 => k_asm); (case zqkd => k_room); (case zqkg => assumption); (case zqkm => k_mem); (case zqkI => l_ints); k_whole); intro a vs1 n1 h' tk' F' N' o1 hI; (try dsimp only at N'); (try k_sweep))
  k_with "call type:bytes" => ((rename GoodXs _ => hG9); k_here; (with_reducible show wpAny _ _ (call (Value.type "bytes") [Value.ref _]) _ _ _); k_dflt (refine' bytesW ?zqkh ?zqk1 ?zqk2 ?zqkm ?zqkI ?_; (case zqkh => exact rfl); (case zqk1 => k_asm); (case zqk2 => k_asm); (case zqkm => k_mem); (case zqkI => first | l_ints | l_intsW); k_whole); intro b' t' h' tk' F' N' hB'; (try k_sweep))
  k_with "call type:list" => ((rename GoodXs _ => hG9); k_here; (with_reducible show wpAny _ _ (call (Value.type "list") [Value.bytes _ _]) _ _ _); k_dflt (refine' list_bytes ?zqkh ?zqk1 ?zqk2 ?zqkb ?zqkn ?_; (case zqkh => exact rfl); (case zqk1 => k_asm); (case zqk2 => k_asm); (case zqkb => assumption); (case zqkn => exact Nat.le_of_ble_eq_true rfl); k_whole); intro D' vs' n' h' tk' F' N' l1 hI; (replace l1 := offLt l1); (try k_sweep))
  k_with "call type:list" => ((rename GoodXs _ => hG9); k_here; (with_reducible show wpAny _ _ (call (Value.type "list") [Value.ref _]) _ _ _); k_dflt (refine' list_rev ?zqkh ?zqk1 ?zqk2 ?zqkm ?zqke ?zqkI ?zqkn ?_; (case zqkh => exact rfl); (case zqk1 => k_asm); (case zqk2 => k_asm); (case zqkm => k_mem); (case zqke => (refine OffAll.out ?_; assumption)); (case zqkI => l_ints); (case zqkn => exact Nat.le_of_ble_eq_true rfl); k_whole); intro D' vs' n' h' tk' F' N' l1 hI; (replace l1 := offLt l1); (try k_sweep))
  k_with "call builtin:len" => (k_here; (with_reducible show wpAny _ _ (call (Value.builtin "len") [Value.bytes _ _]) _ _ _); (refine lenW (by assumption) ?_))
  k_with "subscriptTail" => (k_here; (with_reducible show wpAny _ _ (subscriptTail _ _ (Value.ref _) (Value.int 0 _)) _ _ _); k_dflt (refine' item4_0 ?zqk1 ?zqk2 ?zqk3 ?_ ?zqk7; (case zqk1 => k_asm); (case zqk2 => k_mem); (case zqk3 => l_ints); (case zqk7 => with_unfolding_all rfl); k_whole); intro _)
  k_with "subscriptTail" => (k_here; (with_reducible show wpAny _ _ (subscriptTail _ _ (Value.ref _) (Value.int 1 _)) _ _ _); k_dflt (refine' item4_1 ?zqk1 ?zqk2 ?zqk3 ?_ ?zqk7; (case zqk1 => k_asm); (case zqk2 => k_mem); (case zqk3 => l_ints); (case zqk7 => with_unfolding_all rfl); k_whole); intro _)
  k_with "subscriptTail" => (k_here; (with_reducible show wpAny _ _ (subscriptTail _ _ (Value.ref _) (Value.int 2 _)) _ _ _); k_dflt (refine' item4_2 ?zqk1 ?zqk2 ?zqk3 ?_ ?zqk7; (case zqk1 => k_asm); (case zqk2 => k_mem); (case zqk3 => l_ints); (case zqk7 => with_unfolding_all rfl); k_whole); intro _)
  k_with "call type:reversed" => ((rename GoodXs _ => hG9); k_here; (with_reducible show wpAny _ _ (call (Value.type _) [Value.ref _]) _ _ _); k_dflt (refine' krv_reversed ?zqk1 ?zqk2 ?zqk3 ?_; (case zqk1 => k_asm); (case zqk2 => k_asm); (case zqk3 => exact News.isList (by k_asm) (by k_mem)); k_whole); intro D' h' F' N' l1; (replace l1 := offLt l1); (try k_sweep))
  k_with "subscriptTail" => ((rename GoodXs _ => hG9); k_here; (with_reducible show wpAny _ _ (subscriptTail _ _ (Value.ref _) (Value.int (-1) _)) _ _ _); k_dflt (refine' itemLast ?zqk1 ?zqk2 ?zqk3 ?zqk4 ?zqk5 ?_ ?zqk7; (case zqk1 => k_asm); (case zqk2 => k_mem); (case zqk3 => l_ints); (case zqk4 => assumption); (case zqk5 => omega); (case zqk7 => with_unfolding_all rfl); k_whole); intro _)
  k_with "eval ListComp" => ((rename (IntsAre _ (List.map (fun p => if p ∈ (fallen _).1 then (1 : Int) else 0) _)) => hZ9); k_here; (replace hZ9 := stopB' hZ9); k_dflt (refine LCg.ListComp_U (F₀ := by k_asm) (by with_unfolding_all rfl) (by decide) (by rfl) (by decide) (by rfl) ?_))
  k_with "CompSrc" => ((with_reducible rename StopB _ => hZ9); k_here; k_dflt (refine LCg.CompSrc.range (by rfl) (by k_asm) (by k_asm) (by assumption) (small_one (by omega) (by omega) (by omega) (by omega)) (rangeSize_nat _ _) (by rw [PySem.sizeLine_eq]; omega) ?_; intro g'; (refine' comp_ones hZ9 (fun k' t' I' oI' C' oC' D' m' ys' h' tk' E' hlo' hhi' hC' hx' F' N' off' ne' hMark' => ?_) ?_); kcf_last))
  k_with "KCfEl" => ((with_reducible rename StopB _ => hZ9); k_dflt (first | exact kcf_el (any_yes (by assumption)) rfl rfl | exact kcf_el (any_no (by assumption)) rfl rfl | fail "no el"))
  k_with "compareOp Eq ref ref" => ((rename GoodXs _ => hG9); k_here; (with_reducible show wpAny _ _ (compareOp CmpOp.Eq (Value.ref _) (Value.ref _)) _ _ _); k_dflt (refine' eqT ?zqk1 ?zqk2 ?zqk3 ?zqk4 ?zqk5 ?zqk6 ?zqk7 ?_; (case zqk1 => k_asm); (case zqk2 => k_mem); (case zqk3 => l_ints); (case zqk4 => k_mem); (case zqk5 => l_ints); (case zqk6 => units_room); (case zqk7 => first | (with_reducible exact rfl) | (simp only [Int.sub_zero]; done) | exact (‹∀ l, List.Perm l _ → List.Pairwise _ l → l = _›) _ (by assumption) (by assumption)); k_whole))
  k_with "compareOp NotEq ref ref" => ((rename GoodXs _ => hG9); k_here; (with_reducible show wpAny _ _ (compareOp CmpOp.NotEq (Value.ref _) (Value.ref _)) _ _ _); k_dflt (refine' neF ?zqk1 ?zqk2 ?zqk3 ?zqk4 ?zqk5 ?zqk6 ?zqk7 ?_; (case zqk1 => k_asm); (case zqk2 => k_mem); (case zqk3 => l_ints); (case zqk4 => k_mem); (case zqk5 => l_ints); (case zqk6 => units_room); (case zqk7 => first | (with_reducible exact rfl) | (simp only [Int.sub_zero]; done) | exact (‹∀ l, List.Perm l _ → List.Pairwise _ l → l = _›) _ (by assumption) (by assumption)); k_whole))
  k_go0
  all_goals (try k_fold)
  k_steps
  unfold StopB
  rename List Int => script
  have hG := goodXs script
  obtain ⟨hc0, hc1⟩ := cut_in script
  generalize (List.map (fun (k' : Int) => Int.fmod k' 16) (List.take 10 script) ++ [2, 2, 3]).sum.fmod (((List.map (fun (k' : Int) => Int.fmod k' 16) (List.take 10 script)).length + (1 + 1 + 1) : Nat) + 1 : Int) = cut at *
  generalize List.map (fun (k' : Int) => Int.fmod k' 16) (List.take 10 script) ++ [2, 2, 3] = xs at *
  have hX1 := hG.len
  have hX2 := hG.pos
  have hX3 := hG.rng
  obtain ⟨hX4, hX5, hX6⟩ := kept_last hG
  k_steps
  all_goals w_report)
end
end Mine
theorem PySem.Challenge.cw_qh0054_01_holds : PySem.Challenge.rw_qh0054_01.Holds :=
  Mine.law_holds
