import PyProof.Rows.All
import Wide.All
import OpenK.AllK
import Wide.FinOn
import PySem.Challenge.RW_ty0043_01
open PySem PySem.W PyProof.Rows
set_option Elab.async false
set_option linter.all false
namespace Mine
section
section
/-- the text's statements that the head speaks of, told by their places -/
noncomputable def viewQ : Program := { PySem.Challenge.rw_ty0043_01.row.toRowW.prog with main := { PySem.Challenge.rw_ty0043_01.row.toRowW.prog.main with body := (fun b : List Stmt => b.take 1 ++ ((b.drop 2).take 2 ++ ((b.drop 8).take 1 ++ ((b.drop 10).take 1 ++ b.drop 12)))) PySem.Challenge.rw_ty0043_01.row.toRowW.prog.main.body } }
/-- the top's run, the heap a tree -/
noncomputable def topT (tb : String → Option Builtin) (p : Program) (w : World) (n₀ : Nat) (ann : Option Value) : Nat → SharedT → Thread → Option SharedT
  | 0, _, _ => none
  | n + 1, s, t => match through t with
    | true => some s
    | false => match stepOk n₀ ann t with
      | false => none
      | true => match stepT (denote tb) p w s t with
        | some (s', t') => topT tb p w n₀ ann n s' t'
        | none => none
theorem topT_of {tb : String → Option Builtin} {p : Program} {w : World} {n₀ : Nat} {ann : Option Value} : ∀ {n : Nat} {s s' : SharedT} {t : Thread}, topT tb p w n₀ ann n s t = some s' → topRun tb p w n₀ ann n s.abs t = some s'.abs
  | 0, _, _, _, h => by cases h
  | n + 1, s, s', t, h => by
    unfold topT at h
    unfold topRun
    cases ht : through t with
    | true => rw [ht] at h; cases h; rfl
    | false =>
      rw [ht] at h
      cases hk : stepOk n₀ ann t with
      | false => rw [hk] at h; cases h
      | true =>
        rw [hk] at h
        cases hs : stepT (denote tb) p w s t with
        | none => rw [hs] at h; cases h
        | some r => rw [hs] at h; rw [stepT_spec hs]; exact topT_of h
/-- the library's boot, a tree -/
noncomputable def bootT (P : Params) : BT := BT.ins (BT.ins (BT.ins (BT.ins (BT.ins (BT.ins (BT.ins (BT.ins (BT.ins (BT.ins (BT.ins .nil 0 (boot_o_0 P)) 1 (boot_o_1 P)) 2 (boot_o_2 P)) 3 (boot_o_3 P)) 4 (boot_o_4 P)) 5 (boot_o_5 P)) 6 (boot_o_6 P)) 7 (boot_o_7 P)) 8 (boot_o_8 P)) 9 (boot_o_9 P)) 10 (boot_o_10 P)
noncomputable def bootS (w : World) (os : OsState) : SharedT := ⟨bootT w.params, 11, (boot_heap w.params).life, Array.mk [], boot_drawn, boot_toks, os⟩
theorem bootS_abs (w : World) (os : OsState) : (bootS w os).abs = ⟨boot_heap w.params, Array.mk [], boot_drawn, boot_toks, os⟩ := by kernel_rfl
theorem boot_looks (w : World) : ((boot_heap w.params).isNs mainGlobals, (boot_heap w.params).objs.size, (boot_heap w.params).nsMap mainGlobals "__annotations__") = (true, 11, some (.ref 6)) := by kernel_rfl
/-- some steps of the top, the heap a tree -/
noncomputable def goT2 (tb : String → Option Builtin) (p : Program) (w : World) (n₀ : Nat) (ann : Option Value) : Nat → SharedT → Thread → Option (SharedT × Thread)
  | 0, s, t => some (s, t)
  | n + 1, s, t => match through t with
    | true => none
    | false => match stepOk n₀ ann t with
      | false => none
      | true => match stepT (denote tb) p w s t with
        | some (s', t') => goT2 tb p w n₀ ann n s' t'
        | none => none
theorem topT_go {tb : String → Option Builtin} {p : Program} {w : World} {n₀ : Nat} {ann : Option Value} {m : Nat} : ∀ {n : Nat} {s : SharedT} {t : Thread} {x : SharedT × Thread}, goT2 tb p w n₀ ann n s t = some x → topT tb p w n₀ ann (m + n) s t = topT tb p w n₀ ann m x.1 x.2
  | 0, _, _, _, h => by cases h; rfl
  | n + 1, s, t, x, h => by
    show topT tb p w n₀ ann (m + n + 1) s t = _
    unfold goT2 at h
    rw [topT]
    cases ht : through t with
    | true => rw [ht] at h; cases h
    | false =>
      rw [ht] at h
      cases hk : stepOk n₀ ann t with
      | false => rw [hk] at h; cases h
      | true =>
        rw [hk] at h
        cases hs : stepT (denote tb) p w s t with
        | none => rw [hs] at h; cases h
        | some r => rw [hs] at h; exact topT_go h
/-- the opening of a plain text is the library's boot; the run asks the row once, between the first n₁ steps and the last, and goes on alike -/
theorem leftO_boot {p q : Program} {loose : List Str} {Xt : Shared → Bool} {α : Type} {Yf : Shared → α} {Ya : World → α} {n₁ n₂ m : Nat} {g0 : Bool} (row : String)
    (e : opening p = plainProg p.main.scope.names) (hN : Nat.ble 600 (m + n₂ + n₁) = true) (f : ∀ s, fenceModules? p s = some s)
    (hmid : ∀ w : World, (fun os => (goT2 treeTable p w 11 (some (.ref 6)) n₁ (bootS w os) (topStub p)).bind fun x => goT2 treeTable p (w.withFollow row true) 11 (some (.ref 6)) n₂ x.1 x.2) = fun os => (goT2 treeTable p w 11 (some (.ref 6)) n₁ (bootS w os) (topStub p)).bind fun x => goT2 treeTable p (w.withFollow row false) 11 (some (.ref 6)) n₂ x.1 x.2)
    (hrun : ∀ w : World, (fun os => ((goT2 treeTable p w 11 (some (.ref 6)) n₁ (bootS w os) (topStub p)).bind fun x => goT2 treeTable p (w.withFollow row false) 11 (some (.ref 6)) n₂ x.1 x.2).bind fun x => (topT treeTable p w 11 (some (.ref 6)) m x.1 x.2).map fun s => ((staticsOk (importedModules p.main.body) (boot_heap w.params) s.abs.heap && namesBound p s.abs.heap && gensDone s.abs && laidKept (boot_heap w.params) s.abs.heap), openSeen q loose (importedModules p.main.body) Xt g0 s.abs, Yf s.abs)) = fun _ => some (true, openGood q loose, Ya w)) : LeftO p q loose Xt Yf Ya (m + n₂ + n₁) g0 := fun w => by
  obtain ⟨⟨h, gs, d, k, os⟩, a, b⟩ := Option.map_eq_some_iff.mp (boot_open (p := p) (N := m + n₂ + n₁) e hN f w)
  obtain ⟨rfl, rfl, rfl, rfl⟩ : h = boot_heap w.params ∧ gs = Array.mk [] ∧ d = boot_drawn ∧ k = boot_toks := by simpa using b
  have ew := World.withFollow_self w row
  have r := congrFun (hrun w) os
  have c : ((goT2 treeTable p w 11 (some (.ref 6)) n₁ (bootS w os) (topStub p)).bind fun x => goT2 treeTable p (w.withFollow row false) 11 (some (.ref 6)) n₂ x.1 x.2) = (goT2 treeTable p w 11 (some (.ref 6)) n₁ (bootS w os) (topStub p)).bind fun x => goT2 treeTable p w 11 (some (.ref 6)) n₂ x.1 x.2 := by
    have c := congrFun (hmid w) os
    cases hb : w.params.followText row <;> rw [hb] at ew
    · rw [ew]
    · rw [ew] at c; exact c.symm
  obtain ⟨x₂, h2, h3⟩ := Option.bind_eq_some_iff.mp r
  rw [c] at h2
  obtain ⟨x₁, h1, h2⟩ := Option.bind_eq_some_iff.mp h2
  obtain ⟨s', hs, he⟩ := Option.map_eq_some_iff.mp h3
  have h4 : topT treeTable p w 11 (some (.ref 6)) (m + n₂ + n₁) (bootS w os) (topStub p) = some s' := by rw [topT_go h1, topT_go h2]; exact hs
  have h5 := topT_of h4
  rw [bootS_abs] at h5
  obtain ⟨l1, l2⟩ := Prod.mk.inj he
  obtain ⟨z1, z2⟩ := Prod.mk.inj (boot_looks w)
  obtain ⟨z2, z3⟩ := Prod.mk.inj z2
  have t : topFrom treeTable p w (m + n₂ + n₁) ⟨boot_heap w.params, Array.mk [], boot_drawn, boot_toks, os⟩ = some s'.abs := by
    unfold topFrom
    dsimp only
    rw [z1, z2, z3, h5]
    show (match staticsOk (importedModules p.main.body) (boot_heap w.params) s'.abs.heap && namesBound p s'.abs.heap && gensDone s'.abs && laidKept (boot_heap w.params) s'.abs.heap with | true => _ | false => _) = _
    rw [l1]
  unfold openEnds
  rw [a]
  show (topFrom treeTable p w (m + n₂ + n₁) _).map _ = _
  rw [t]
  exact congrArg some l2
section
local macro_rules
  | `(tactic| o_head $_) => do
    let (hw, hc) := (Lean.mkIdent `hw, Lean.mkIdent `hc)
    `(tactic| refine (fun (_ : (OpenRow.toRowW PySem.Challenge.rw_ty0043_01.row).promised) h => h) ?$hw ?$hc)
set_option maxRecDepth 100000 in
set_option maxHeartbeats 8000000 in
open_top hd for PySem.Challenge.rw_ty0043_01.row
end
noncomputable abbrev rowQ : RowW := OpenRow.toRowW PySem.Challenge.rw_ty0043_01.row
noncomputable abbrev looseQ : List Str := [Str.ofString "bisect_right", Str.ofString "bisect_left", Str.ofString "Whitespace"]
noncomputable abbrev XtQ : Shared → Bool := fun s => xlAt Mine.viewQ [] s && recOk (RowW.records rowQ) s
noncomputable abbrev hookQ := kHook hd.heap_1 [2, 3, 15, 17, 18, 20, 21, 22, 24, 25, 27, 28, 29, 30, 31, 33, 34, 36, 37, 38, 39, 40, 42, 43, 45, 46, 47, 49, 50, 52, 53, 64, 66, 67, 69, 70, 71, 73, 74, 76, 77, 78, 80, 81, 83, 84, 85, 87, 88, 90, 91, 92, 94, 95, 97, 98, 99, 101, 102, 104, 105, 106, 108, 109, 111, 112, 113, 114, 115, 116, 117, 120, 122, 123, 125, 126, 127, 130, 131, 132, 134, 135, 137, 138, 139, 141, 142, 144, 145, 146, 148, 149, 151, 152, 153, 155, 156, 158, 159, 160, 163, 164] (fun _ => by kernel_rfl)
noncomputable abbrev rowS : String := "special-get-raises"
set_option maxRecDepth 100000 in
theorem run_mid (w : World) : (fun os => (goT2 treeTable rowQ.prog w 11 (some (.ref 6)) 290 (bootS w os) (topStub rowQ.prog)).bind fun x => goT2 treeTable rowQ.prog (w.withFollow rowS true) 11 (some (.ref 6)) 30 x.1 x.2) = fun os => (goT2 treeTable rowQ.prog w 11 (some (.ref 6)) 290 (bootS w os) (topStub rowQ.prog)).bind fun x => goT2 treeTable rowQ.prog (w.withFollow rowS false) 11 (some (.ref 6)) 30 x.1 x.2 := by kernel_rfl
set_option maxRecDepth 100000 in
theorem run_all (w : World) : (fun os => ((goT2 treeTable rowQ.prog w 11 (some (.ref 6)) 290 (bootS w os) (topStub rowQ.prog)).bind fun x => goT2 treeTable rowQ.prog (w.withFollow rowS false) 11 (some (.ref 6)) 30 x.1 x.2).bind fun x => (topT treeTable rowQ.prog w 11 (some (.ref 6)) 1000 x.1 x.2).map fun s => ((staticsOk (importedModules rowQ.prog.main.body) (boot_heap w.params) s.abs.heap && namesBound rowQ.prog s.abs.heap && gensDone s.abs && laidKept (boot_heap w.params) s.abs.heap), openSeen viewQ looseQ (importedModules rowQ.prog.main.body) XtQ true s.abs, Hook.obs hookQ s.abs)) = fun _ => some (true, openGood viewQ looseQ, Hook.val hookQ w) := by kernel_rfl
section
local macro_rules
  | `(tactic| o_head $_) => do
    let (hw, hc) := (Lean.mkIdent `hw, Lean.mkIdent `hc)
    `(tactic|
      refine holds_open (q := viewQ) (loose := [Str.ofString "bisect_right", Str.ofString "bisect_left", Str.ofString "Whitespace"]) (Xt := XtQ) (XP := XL viewQ []) (Yf := Hook.obs hookQ) (Ya := Hook.val hookQ) (YP := Hook.says (kHook hd.heap_1 [2, 3, 15, 17, 18, 20, 21, 22, 24, 25, 27, 28, 29, 30, 31, 33, 34, 36, 37, 38, 39, 40, 42, 43, 45, 46, 47, 49, 50, 52, 53, 64, 66, 67, 69, 70, 71, 73, 74, 76, 77, 78, 80, 81, 83, 84, 85, 87, 88, 90, 91, 92, 94, 95, 97, 98, 99, 101, 102, 104, 105, 106, 108, 109, 111, 112, 113, 114, 115, 116, 117, 120, 122, 123, 125, 126, 127, 130, 131, 132, 134, 135, 137, 138, 139, 141, 142, 144, 145, 146, 148, 149, 151, 152, 153, 155, 156, 158, 159, 160, 163, 164] (fun _ => by kernel_rfl))) (N := 1000 + 30 + 290) (leftO_boot "special-get-raises" (by kernel_rfl) (by decide) (fun s => by kernel_rfl) run_mid run_all) (Hook.of hookQ) (Hook.keeps hookQ) (fun s e => xl_of s (Bool.and_eq_true_iff.mp e).1) XL.keeps (by rfl) (by rfl) (by rfl) (fun s e => recFacts_of (Bool.and_eq_true_iff.mp e).2) (by rfl) (by first | assumption | decide +kernel) (by decide +kernel) ⟨rfl, rfl, rfl, rfl, rfl, by decide +kernel⟩ ?$hw ?$hc)
set_option maxRecDepth 100000 in
set_option maxHeartbeats 8000000 in
open_top hdq for PySem.Challenge.rw_ty0043_01
end
end
end
section
section
noncomputable abbrev Led := List (Addr × Obj)
noncomputable abbrev PR : Program := PySem.Challenge.rw_ty0043_01.row.prog
noncomputable abbrev KK (w : World) : Frag := hd.heap_1 w.params
/-- a contract of a call: f on vs, where the ledger is news, gives back a value and a ledger in R -/
noncomputable def Says (w : World) (f : Value) (vs : List Value) (kw : List (Str × Value)) (D U : Nat) (news : Led) (R : Value → Led → Prop) : Prop :=
  ∀ (dp un : Nat) (gd : Option (List Code)) (cn : Str) (cs : Scope) (a : Addr) (ccd : Value) (cl : List (Str × Addr)) (outer : List Env) (A₀ : Around) (base h₀ : Heap) (L : Addr) (m : Str → Option Value) (s : Shared) (p : Program) (loose : List Str) (mean : ExcName → Option Value) (mg mb : Str → Option Value) (Q E : Value → Shared → Prop),
    Below A₀ base outer h₀ → Fr h₀ L s.heap m → (KK w).In h₀ → News h₀ L s.heap news → Top p loose mean mg mb h₀ → cs.kind = .function → dp + D < recursionLimit → un + U < cLine →
    (∀ v news' h' tk', Fr h₀ L h' m → News h₀ L h' news' → R v news' → Q v { s with heap := h', toks := tk' }) →
    wpAny (model PR w) (ktrTop dp un gd cn cs L a ccd cl outer) (call f vs kw) Q E s
theorem fr_know {h₀ h : Heap} {L : Addr} {m : Str → Option Value} (k : Str) {v : Value} (hk : m k = some v) (F : Fr h₀ L h m) : Fr h₀ L h (fun y => if y = k then some v else m y) := by
  have e : (fun y => if y = k then some v else m y) = m := by
    funext y
    by_cases h : y = k
    · rw [if_pos h, h, hk]
    · rw [if_neg h]
  rw [e]; exact F
theorem says_use {w : World} {f : Value} {vs : List Value} {kw : List (Str × Value)} {D U : Nat} {news : Led} {R : Value → Led → Prop} (C : Says w f vs kw D U news R)
    {dp un : Nat} {gd : Option (List Code)} {cn : Str} {cs : Scope} {a : Addr} {ccd : Value} {cl : List (Str × Addr)} {outer : List Env} {A₀ : Around} {base h₀ : Heap} {L : Addr} {m : Str → Option Value} {s : Shared} {p : Program} {loose : List Str} {mean : ExcName → Option Value} {mg mb : Str → Option Value} {Q E : Value → Shared → Prop}
    (B : Below A₀ base outer h₀) (F : Fr h₀ L s.heap m) (X : (KK w).In h₀) (N : News h₀ L s.heap news) (T : Top p loose mean mg mb h₀) (hk : cs.kind = .function) (hd : dp + D < recursionLimit) (hu : un + U < cLine)
    (ret : ∀ v news' h' tk', Fr h₀ L h' m → News h₀ L h' news' → R v news' → Q v { s with heap := h', toks := tk' }) :
    wpAny (model PR w) (ktrTop dp un gd cn cs L a ccd cl outer) (call f vs kw) Q E s := C _ _ _ _ _ _ _ _ _ _ _ _ _ _ _ _ _ _ _ _ _ _ B F X N T hk hd hu ret
/-- the end of a loop's turn -/
noncomputable def TurnP (h₀ : Heap) (L I : Addr) (oI : Obj) (J : (Str → Option Value) → Led → Prop) (s : Shared) (Q : Flow → Shared → Prop) (f : Flow) (s₂ : Shared) : Prop :=
  match f with
  | .ret v => Q (.ret v) s₂
  | .brk => Q .next s₂
  | _ => ∃ h' tk' m' nx, s₂ = { s with heap := h', toks := tk' } ∧ Fr h₀ L h' m' ∧ News h₀ L h' ((I, oI) :: nx) ∧ (∀ p ∈ nx, p.1 ≠ I) ∧ J m' nx
theorem turn_next {h₀ : Heap} {L I : Addr} {oI : Obj} {J : (Str → Option Value) → Led → Prop} {s : Shared} {Q : Flow → Shared → Prop} {h' : Heap} {tk' : Nat} {m' : Str → Option Value} {news' : Led} (nx : Led)
    (F : Fr h₀ L h' m') (N : News h₀ L h' news') (hI : (I, oI) ∈ news') (hn : ∀ p ∈ nx, p ∈ news') (ho : ∀ p ∈ nx, p.1 ≠ I) (hj : J m' nx) : TurnP h₀ L I oI J s Q .next { s with heap := h', toks := tk' } :=
  ⟨h', tk', m', nx, rfl, F, fun p hp => by rcases List.mem_cons.mp hp with rfl | hp; exact N _ hI; exact N _ (hn p hp), ho, hj⟩
theorem below_ne {l : Led} {d : Addr} (h : ∀ p ∈ l, p.1 < d) : ∀ p ∈ l, p.1 ≠ d := fun p hp => Nat.ne_of_lt (h p hp)
theorem below_ne' {l : Led} {d e : Addr} (h : ∀ p ∈ l, p.1 < d) (hd : d ≤ e) : ∀ p ∈ l, p.1 ≠ e := fun p hp => Nat.ne_of_lt (Nat.lt_of_lt_of_le (h p hp) hd)
section
variable {prog : Program} {w : World} {A : Around} {E : Value → Shared → Prop} {s : Shared} {env : Env} {h₀ : Heap} {x : Str} {body : List Stmt} {Q : Flow → Shared → Prop}
/-- a loop over something that walks, its iterator I a new object, its source (src) in the ledger -/
theorem loop_walks {n : Nat} {P : Nat → Value → Prop} {St : Nat → Heap → Prop} {m₀ : Str → Option Value} {news : Led} (src : Led) (o₀ : Obj) (J : Nat → (Str → Option Value) → Led → Prop)
    (W : Walks prog w A s.heap.objs.size (s.heap.objs.size :: src.map (·.1)) [s.heap.objs.size] n P St)
    (hsrc : ∀ i m nx, J i m nx → ∀ q ∈ src, q ∈ nx)
    (hob : ∀ i h, St i h → ∃ o, h.get? s.heap.objs.size = some o)
    (hst : St 0 (s.heap.push o₀)) (F : Fr h₀ env.locals s.heap m₀) (N : News h₀ env.locals s.heap news) (hj : J 0 m₀ news)
    (turn : ∀ i v m₁ news₁ h tk oI, i < n → P i v → (∀ p ∈ news, p.1 < s.heap.objs.size) → (∀ p ∈ news₁, p.1 ≠ s.heap.objs.size) → J i m₁ news₁ → Fr h₀ env.locals h (fun y => if y = x then some v else m₁ y) → News h₀ env.locals h ((s.heap.objs.size, oI) :: news₁) →
      wpAny (model prog w) A (execs body env) (TurnP h₀ env.locals s.heap.objs.size oI (J (i + 1)) { s with heap := h, toks := tk } Q) E { s with heap := h, toks := tk })
    (done : ∀ m₁ news₁ h tk, J n m₁ news₁ → Fr h₀ env.locals h m₁ → News h₀ env.locals h news₁ → Q .next { s with heap := h, toks := tk }) :
    LoopAtV prog w A h₀ env x body Q E (.ref s.heap.objs.size) { s with heap := s.heap.push o₀ } := by
  have hI0 : h₀.get? s.heap.objs.size = none := next_is_new F
  refine ⟨s.heap.objs.size, s.heap.objs.size :: src.map (·.1), [s.heap.objs.size], n, P, St, m₀, news, J, rfl, W, ?_, ?_, ?_, hst, F.push _, (fun p hp => ⟨Heap.get?_push_of_some _ (N p hp).1, (N p hp).2⟩), hj, ?_, ?_⟩
  · intro hm
    rcases List.mem_cons.mp hm with e | hm
    · exact absurd F.ns.lt (e ▸ Nat.lt_irrefl _)
    · obtain ⟨q, hq, e⟩ := List.mem_map.mp hm
      exact (N q (hsrc _ _ _ hj q hq)).2.1 e
  · intro b hb
    rw [List.mem_singleton.mp hb]; exact hI0
  · intro p hp hI
    exact absurd (Heap.lt_size (N p hp).1) ((List.mem_singleton.mp hI) ▸ Nat.lt_irrefl _)
  · rintro i v m₁ news₁ s₁ own ⟨hh', tk', rfl⟩ hin hP hJ hoff hown hget hall hst' F₁ N₁
    obtain ⟨oI, hoI⟩ := hob _ _ hst'
    have hIown : (s.heap.objs.size, oI) ∈ own := hall _ (.head _) hI0 _ hoI
    have hoff' : ∀ p ∈ news₁, p.1 ≠ s.heap.objs.size := fun p hp e => hoff p hp (List.mem_singleton.mpr e)
    have N₂ : News h₀ env.locals hh' ((s.heap.objs.size, oI) :: news₁) := fun p hp => by
      rcases List.mem_cons.mp hp with rfl | hp
      · exact N₁ _ (List.mem_append_left _ hIown)
      · exact N₁ _ (List.mem_append_right _ hp)
    refine wpAny_mono (turn i v m₁ news₁ hh' tk' oI hin hP (fun p hp => Heap.lt_size (N p hp).1) hoff' hJ F₁ N₂) (fun f s₂ p => ?_) fun _ _ e => e
    have fin : (∃ h' tk m' nx, s₂ = { s with heap := h', toks := tk } ∧ Fr h₀ env.locals h' m' ∧ News h₀ env.locals h' ((s.heap.objs.size, oI) :: nx) ∧ (∀ p ∈ nx, p.1 ≠ s.heap.objs.size) ∧ J (i + 1) m' nx) → LoopStepU h₀ env.locals [s.heap.objs.size] own (J (i + 1)) { s with heap := hh', toks := tk' } .next s₂ := by
      rintro ⟨h', tk, m', nx, e, F', N', ha, hm⟩
      refine ⟨rfl, h', tk, m', nx, e, F', fun p hp => ?_, fun p hp hq => ha p hp (List.mem_singleton.mp hq), hm⟩
      rcases List.mem_append.mp hp with hp | hp
      · rcases List.mem_cons.mp (hown p hp) with e1 | e1
        · have e2 : p = (s.heap.objs.size, oI) := by
            have h4 := hget p hp
            rw [e1] at h4
            exact Prod.ext e1 (Option.some.inj (h4.symm.trans hoI))
          rw [e2]; exact N' _ (.head _)
        · obtain ⟨q, hq, e2⟩ := List.mem_map.mp e1
          have h4 := (N₂ q (.tail _ (hsrc _ _ _ hJ q hq))).1
          rw [e2] at h4
          have e3 : p = q := Prod.ext e2.symm (Option.some.inj ((hget p hp).symm.trans h4))
          rw [e3]; exact N' _ (.tail _ (hsrc _ _ _ hm q hq))
      · exact N' _ (.tail _ hp)
    cases f with
    | ret v => exact .ret p
    | brk => exact .brk p
    | next => exact .next (fin p)
    | cont => exact .cont (fin p)
  · rintro h' tk m' news' F' N' _ hJ
    exact done m' news' h' tk hJ F' N'
theorem loop_list {l : Addr} {vs : List Value} {nn : Nat} {m₀ : Str → Option Value} {news : Led} (J : Nat → (Str → Option Value) → Led → Prop)
    (hh : A.handled = none) (hl : (l, listOf vs.toArray nn) ∈ news) (F : Fr h₀ env.locals s.heap m₀) (N : News h₀ env.locals s.heap news) (hj : J 0 m₀ news)
    (hsrc : ∀ i m nx, J i m nx → (l, listOf vs.toArray nn) ∈ nx)
    (turn : ∀ i v m₁ news₁ h tk oI, vs[i]? = some v → (∀ p ∈ news, p.1 < s.heap.objs.size) → (∀ p ∈ news₁, p.1 ≠ s.heap.objs.size) → J i m₁ news₁ → Fr h₀ env.locals h (fun y => if y = x then some v else m₁ y) → News h₀ env.locals h ((s.heap.objs.size, oI) :: news₁) →
      wpAny (model prog w) A (execs body env) (TurnP h₀ env.locals s.heap.objs.size oI (J (i + 1)) { s with heap := h, toks := tk } Q) E { s with heap := h, toks := tk })
    (done : ∀ m₁ news₁ h tk, J vs.length m₁ news₁ → Fr h₀ env.locals h m₁ → News h₀ env.locals h news₁ → Q .next { s with heap := h, toks := tk }) :
    wpAny (model prog w) A (pyIter (.ref l)) (fun it s₂ => LoopAtV prog w A h₀ env x body Q E it s₂) E s := by
  have hol : s.heap.get? l = some (listOf vs.toArray nn) := (N _ hl).1
  have hls : s.heap.IsList l vs.toArray := ⟨_, hol, rfl, nn, rfl⟩
  have hne : l ≠ s.heap.objs.size := Nat.ne_of_lt (Heap.lt_size hol)
  refine wpAny_pyIter_list hls ?_
  have W := Walks.list (prog := prog) (w := w) hh s.heap.objs.size l hne vs.toArray
  refine loop_walks [(l, listOf vs.toArray nn)] _ J W (fun i m nx h q hq => by rw [List.mem_singleton.mp hq]; exact hsrc i m nx h) ?_ ⟨⟨_, Heap.get?_push_size _ rfl, rfl, rfl⟩, hls.at fun o e => Heap.get?_push_of_some _ e⟩ F N hj ?_ ?_
  · rintro i h ⟨⟨o, ho, _⟩, _⟩
    exact ⟨o, ho⟩
  · intro i v m₁ news₁ h tk oI hi hv hlt hoff hJ F₁ N₁
    exact turn i v m₁ news₁ h tk oI (by simpa using hv) hlt hoff hJ F₁ N₁
  · intro m₁ news₁ h tk hJ F₁ N₁
    exact done m₁ news₁ h tk (by simpa using hJ) F₁ N₁
theorem loop_range {r : Addr} {a₀ b₀ : Int} {t₀ u₀ v₀ : Tok} {n : Nat} {m₀ : Str → Option Value} {news : Led} (J : Nat → (Str → Option Value) → Led → Prop)
    (hh : A.handled = none) (hr : IsRange s.heap r a₀ b₀ 1 t₀ u₀ v₀) (hsmall : Builtin.Range.small a₀ b₀ 1 = true) (hn : Builtin.Range.rangeSize a₀ b₀ 1 = (n : Int)) (F : Fr h₀ env.locals s.heap m₀) (N : News h₀ env.locals s.heap news) (hj : J 0 m₀ news)
    (turn : ∀ (i : Nat) (t : Tok) m₁ news₁ h tk oI, i < n → (∀ p ∈ news, p.1 < s.heap.objs.size) → (∀ p ∈ news₁, p.1 ≠ s.heap.objs.size) → J i m₁ news₁ → Fr h₀ env.locals h (fun y => if y = x then some (.int (a₀ + i) t) else m₁ y) → News h₀ env.locals h ((s.heap.objs.size, oI) :: news₁) →
      wpAny (model prog w) A (execs body env) (TurnP h₀ env.locals s.heap.objs.size oI (J (i + 1)) { s with heap := h, toks := tk } Q) E { s with heap := h, toks := tk })
    (done : ∀ m₁ news₁ h tk, J n m₁ news₁ → Fr h₀ env.locals h m₁ → News h₀ env.locals h news₁ → Q .next { s with heap := h, toks := tk }) :
    wpAny (model prog w) A (pyIter (.ref r)) (fun it s₂ => LoopAtV prog w A h₀ env x body Q E it s₂) E s := by
  refine wpAny_pyIter_range hr hsmall ?_
  have W : Walks prog w A s.heap.objs.size [s.heap.objs.size] [s.heap.objs.size] n (fun i v => i < n ∧ ∃ t, v = .int (a₀ + i * 1) t)
      (fun i h => IsRangeIter h s.heap.objs.size (a₀ + (i : Nat) * 1) ((n : Int) - (i : Nat)) 1) := (Walks.range hh _ a₀ 1 n).bound
  refine loop_walks [] _ J W (fun _ _ _ _ q hq => nomatch hq) (fun i h hs => ⟨_, hs⟩) (by show IsRangeIter _ _ _ _ _; rw [hn]; simpa using Heap.get?_push_size _ rfl) F N hj ?_ done
  rintro i v m₁ news₁ h tk oI hi ⟨_, t, rfl⟩ hlt hoff hJ F₁ N₁
  exact turn i t m₁ news₁ h tk oI hi hlt hoff hJ (by rw [Int.mul_one] at F₁; exact F₁) N₁
/-- a comprehension without a test over n items: Rel i y says of the i-th element's value; the ledger comes back as it was -/
theorem comp_map {L : Addr} {m : Str → Option Value} {elt : Expr} {scope : Scope} {cl : List (Str × Addr)} {S : Led → Prop} {P : Nat → Value → Prop} {Fin : List Value → Led → Prop} {n : Nat} {news : Led} (Rel : Nat → Value → Prop)
    (turn : ∀ i v I oI C oC D m₂ ys h tk (E' : Value → Shared → Prop), i < n → P i v → LCg.NsObj oC m₂ → m₂ x = some v → Fr h₀ L h m → News h₀ L h ((I, oI) :: (C, oC) :: (D, LCg.lst ys) :: news) → LCg.Off3 I C D news → ((@Ne Nat I C) ∧ (@Ne Nat I D) ∧ (@Ne Nat C D)) →
      wpAny (model prog w) A (eval elt (compEnvC scope cl C env)) (LCg.CompEnd h₀ L m { s with heap := h, toks := tk } I oI C oC D (LCg.lst ys) S (fun y news' => Rel i y ∧ news' = news)) E' { s with heap := h, toks := tk })
    (fin : ∀ ys : List Value, ys.length = n → (∀ i y, ys[i]? = some y → Rel i y) → Fin ys news) : LCg.CompRest prog w A h₀ L m env elt x scope cl s S P Fin n 0 [] news := by
  have key : ∀ (j i : Nat) (ys : List Value), i + j = n → ys.length = i → (∀ k y, ys[k]? = some y → Rel k y) → LCg.CompRest prog w A h₀ L m env elt x scope cl s S P Fin j i ys news := by
    intro j
    induction j with
    | zero =>
      intro i ys hi hl hy
      exact LCg.CompRest.zero (fin ys (by lia) hy)
    | succ j ih =>
      intro i ys hi hl hy
      refine LCg.CompRest.succ ?_
      intro v I oI C oC D m₂ h tk E' hv hC hx F N off ne
      refine wpAny_mono (turn i v I oI C oC D m₂ ys h tk E' (by lia) hv hC hx F N off ne) (fun y s₂ hq => ?_) fun _ _ e => e
      obtain ⟨h', tk', nw, e, F', N', off', hS, hr, hn⟩ := hq
      rw [hn] at N' off' hS
      refine ⟨h', tk', news, e, F', N', off', hS, ?_⟩
      refine ih (i + 1) _ (by lia) (by simp [hl]) ?_
      intro k z hk
      by_cases h1 : k < ys.length
      · rw [List.getElem?_append_left h1] at hk
        exact hy k z hk
      · rw [List.getElem?_append_right (by lia)] at hk
        have h2 : k - ys.length = 0 := by
          cases hq : k - ys.length with
          | zero => rfl
          | succ q => rw [hq] at hk; simp at hk
        rw [h2] at hk
        have h3 : k = i := by lia
        simp at hk
        rw [h3, ← hk]; exact hr
  exact key n 0 [] (by lia) rfl (by intro k y hk; simp at hk)
/-- a mark: the walk's own lines stop here -/
noncomputable def Hold (P : Prop) : Prop := P
theorem Hold.intro {P : Prop} (h : Hold P) : P := h
theorem Hold.out {P : Prop} (h : P) : Hold P := h
/-- xs.extend(ys) -/
theorem extend_l {m : Str → Option Value} {L D b : Addr} {us ws : List Value} {n n2 : Nat} {news news' : Led} {Q : Value → Shared → Prop} (F : Fr h₀ L s.heap m) (N : News h₀ L s.heap news) (hb : (b, listOf ws.toArray n2) ∈ news)
    (U : Upd D (listOf us.toArray n) (listOf (us ++ ws).toArray (n + 1)) news news') (hne : ws.length ≠ 0) (hz : us.length + ws.length ≤ 2 ^ 20)
    (h : ∀ h', Fr h₀ L h' m → News h₀ L h' news' → Q .none { s with heap := h' }) : wpAny (model prog w) A (call (.builtin "list.extend") [.ref D, .ref b]) Q E s := by
  have h24 : (2:Nat) ^ 20 ≤ 16777216 := by decide
  refine kl_extend F N hb rfl (by simpa using hne) (by simpa using U) ?_ ?_ ?_ h
  · simp [Builtin.List.listTooLong, sizeLine]; lia
  · simp [sizeLine]; lia
  · simp [sizeLine]; lia
end
end
end
section
section
/-- the continuation and the raise of a run, by a name -/
theorem gen_QE {α : Type} {M} {A : Around} {x} {Q0 : α → Shared → Prop} {E0 : Value → Shared → Prop} {s : Shared} (h : ∀ (Q : α → Shared → Prop) (E : Value → Shared → Prop), (∀ a s', Q0 a s' → Q a s') → wpAny M A x Q E s) : wpAny M A x Q0 E0 s := h Q0 E0 fun _ _ q => q
theorem gen_Q {α : Type} {M} {A : Around} {x} {Q0 : α → Shared → Prop} {E0 : Value → Shared → Prop} {s : Shared} (h : ∀ (Q : α → Shared → Prop), (∀ a s', Q0 a s' → Q a s') → wpAny M A x Q E0 s) : wpAny M A x Q0 E0 s := h Q0 fun _ _ q => q
theorem gen_QE2 {α β : Type} {M} {A : Around} {x} {y} {Q0 : α → Shared → Prop} {E0 : Value → Shared → Prop} {s : Shared} (h : ∀ (Q : α → Shared → Prop) (E : Value → Shared → Prop), (∀ a s', Q0 a s' → Q a s') → wpAny M A x (fun (_ : β) s₃ => wpAny M A y Q E s₃) E s) : wpAny M A x (fun (_ : β) s₃ => wpAny M A y Q0 E0 s₃) E0 s := h Q0 E0 fun _ _ q => q
theorem gen_Q2 {α β : Type} {M} {A : Around} {x} {y} {Q0 : α → Shared → Prop} {E0 : Value → Shared → Prop} {s : Shared} (h : ∀ (Q : α → Shared → Prop), (∀ a s', Q0 a s' → Q a s') → wpAny M A x (fun (_ : β) s₃ => wpAny M A y Q E0 s₃) E0 s) : wpAny M A x (fun (_ : β) s₃ => wpAny M A y Q0 E0 s₃) E0 s := h Q0 fun _ _ q => q
theorem upd_same {m : Str → Option Value} {k : Str} {v : Value} (hk : m k = some v) : (fun y => if y = k then some v else m y) = m := by
  funext y
  by_cases h : y = k
  · rw [if_pos h, h, hk]
  · rw [if_neg h]
theorem upd_in {m m' : Str → Option Value} {k : Str} {v : Value} (e : m' = m) (hk : m k = some v) : (fun y => if y = k then some v else m' y) = m := by rw [e]; exact upd_same hk
theorem fr_k2 {h₀ h : Heap} {L : Addr} {m : Str → Option Value} (k1 k2 : Str) {v1 v2 : Value} (e1 : m k1 = some v1) (e2 : m k2 = some v2) (F : Fr h₀ L h m) : Fr h₀ L h (fun y => if y = k1 then some v1 else if y = k2 then some v2 else m y) := Eq.mpr (congrArg (Fr h₀ L h) (upd_in (upd_same e2) e1)) F
theorem fr_k3 {h₀ h : Heap} {L : Addr} {m : Str → Option Value} (k1 k2 k3 : Str) {v1 v2 v3 : Value} (e1 : m k1 = some v1) (e2 : m k2 = some v2) (e3 : m k3 = some v3) (F : Fr h₀ L h m) : Fr h₀ L h (fun y => if y = k1 then some v1 else if y = k2 then some v2 else if y = k3 then some v3 else m y) := Eq.mpr (congrArg (Fr h₀ L h) (upd_in (upd_in (upd_same e3) e2) e1)) F
theorem fr_k4 {h₀ h : Heap} {L : Addr} {m : Str → Option Value} (k1 k2 k3 k4 : Str) {v1 v2 v3 v4 : Value} (e1 : m k1 = some v1) (e2 : m k2 = some v2) (e3 : m k3 = some v3) (e4 : m k4 = some v4) (F : Fr h₀ L h m) : Fr h₀ L h (fun y => if y = k1 then some v1 else if y = k2 then some v2 else if y = k3 then some v3 else if y = k4 then some v4 else m y) := Eq.mpr (congrArg (Fr h₀ L h) (upd_in (upd_in (upd_in (upd_same e4) e3) e2) e1)) F
theorem fr_k5 {h₀ h : Heap} {L : Addr} {m : Str → Option Value} (k1 k2 k3 k4 k5 : Str) {v1 v2 v3 v4 v5 : Value} (e1 : m k1 = some v1) (e2 : m k2 = some v2) (e3 : m k3 = some v3) (e4 : m k4 = some v4) (e5 : m k5 = some v5) (F : Fr h₀ L h m) : Fr h₀ L h (fun y => if y = k1 then some v1 else if y = k2 then some v2 else if y = k3 then some v3 else if y = k4 then some v4 else if y = k5 then some v5 else m y) := Eq.mpr (congrArg (Fr h₀ L h) (upd_in (upd_in (upd_in (upd_in (upd_same e5) e4) e3) e2) e1)) F
theorem fr_k6 {h₀ h : Heap} {L : Addr} {m : Str → Option Value} (k1 k2 k3 k4 k5 k6 : Str) {v1 v2 v3 v4 v5 v6 : Value} (e1 : m k1 = some v1) (e2 : m k2 = some v2) (e3 : m k3 = some v3) (e4 : m k4 = some v4) (e5 : m k5 = some v5) (e6 : m k6 = some v6) (F : Fr h₀ L h m) : Fr h₀ L h (fun y => if y = k1 then some v1 else if y = k2 then some v2 else if y = k3 then some v3 else if y = k4 then some v4 else if y = k5 then some v5 else if y = k6 then some v6 else m y) := Eq.mpr (congrArg (Fr h₀ L h) (upd_in (upd_in (upd_in (upd_in (upd_in (upd_same e6) e5) e4) e3) e2) e1)) F
theorem fr_k7 {h₀ h : Heap} {L : Addr} {m : Str → Option Value} (k1 k2 k3 k4 k5 k6 k7 : Str) {v1 v2 v3 v4 v5 v6 v7 : Value} (e1 : m k1 = some v1) (e2 : m k2 = some v2) (e3 : m k3 = some v3) (e4 : m k4 = some v4) (e5 : m k5 = some v5) (e6 : m k6 = some v6) (e7 : m k7 = some v7) (F : Fr h₀ L h m) : Fr h₀ L h (fun y => if y = k1 then some v1 else if y = k2 then some v2 else if y = k3 then some v3 else if y = k4 then some v4 else if y = k5 then some v5 else if y = k6 then some v6 else if y = k7 then some v7 else m y) := Eq.mpr (congrArg (Fr h₀ L h) (upd_in (upd_in (upd_in (upd_in (upd_in (upd_in (upd_same e7) e6) e5) e4) e3) e2) e1)) F
theorem gen_W {α : Type} {M} {A : Around} {x : Sem Bool} {y : Sem α} {W0 : α → Shared → Prop} {R0 : Shared → Prop} {E0 : Value → Shared → Prop} {s : Shared} (h : ∀ (W : α → Shared → Prop) (R : Shared → Prop), (∀ a s', W0 a s' → W a s') → (∀ s', R0 s' → R s') → wpAny M A x (fun b s₃ => if b = true then wpAny M A y W E0 s₃ else R s₃) E0 s) : wpAny M A x (fun b s₃ => if b = true then wpAny M A y W0 E0 s₃ else R0 s₃) E0 s := h W0 R0 (fun _ _ q => q) fun _ q => q
/-- the number of names drawn, by a letter -/
theorem gen_tok {α : Type} {M} {A : Around} {x : Sem α} {Q : α → Shared → Prop} {E : Value → Shared → Prop} {H : Heap} {g} {d} {o} {t u : Nat} (h : ∀ tk, wpAny M A x Q E (Shared.mk H g d tk o)) : wpAny M A x Q E (Shared.mk H g d (t + u) o) := h (t + u)
theorem while_next {n : Nat} {h₀ : Heap} {L : Addr} {s : Shared} {J : Nat → (Str → Option Value) → Led → Prop} {Q : Flow → Shared → Prop} {h' : Heap} {tk' : Nat} {m' : Str → Option Value} {nx : Led} {n' : Nat} (F : Fr h₀ L h' m') (N : News h₀ L h' nx) (hn : n' < n) (j : J n' m' nx) : WhileStep2 h₀ L s J Q n .next { s with heap := h', toks := tk' } :=
  ⟨_, _, _, _, n', rfl, F, N, hn, j⟩
theorem toNat_lt9 {z : Int} {j : Nat} (h9 : z ≤ 9) (hj : j < z.toNat) : j < 9 := by omega
theorem sz_sub (a b : Nat) : (((a : Int) - (b : Int)).toNat : Int) = ((a - b : Nat) : Int) := by omega
/-- the goal by a name, while facts are taken apart -/
theorem hide {C : Prop} (h : ∀ G : Prop, (C → G) → G) : C := h C id
theorem m0 {α : Type} {a0 : α} {l : List α} : a0 ∈ a0 :: l := .head _
theorem m1 {α : Type} {a0 a1 : α} {l : List α} : a1 ∈ a0 :: a1 :: l := .tail _ (.head _)
theorem m2 {α : Type} {a0 a1 a2 : α} {l : List α} : a2 ∈ a0 :: a1 :: a2 :: l := .tail _ (.tail _ (.head _))
theorem m3 {α : Type} {a0 a1 a2 a3 : α} {l : List α} : a3 ∈ a0 :: a1 :: a2 :: a3 :: l := .tail _ (.tail _ (.tail _ (.head _)))
theorem m4 {α : Type} {a0 a1 a2 a3 a4 : α} {l : List α} : a4 ∈ a0 :: a1 :: a2 :: a3 :: a4 :: l := .tail _ (.tail _ (.tail _ (.tail _ (.head _))))
theorem m5 {α : Type} {a0 a1 a2 a3 a4 a5 : α} {l : List α} : a5 ∈ a0 :: a1 :: a2 :: a3 :: a4 :: a5 :: l := .tail _ (.tail _ (.tail _ (.tail _ (.tail _ (.head _)))))
theorem m6 {α : Type} {a0 a1 a2 a3 a4 a5 a6 : α} {l : List α} : a6 ∈ a0 :: a1 :: a2 :: a3 :: a4 :: a5 :: a6 :: l := .tail _ (.tail _ (.tail _ (.tail _ (.tail _ (.tail _ (.head _))))))
theorem m7 {α : Type} {a0 a1 a2 a3 a4 a5 a6 a7 : α} {l : List α} : a7 ∈ a0 :: a1 :: a2 :: a3 :: a4 :: a5 :: a6 :: a7 :: l := .tail _ (.tail _ (.tail _ (.tail _ (.tail _ (.tail _ (.tail _ (.head _)))))))
theorem m8 {α : Type} {a0 a1 a2 a3 a4 a5 a6 a7 a8 : α} {l : List α} : a8 ∈ a0 :: a1 :: a2 :: a3 :: a4 :: a5 :: a6 :: a7 :: a8 :: l := .tail _ (.tail _ (.tail _ (.tail _ (.tail _ (.tail _ (.tail _ (.tail _ (.head _))))))))
theorem m9 {α : Type} {a0 a1 a2 a3 a4 a5 a6 a7 a8 a9 : α} {l : List α} : a9 ∈ a0 :: a1 :: a2 :: a3 :: a4 :: a5 :: a6 :: a7 :: a8 :: a9 :: l := .tail _ (.tail _ (.tail _ (.tail _ (.tail _ (.tail _ (.tail _ (.tail _ (.tail _ (.head _)))))))))
theorem m10 {α : Type} {a0 a1 a2 a3 a4 a5 a6 a7 a8 a9 a10 : α} {l : List α} : a10 ∈ a0 :: a1 :: a2 :: a3 :: a4 :: a5 :: a6 :: a7 :: a8 :: a9 :: a10 :: l := .tail _ (.tail _ (.tail _ (.tail _ (.tail _ (.tail _ (.tail _ (.tail _ (.tail _ (.tail _ (.head _))))))))))
theorem m11 {α : Type} {a0 a1 a2 a3 a4 a5 a6 a7 a8 a9 a10 a11 : α} {l : List α} : a11 ∈ a0 :: a1 :: a2 :: a3 :: a4 :: a5 :: a6 :: a7 :: a8 :: a9 :: a10 :: a11 :: l := .tail _ (.tail _ (.tail _ (.tail _ (.tail _ (.tail _ (.tail _ (.tail _ (.tail _ (.tail _ (.tail _ (.head _)))))))))))
theorem m12 {α : Type} {a0 a1 a2 a3 a4 a5 a6 a7 a8 a9 a10 a11 a12 : α} {l : List α} : a12 ∈ a0 :: a1 :: a2 :: a3 :: a4 :: a5 :: a6 :: a7 :: a8 :: a9 :: a10 :: a11 :: a12 :: l := .tail _ (.tail _ (.tail _ (.tail _ (.tail _ (.tail _ (.tail _ (.tail _ (.tail _ (.tail _ (.tail _ (.tail _ (.head _))))))))))))
theorem m13 {α : Type} {a0 a1 a2 a3 a4 a5 a6 a7 a8 a9 a10 a11 a12 a13 : α} {l : List α} : a13 ∈ a0 :: a1 :: a2 :: a3 :: a4 :: a5 :: a6 :: a7 :: a8 :: a9 :: a10 :: a11 :: a12 :: a13 :: l := .tail _ (.tail _ (.tail _ (.tail _ (.tail _ (.tail _ (.tail _ (.tail _ (.tail _ (.tail _ (.tail _ (.tail _ (.tail _ (.head _)))))))))))))
theorem m14 {α : Type} {a0 a1 a2 a3 a4 a5 a6 a7 a8 a9 a10 a11 a12 a13 a14 : α} {l : List α} : a14 ∈ a0 :: a1 :: a2 :: a3 :: a4 :: a5 :: a6 :: a7 :: a8 :: a9 :: a10 :: a11 :: a12 :: a13 :: a14 :: l := .tail _ (.tail _ (.tail _ (.tail _ (.tail _ (.tail _ (.tail _ (.tail _ (.tail _ (.tail _ (.tail _ (.tail _ (.tail _ (.tail _ (.head _))))))))))))))
theorem m15 {α : Type} {a0 a1 a2 a3 a4 a5 a6 a7 a8 a9 a10 a11 a12 a13 a14 a15 : α} {l : List α} : a15 ∈ a0 :: a1 :: a2 :: a3 :: a4 :: a5 :: a6 :: a7 :: a8 :: a9 :: a10 :: a11 :: a12 :: a13 :: a14 :: a15 :: l := .tail _ (.tail _ (.tail _ (.tail _ (.tail _ (.tail _ (.tail _ (.tail _ (.tail _ (.tail _ (.tail _ (.tail _ (.tail _ (.tail _ (.tail _ (.head _)))))))))))))))
theorem m16 {α : Type} {a0 a1 a2 a3 a4 a5 a6 a7 a8 a9 a10 a11 a12 a13 a14 a15 a16 : α} {l : List α} : a16 ∈ a0 :: a1 :: a2 :: a3 :: a4 :: a5 :: a6 :: a7 :: a8 :: a9 :: a10 :: a11 :: a12 :: a13 :: a14 :: a15 :: a16 :: l := .tail _ (.tail _ (.tail _ (.tail _ (.tail _ (.tail _ (.tail _ (.tail _ (.tail _ (.tail _ (.tail _ (.tail _ (.tail _ (.tail _ (.tail _ (.tail _ (.head _))))))))))))))))
theorem m17 {α : Type} {a0 a1 a2 a3 a4 a5 a6 a7 a8 a9 a10 a11 a12 a13 a14 a15 a16 a17 : α} {l : List α} : a17 ∈ a0 :: a1 :: a2 :: a3 :: a4 :: a5 :: a6 :: a7 :: a8 :: a9 :: a10 :: a11 :: a12 :: a13 :: a14 :: a15 :: a16 :: a17 :: l := .tail _ (.tail _ (.tail _ (.tail _ (.tail _ (.tail _ (.tail _ (.tail _ (.tail _ (.tail _ (.tail _ (.tail _ (.tail _ (.tail _ (.tail _ (.tail _ (.tail _ (.head _)))))))))))))))))
theorem nc {h₀ h : Heap} {L : Addr} {l l' : Led} {a : Addr × Obj} (N : News h₀ L h l) (ha : a ∈ l) (N' : News h₀ L h l') : News h₀ L h (a :: l') := fun p hp => by
  rcases List.mem_cons.mp hp with rfl | hp
  · exact N _ ha
  · exact N' p hp
theorem nn {h₀ h : Heap} {L : Addr} : News h₀ L h [] := fun p hp => nomatch hp
end
end
section
section
/-- the octets of the gaps -/
noncomputable def octF (size : Int) (gs : List Int) : List Int := gs.flatMap fun g => List.replicate (Int.fdiv g size).toNat 65 ++ [Int.fmod g size]
theorem octF_snoc (size g : Int) (gs : List Int) : octF size (gs ++ [g]) = octF size gs ++ (List.replicate (Int.fdiv g size).toNat 65 ++ [Int.fmod g size]) := by
  simp [octF]
theorem fdiv_bd {g size B : Int} (h0 : 0 ≤ g) (h1 : g < B) (hs : 1 ≤ size) : 0 ≤ Int.fdiv g size ∧ Int.fdiv g size < B := by
  rw [Int.fdiv_eq_ediv_of_nonneg g (by lia)]
  constructor
  · exact Int.ediv_nonneg h0 (by lia)
  · have := Int.ediv_le_self size h0
    lia
theorem fmod_bd {g size : Int} (hs : 1 ≤ size) : 0 ≤ Int.fmod g size ∧ Int.fmod g size < size := by
  rw [Int.fmod_eq_emod_of_nonneg g (by lia)]
  exact ⟨Int.emod_nonneg _ (by lia), Int.emod_lt_of_pos _ (by lia)⟩
theorem octF_len {size : Int} (hs : 1 ≤ size) : ∀ {gs : List Int}, (∀ g ∈ gs, 0 ≤ g ∧ g < 60) → (octF size gs).length ≤ 60 * gs.length := by
  intro gs
  induction gs with
  | nil => intro _; simp [octF]
  | cons g r ih =>
    intro h
    have h1 := ih fun x hx => h x (.tail _ hx)
    have h2 := h g (.head _)
    have h3 := fdiv_bd h2.1 h2.2 hs
    simp only [octF, List.flatMap_cons, List.length_append, List.length_replicate, List.length_cons, List.length_nil] at h1 ⊢
    omega
end
end
section
section
/-- a text by its signs -/
noncomputable def TX (l : List Nat) : Str := ⟨l.toArray⟩
theorem TX_app (a b : List Nat) : TX a ++ TX b = TX (a ++ b) := by
  show (⟨a.toArray ++ b.toArray⟩ : Str) = ⟨(a ++ b).toArray⟩
  simp
theorem TX_len (a : List Nat) : (TX a).length = a.length := by
  show a.toArray.size = _
  simp
theorem TX_empty : Str.ofString "" = TX [] := by decide +kernel
theorem join_TX : ∀ ls : List (List Nat), Txt.join (Str.ofString "") (ls.map TX) = TX ls.flatten := by
  intro ls
  show Builtin.Str.glued (Str.ofString "") (ls.map TX) = _
  rw [StrLaws.glued_eq_join, TX_empty]
  induction ls with
  | nil => rfl
  | cons x r ih =>
    cases r with
    | nil => simp [Str.join]
    | cons y q =>
      simp only [List.map_cons, Str.join] at ih ⊢
      rw [ih, TX_app, TX_app]
      simp
noncomputable def StrAt (zs : List Str) (i : Nat) (y : Value) : Prop := ∃ z t, zs[i]? = some z ∧ y = Value.str z t
noncomputable def IntAt (zs : List Int) (i : Nat) (y : Value) : Prop := ∃ z t, zs[i]? = some z ∧ y = Value.int z t
theorem strsAre_of : ∀ {ys : List Value} {zs : List Str}, ys.length = zs.length → (∀ (i : Nat) (y : Value), ys[i]? = some y → StrAt zs i y) → StrsAre ys zs
  | [], [], _, _ => .nil
  | y :: ys, z :: zs, hl, h => by
    obtain ⟨z', t, e1, e2⟩ := h 0 y rfl
    cases e1
    rw [e2]
    exact .cons _ _ (strsAre_of (by simpa using hl) fun i v hv => h (i + 1) v (by simpa using hv))
  | [], _ :: _, hl, _ => by simp at hl
  | _ :: _, [], hl, _ => by simp at hl
theorem intsAre_of : ∀ {ys : List Value} {zs : List Int}, ys.length = zs.length → (∀ (i : Nat) (y : Value), ys[i]? = some y → IntAt zs i y) → IntsAre ys zs
  | [], [], _, _ => .nil
  | y :: ys, z :: zs, hl, h => by
    obtain ⟨z', t, e1, e2⟩ := h 0 y rfl
    cases e1
    rw [e2]
    exact .cons _ _ (intsAre_of (by simpa using hl) fun i v hv => h (i + 1) v (by simpa using hv))
  | [], _ :: _, hl, _ => by simp at hl
  | _ :: _, [], hl, _ => by simp at hl
theorem news_sub {h₀ h : Heap} {L : Addr} {l l' : Led} (N : News h₀ L h l) (hs : ∀ p ∈ l', p ∈ l) : News h₀ L h l' := fun p hp => N p (hs p hp)
/-- the text of the gaps -/
noncomputable def sigF (size : Int) (gs : List Int) : List Nat := (octF size gs).map Int.toNat
theorem sum_ones {α : Type} (l : List α) : (l.map fun _ => 1).sum = l.length := by
  induction l with
  | nil => rfl
  | cons _ _ ih => simp [ih, Nat.add_comm]
theorem octF_bd {size : Int} (hs : 1 ≤ size) (hs2 : size ≤ 32) {gs : List Int} (hg : ∀ g ∈ gs, 0 ≤ g ∧ g < 60) : ∀ o ∈ octF size gs, 0 ≤ o ∧ o < 128 := by
  intro o ho
  simp only [octF, List.mem_flatMap] at ho
  obtain ⟨g, hm, h1⟩ := ho
  obtain ⟨h2, h3⟩ := hg g hm
  obtain ⟨h4, h5⟩ := fmod_bd (g := g) hs
  rcases List.mem_append.mp h1 with h1 | h1
  · rw [(List.mem_replicate.mp h1).2]; omega
  · rw [List.mem_singleton.mp h1]; omega
end
end
section
open PySem PySem.W PyProof.Rows PySem.Calls
set_option maxRecDepth 100000
section
noncomputable abbrev iterO (l : Value) (i : Int) : Obj := { cls := .type "list_iterator", data := .fields #[l, .int i 0] }
/-- a new StopIteration -/
structure StopExc (h h' : Heap) (e : Addr) : Prop where
  keeps : ∀ b o, h.get? b = some o → h'.get? b = some o
  new : h.get? e = none
  there : ∃ ob vs a0, h'.get? e = some ob ∧ ob.cls = .type "StopIteration" ∧ ob.data = .fields vs ∧ vs[0]? = some a0 ∧ vs[1]? = some .none
section
variable {prog : Program} {w : World} {A : Around} {E : Value → Shared → Prop} {s : Shared} {h₀ : Heap} {L l it : Addr} {m : Str → Option Value} {news : Led} {g : Obj → Led} {vs : List Value} {nn i : Nat} {x : Value}
theorem iter_l {Q : Value → Shared → Prop} (F : Fr h₀ L s.heap m) (N : News h₀ L s.heap news) (hl : (l, listOf vs.toArray nn) ∈ news)
    (h : ∀ (I : Addr) h', Fr h₀ L h' m → News h₀ L h' ((I, iterO (.ref l) 0) :: news) → (∀ p ∈ news, p.1 < I) → Q (.ref I) { s with heap := h' }) :
    wpAny (model prog w) A (call (.builtin "iter") [.ref l]) Q E s := by
  have hls : s.heap.IsList l vs.toArray := News.isList N hl
  refine call_function_entry (by decide +kernel) (by decide +kernel) kdk_entry_iter (kdk_args_iter _) ?_
  unfold Builtin.«iter»
  refine wpAny_bind (m := someArgs "iter" 1 2 _) (wpAny_of_eq (a := [Value.ref l]) (by first | rfl | kernel_rfl!) ?_)
  show wpAny _ _ (pyIter (.ref l) >>= _) _ _ _
  refine wpAny_bind (wpAny_pyIter_list hls ?_)
  exact wpAny_pure ⟨_, rfl, h _ _ (F.push _) (News.push F N _ rfl) (fun q hq => Heap.lt_size (N q hq).1)⟩
theorem next_item {Q : Value → Shared → Prop} (F : Fr h₀ L s.heap m) (N : News h₀ L s.heap news) (U : UpdF it (iterO (.ref l) (i : Nat)) news g) (hl : (l, listOf vs.toArray nn) ∈ news) (hx : vs[i]? = some x)
    (h : ∀ h', Fr h₀ L h' m → News h₀ L h' (g (iterO (.ref l) ((i + 1 : Nat) : Int))) → Q x { s with heap := h' }) :
    wpAny (model prog w) A (call (.builtin "next") [.ref it]) Q E s := by
  obtain ⟨pre, post, hl', hg, a, b⟩ := U.split
  have hmem : (it, iterO (.ref l) (i : Nat)) ∈ news := by rw [hl']; exact List.mem_append_right _ (.head _)
  have hm := N _ hmem
  have hit : s.heap.IsListIter it l i := ⟨_, hm.1, rfl, rfl⟩
  obtain ⟨ol, hol, _, nl, hdl⟩ := News.isList N hl
  obtain ⟨o, ho, hc, hd⟩ := id hit
  refine call_function_entry (by decide +kernel) (by decide +kernel) kdk_entry_next (kdk_args_next _) ?_
  unfold Builtin.«next»
  refine wpAny_bind (m := someArgs "next" 1 2 _) (wpAny_of_eq (a := [Value.ref it]) (by first | rfl | kernel_rfl!) ?_)
  dsimp only
  refine wpAny_bind (wpAny_specialOf (name := Str.ofString "__next__") hit.typeIs slot_listiter_next.lookup ?_)
  refine wpAny_ite_split (fun hab => absurd hab (by decide)) (fun _ => ?_)
  refine wpAny_bind (wpAny_callSpecial?_slot (name := Str.ofString "__next__") hit.typeIs slot_listiter_next
    (wpAny_call_entry slot_listiter_next hit.typeIs entry_listiter_next ?_ (args_listiter_next _)))
  show wpAny _ _ (field (.ref it) 0 >>= _) _ _ s
  refine wpAny_bind (wpAny_field ho hd (x := .ref l) rfl ?_)
  show wpAny _ _ (if (Value.ref l == Value.none) = true then _ else _) _ _ s
  rw [if_neg (show ¬ ((Value.ref l == Value.none) = true) from Bool.false_ne_true)]
  show wpAny _ _ (field (.ref it) 1 >>= _) _ _ s
  refine wpAny_bind (wpAny_field ho hd (x := .int i 0) rfl ?_)
  show wpAny _ _ (seqItems? (.ref l) >>= _) _ _ s
  refine wpAny_bind (wpAny_seqItems hol hdl ?_)
  have hx' : vs.toArray[i]? = some x := by simpa using hx
  simp only [Int.toNat_natCast, hx']
  refine wpAny_bind (wpAny_setField ho hd (by simp) (wpAny_pure ⟨x, rfl, wpAny_pure ⟨_, rfl, ?_⟩⟩))
  have ho' : (s.heap.update it (Obj.mapFields (·.setIfInBounds 1 (rawInt ((i : Int) + 1))))).get? it = some (iterO (.ref l) ((i + 1 : Nat) : Int)) := by
    have e := hm.1.symm.trans ho
    cases e
    exact (Heap.get?_update_self _ ho (Obj.isFreed_of_fields (Obj.data_mapFields hd _))).trans rfl
  exact h _ (F.change (Heap.SameBut.update ..) hm.2.1 hm.2.2) (hg _ ▸ (show News h₀ L s.heap (pre ++ (it, iterO (.ref l) (i : Nat)) :: post) from hl' ▸ N).setIn a b (Heap.SameBut.update ..) ho')
theorem next_end {Q : Value → Shared → Prop} (hh : A.handled = none) (F : Fr h₀ L s.heap m) (N : News h₀ L s.heap news) (U : UpdF it (iterO (.ref l) (i : Nat)) news g) (hl : (l, listOf vs.toArray nn) ∈ news) (hx : vs.length ≤ i)
    (h : ∀ h₁ h' e, Fr h₀ L h₁ m → News h₀ L h₁ (g (iterO .none (i : Nat))) → StopExc h₁ h' e → E (.ref e) { s with heap := h' }) :
    wpAny (model prog w) A (call (.builtin "next") [.ref it]) Q E s := by
  obtain ⟨pre, post, hl', hg, a, b⟩ := U.split
  have hmem : (it, iterO (.ref l) (i : Nat)) ∈ news := by rw [hl']; exact List.mem_append_right _ (.head _)
  have hm := N _ hmem
  have hit : s.heap.IsListIter it l i := ⟨_, hm.1, rfl, rfl⟩
  obtain ⟨ol, hol, _, nl, hdl⟩ := News.isList N hl
  obtain ⟨o, ho, hc, hd⟩ := id hit
  refine call_function_entry (by decide +kernel) (by decide +kernel) kdk_entry_next (kdk_args_next _) ?_
  unfold Builtin.«next»
  refine wpAny_bind (m := someArgs "next" 1 2 _) (wpAny_of_eq (a := [Value.ref it]) (by first | rfl | kernel_rfl!) ?_)
  dsimp only
  refine wpAny_bind (wpAny_specialOf (name := Str.ofString "__next__") hit.typeIs slot_listiter_next.lookup ?_)
  refine wpAny_ite_split (fun hab => absurd hab (by decide)) (fun _ => ?_)
  refine wpAny_bind (wpAny_callSpecial?_slot (name := Str.ofString "__next__") hit.typeIs slot_listiter_next
    (wpAny_call_entry slot_listiter_next hit.typeIs entry_listiter_next ?_ (args_listiter_next _)))
  show wpAny _ _ (field (.ref it) 0 >>= _) _ _ s
  refine wpAny_bind (wpAny_field ho hd (x := .ref l) rfl ?_)
  show wpAny _ _ (if (Value.ref l == Value.none) = true then _ else _) _ _ s
  rw [if_neg (show ¬ ((Value.ref l == Value.none) = true) from Bool.false_ne_true)]
  show wpAny _ _ (field (.ref it) 1 >>= _) _ _ s
  refine wpAny_bind (wpAny_field ho hd (x := .int i 0) rfl ?_)
  show wpAny _ _ (seqItems? (.ref l) >>= _) _ _ s
  refine wpAny_bind (wpAny_seqItems hol hdl ?_)
  have hx' : vs.toArray[i]? = none := by simpa using hx
  simp only [Int.toNat_natCast, hx']
  refine wpAny_bind (wpAny_rule (wpAny_bind (wpAny_setField ho hd (by simp) ?_)))
  show wpAny _ _ (newExc (.type "StopIteration") [] >>= _) _ _ _
  refine wpAny_bind ?_
  simp only [newExc, newTuple]
  refine wpAny_bind (wpAny_newObj_type ?_ (by size_fits))
  refine wpAny_bind (m := firstArgMember _ _) (wpAny_of_eq (a := Value.none) (by first | rfl | (simp only [firstArgMember]; rfl)) ?_)
  refine wpAny_newObj_type ?_ (by size_fits)
  simp only [raiseNew]
  refine wpAny_bind (wpAny_handled ?_)
  rw [show A.in1.in1.handled = none from hh]
  refine wpAny_bind (wpAny_pure (wpAny_throw ?_))
  have ho' : (s.heap.update it (Obj.mapFields (·.setIfInBounds 0 Value.none))).get? it = some (iterO .none (i : Nat)) := by
    have e := hm.1.symm.trans ho
    cases e
    exact (Heap.get?_update_self _ ho (Obj.isFreed_of_fields (Obj.data_mapFields hd _))).trans rfl
  refine h (s.heap.update it (Obj.mapFields (·.setIfInBounds 0 Value.none))) _ _ (F.change (Heap.SameBut.update ..) hm.2.1 hm.2.2) (hg _ ▸ (show News h₀ L s.heap (pre ++ (it, iterO (.ref l) (i : Nat)) :: post) from hl' ▸ N).setIn a b (Heap.SameBut.update ..) ho') ⟨fun b o e => Heap.get?_push_of_some _ (Heap.get?_push_of_some _ e), ?_, ⟨_, _, _, Heap.get?_push_size _ rfl, rfl, rfl, rfl, rfl⟩⟩
  refine Heap.get?_none_of_le ?_
  rw [Heap.size_push]; lia
end
end
end
section
section
theorem nat_and_hi (a c : Nat) (h : c < 64) : (a * 64) &&& c = 0 := by
  apply Nat.eq_of_testBit_eq
  intro i
  rw [Nat.testBit_and, Nat.zero_testBit, show (64 : Nat) = 2 ^ 6 from rfl, Nat.testBit_mul_two_pow]
  by_cases hi : 6 ≤ i
  · have : c.testBit i = false := Nat.testBit_lt_two_pow (Nat.lt_of_lt_of_le h (by simpa using Nat.pow_le_pow_right (n := 2) (by lia) hi))
    simp [this]
  · simp [hi]
theorem bitAnd_hi {a c : Int} (ha : 0 ≤ a) (hc : 0 ≤ c) (h : c < 64) : Builtin.bitAnd (a * 64) c = 0 := by
  unfold Builtin.bitAnd
  rw [decide_eq_true (by lia : (0 : Int) ≤ a * 64), decide_eq_true hc]
  have e : (a * 64).toNat = a.toNat * 64 := by lia
  show (((a * 64).toNat &&& c.toNat : Nat) : Int) = 0
  rw [e, nat_and_hi _ _ (by lia)]; rfl
theorem bitOr_hi {a c : Int} (ha : 0 ≤ a) (hc : 0 ≤ c) (h : c < 64) : Builtin.bitOr (a * 64) c = a * 64 + c := by
  have h1 : Builtin.bitXor (a * 64) c = _ := bitXor_and (a * 64) c
  have h2 : Builtin.bitXor (a * 64) c = Builtin.bitOr (a * 64) c - Builtin.bitAnd (a * 64) c := rfl
  rw [bitAnd_hi ha hc h] at h1 h2
  lia
theorem bitAnd_64 {r : Int} (h0 : 0 ≤ r) (h : r < 64) : Builtin.bitAnd r 64 = 0 := by
  unfold Builtin.bitAnd
  rw [decide_eq_true h0, decide_eq_true (by decide : (0 : Int) ≤ 64)]
  show ((r.toNat &&& 64 : Nat) : Int) = 0
  rw [Nat.and_comm, show (64 : Nat) = 1 * 64 from rfl, nat_and_hi 1 _ (by lia)]; rfl
theorem bitAnd_65_64 : Builtin.bitAnd 65 64 = 64 := by decide +kernel
theorem bitAnd_65_63 : Builtin.bitAnd 65 63 = 1 := by decide +kernel
theorem bitAnd_63 {r : Int} (h0 : 0 ≤ r) (h : r < 64) : Builtin.bitAnd r 63 = r := by rw [bitAnd_m6]; lia
/-- 1 + 64 + .. + 64 ^ (k - 1) -/
noncomputable def vW : Nat → Int
  | 0 => 0
  | k + 1 => vW k * 64 + 1
theorem vW_nn : ∀ k, 0 ≤ vW k
  | 0 => by simp [vW]
  | k + 1 => by have := vW_nn k; simp only [vW]; lia
theorem vW_lt : ∀ k, vW k < 2 ^ (6 * k)
  | 0 => by simp [vW]
  | k + 1 => by
    have h := vW_lt k
    have e : (2 : Int) ^ (6 * (k + 1)) = 2 ^ (6 * k) * 64 := by rw [Nat.mul_add, Int.pow_add]; rfl
    rw [e]; simp only [vW]; lia
theorem vW_bits {k : Nat} (h : k ≤ 21) : Builtin.Int.intBits (vW k) ≤ 126 := by
  apply intBits_le_iff.mpr
  have h1 := vW_nn k
  have h2 := vW_lt k
  have h3 : (2 : Int) ^ (6 * k) ≤ 2 ^ 126 := by
    have : (2 : Nat) ^ (6 * k) ≤ 2 ^ 126 := Nat.pow_le_pow_right (by lia) (by lia)
    exact_mod_cast this
  have h4 : (vW k).natAbs = (vW k).toNat := by lia
  have h5 : ((2 : Nat) ^ 126 : Nat) = ((2 : Int) ^ 126).toNat := by decide
  rw [h4, h5]; lia
theorem octF_drop (size : Int) (gs : List Int) (j : Nat) : (octF size gs).drop (octF size (gs.take j)).length = octF size (gs.drop j) := by
  have h : octF size gs = octF size (gs.take j) ++ octF size (gs.drop j) := by
    unfold octF
    rw [← List.flatMap_append, List.take_append_drop]
  rw [h]
  simp [h]
theorem octF_at {size g : Int} {gs : List Int} {j : Nat} (h : gs[j]? = some g) : octF size (gs.drop j) = List.replicate (Int.fdiv g size).toNat 65 ++ Int.fmod g size :: octF size (gs.drop (j + 1)) := by
  have hl : j < gs.length := by
    rcases Nat.lt_or_ge j gs.length with q | q
    · exact q
    · rw [List.getElem?_eq_none q] at h; cases h
  have e : gs.drop j = g :: gs.drop (j + 1) := by
    rw [List.drop_eq_getElem_cons hl]
    rw [List.getElem?_eq_getElem hl] at h
    rw [Option.some.inj h]
  rw [e]
  simp [octF]
/-- the j-th octet of a number -/
noncomputable def vB (k : Nat) (r : Int) (j : Nat) : Int := if j < k then 65 else r
theorem octs_at {octs : List Int} {i k : Nat} {r : Int} {rest : List Int} (hd : octs.drop i = List.replicate k 65 ++ r :: rest) {j : Nat} (hj : j ≤ k) : octs[i + j]? = some (vB k r j) := by
  have h : (octs.drop i)[j]? = octs[i + j]? := by simp
  rw [← h, hd]
  unfold vB
  by_cases hk : j < k
  · rw [if_pos hk, List.getElem?_append_left (by simpa using hk)]
    simp [hk]
  · have e : j = k := by lia
    rw [if_neg hk, List.getElem?_append_right (by simp; lia)]
    simp [e]
theorem ints_at {vs : List Value} {ns : List Int} (h : IntsAre vs ns) {i : Nat} {n : Int} (hn : ns[i]? = some n) : ∃ t, vs[i]? = some (Value.int n t) := by
  have hl : i < ns.length := by
    rcases Nat.lt_or_ge i ns.length with q | q
    · exact q
    · rw [List.getElem?_eq_none q] at hn; cases hn
  obtain ⟨v, hv⟩ : ∃ v, vs[i]? = some v := ⟨vs[i]'(by rw [h.length]; exact hl), List.getElem?_eq_getElem _⟩
  obtain ⟨k, t, rfl, hk⟩ := h.at i v hv
  rw [hn] at hk; cases hk
  exact ⟨t, hv⟩
end
end
section
open PySem PySem.W PyProof.Rows PySem.Calls
set_option maxRecDepth 100000
section
/-- a contract of a call that may end in a StopIteration: the ledger is then in Z -/
noncomputable def SaysX (w : World) (f : Value) (vs : List Value) (D U : Nat) (news : Led) (R : Value → Led → Prop) (Z : Led → Prop) : Prop :=
  ∀ (dp un : Nat) (gd : Option (List Code)) (cn : Str) (cs : Scope) (a : Addr) (ccd : Value) (cl : List (Str × Addr)) (outer : List Env) (A₀ : Around) (base h₀ : Heap) (L : Addr) (m : Str → Option Value) (s : Shared) (p : Program) (loose : List Str) (mean : ExcName → Option Value) (mg mb : Str → Option Value) (Q E : Value → Shared → Prop),
    Below A₀ base outer h₀ → Fr h₀ L s.heap m → (KK w).In h₀ → News h₀ L s.heap news → Top p loose mean mg mb h₀ → cs.kind = .function → dp + D < recursionLimit → un + U < cLine →
    (∀ v news' h' tk', Fr h₀ L h' m → News h₀ L h' news' → R v news' → Q v { s with heap := h', toks := tk' }) →
    (∀ e news' G h' tk', Fr h₀ L G m → G.UpToSlots h' → RaisedSN base G (envX cn cs L a ccd cl :: outer) e (.type "StopIteration") news' h' → Z news' → E (.ref e) { s with heap := h', toks := tk' }) →
    wpAny (model PR w) (ktrTop dp un gd cn cs L a ccd cl outer) (call f vs []) Q E s
section
variable {M : Model} {A : Around} {E : Value → Shared → Prop} {s' : Shared} {base g g₂ h : Heap} {outer : List Env} {L a e : Addr} {m : Str → Option Value} {name : Str} {scope : Scope} {cd : Value} {Q : Unit → Shared → Prop} {news : Led}
theorem leave_stop (K : Below A base outer g) (hx : StopExc h s'.heap e) (F : Fr g L h m) (N : News g L h news)
    (hQ : ∀ h', RaisedSN base g outer e (.type "StopIteration") news h' → g.UpToSlots h' → Q () { s' with heap := h' }) (hk : scope.kind = .function := by rfl) :
    wpAny M (A.deeper (envOf name scope L a cd)) (leaving (envOf name scope L a cd) (.ref e)) Q E s' := by
  have K' := K.push (name := name) (a := a) (cd := cd) F hk
  have hin : ∀ env ∈ (envOf name scope L a cd :: outer), ∀ b, env.frame = some b → b ∈ (envOf name scope L a cd :: outer).filterMap (·.frame) := fun env he b hb => List.mem_filterMap.mpr ⟨env, he, hb⟩
  have st : base.StaysIn (hideAll h ((envOf name scope L a cd :: outer).filterMap (·.frame))) := fun b o q => hideAll_get _ (K'.stays b o q) fun hm => by
    rw [(K'.frames.mem hm).1] at q; cases q
  have sg : ∀ b o, g.get? b = some o → b ∉ outer.filterMap (·.frame) → (hideAll h ((envOf name scope L a cd :: outer).filterMap (·.frame))).get? b = some o := fun b o q nm => hideAll_get _ (F.keep b o q) fun hm => by
    rcases kts_mem hm with z | z
    · rw [z, kts_self F] at q
      cases q
    · exact nm z
  have hl : ∀ q ∈ news, (hideAll h ((envOf name scope L a cd :: outer).filterMap (·.frame))).get? q.1 = some q.2 ∧ g.get? q.1 = none ∧ base.get? q.1 = none := fun q hq => by
    refine ⟨hideAll_get _ (N q hq).1 fun hm => ?_, (N q hq).2.2, fresh_of_stays K.stays (N q hq).2.2⟩
    obtain ⟨env, he, hf⟩ := List.mem_filterMap.mp hm
    rcases List.mem_cons.mp he with rfl | he
    · exact (N q hq).2.1 (Option.some.inj hf).symm
    · obtain ⟨o, ho, _⟩ := (K.frames.mem (List.mem_filterMap.mpr ⟨env, he, hf⟩)).2
      rw [(N q hq).2.2] at ho; cases ho
  obtain ⟨ob, vs, tp, he, hcls, hd, h0, h1⟩ := hx.there
  have hen : (hideAll h ((envOf name scope L a cd :: outer).filterMap (·.frame))).get? e = none := by
    cases q : (hideAll h ((envOf name scope L a cd :: outer).filterMap (·.frame))).get? e with
    | none => rfl
    | some o => have := of_hideAll _ q; rw [hx.new] at this; cases this
  refine wpAny_leaving_firstW (a0 := tp) K'.stack ((funFrames_hide K'.frames hin).of_keeps fun b o hb _ => ⟨o, hx.keeps b o hb, rfl⟩) rfl he (fun b o hb => hx.keeps b o (of_hideAll _ hb)) hen hd h1 h0 fun h' hL => ?_
  obtain ⟨k1, ⟨_, _, k2⟩, k3, k4⟩ := hL
  have R : RaisedSN base g outer e (.type "StopIteration") news h' := ⟨_, tp, st, sg, hl, k1, hen, k2, by rw [← hcls]; exact k3⟩
  exact hQ h' R (((Heap.UpToSlots.of_keeps F.keep).trans (Heap.UpToSlots.of_keeps hx.keeps)).trans k4)
end
end
end
section
open PySem PySem.W PyProof.Rows PySem.StrLaws
set_option maxRecDepth 100000
section
open Builtin.Str in
noncomputable def find4 (x y : Str) (lo hi : Nat) : Int := match occurrences x y lo hi 1 with | k :: _ => (k : Int) | [] => -1
open Builtin Builtin.Str in
theorem gives_find4 (x y : Str) (i j : Nat) (hj : j ≤ x.length) (t u v w : Tok) : Gives («str.find» ⟨[.str x t, .str y u, .int (i : Int) v, .int (j : Int) w], []⟩) (.int (find4 x y i j)) := by
  show Gives (match occurrences x y (fromIndex x.length (i : Int)) (min (fromIndex x.length (j : Int)) x.length) 1 with | k :: _ => retInt k | [] => (do rule "str.find.not-found"; retInt (-1))) _
  have e1 : fromIndex x.length (i : Int) = i := by unfold fromIndex; rw [if_neg (by lia)]; lia
  have e2 : fromIndex x.length (j : Int) = j := by unfold fromIndex; rw [if_neg (by lia)]; lia
  rw [e1, e2, Nat.min_eq_left hj]
  unfold find4
  cases occurrences x y i j 1 with
  | nil => exact .rule (.of_eq rfl)
  | cons k _ => exact .of_eq rfl
theorem call_find4 {prog : Program} {w : World} {A : Around} {E : Value → Shared → Prop} {s : Shared} {x y : Str} {t u v z : Tok} {i j : Nat} {Q : Value → Shared → Prop} (hj : j ≤ x.length) (hq : Q (.int (find4 x y i j) s.toks) { s with toks := s.toks + 1 }) :
    wpAny (model prog w) A (call (.builtin "str.find") [.str x t, .str y u, .int (i : Int) v, .int (j : Int) z]) Q E s :=
  call_gives F.slot_str_find (typeIs_str _ _ _) F.entry_str_find (F.args_str_find_4 _ _ _ _) (gives_find4 x y i j hj t u v z) hq
theorem at_TX (X P : List Nat) (hi i : Nat) : At (TX X) (TX P) hi i ↔ i + P.length ≤ hi ∧ (X.drop i).take P.length = P := by
  unfold At
  rw [subAt_eq, TX_len]
  show _ ∧ ((X.toArray.toList.drop i).take P.length == P.toArray.toList) = true ↔ _
  simp
/-- P stands somewhere in G -/
noncomputable def hasF (P G : List Nat) : Bool := (List.range (G.length + 1)).any fun i => decide (i + P.length ≤ G.length) && ((G.drop i).take P.length == P)
theorem hasF_iff (P G : List Nat) : hasF P G = true ↔ ∃ i, i + P.length ≤ G.length ∧ (G.drop i).take P.length = P := by
  unfold hasF
  rw [List.any_eq_true]
  constructor
  · rintro ⟨i, _, h⟩
    simp only [Bool.and_eq_true, decide_eq_true_eq, beq_iff_eq] at h
    exact ⟨i, h⟩
  · rintro ⟨i, h1, h2⟩
    exact ⟨i, by simp; lia, by simp [h1, h2]⟩
theorem take_drop_app {G Z : List Nat} {i n : Nat} (h : i + n ≤ G.length) : ((G ++ Z).drop i).take n = (G.drop i).take n := by
  rw [List.drop_append_of_le_length (by lia), List.take_append_of_le_length (by simp; lia)]
open Builtin.Str in
theorem find4_spec (X P : List Nat) (hi : Nat) : (find4 (TX X) (TX P) 0 hi = -1 ∧ ∀ i, ¬ At (TX X) (TX P) hi i) ∨ ∃ k : Nat, find4 (TX X) (TX P) 0 hi = k ∧ At (TX X) (TX P) hi k ∧ ∀ i, i < k → ¬ At (TX X) (TX P) hi i := by
  unfold find4
  rw [occ_eq]
  rcases occ_first (TX X) (TX P) hi 1 (Nat.le_refl _) (List.range' 0 (hi + 1 - 0)) 0 (fun _ _ => Nat.zero_le _) with ⟨h0, hn⟩ | ⟨pre, a, post, e, h0, ha, hn⟩
  · rw [h0]
    refine .inl ⟨rfl, fun i hA => hn i ?_ hA⟩
    have := hA.1
    simp [List.mem_range']; lia
  · refine .inr ⟨a, ?_, ha, fun i hi' => hn i (range'_split e i hi')⟩
    cases hl : (forIn (List.range' 0 (hi + 1 - 0)) ((#[] : Array Nat), 0) (occBody (TX X) (TX P) hi 1)).run.fst.toList with
    | nil =>
      have : (forIn (List.range' 0 (hi + 1 - 0)) ((#[] : Array Nat), 0) (occBody (TX X) (TX P) hi 1)).run.fst = #[] := by
        apply Array.toList_inj.mp; rw [hl]
      rw [this] at h0; simp at h0
    | cons b r =>
      rw [← Array.getElem?_toList, hl] at h0
      simp at h0
      rw [h0]
theorem find4_nil (X : List Nat) (hi : Nat) : find4 (TX X) (TX []) 0 hi = 0 := by
  rcases find4_spec X [] hi with ⟨_, h⟩ | ⟨k, h1, _, h3⟩
  · exact absurd ((at_TX X [] hi 0).mpr ⟨by simp, by simp⟩) (h 0)
  · rcases Nat.eq_zero_or_pos k with hk | hk
    · rw [h1, hk]; rfl
    · exact absurd ((at_TX X [] hi 0).mpr ⟨by simp, by simp⟩) (h3 0 hk)
theorem find4_has (G Z P : List Nat) : (find4 (TX (G ++ Z)) (TX P) 0 G.length = -1 ∧ hasF P G = false) ∨ ∃ k : Nat, find4 (TX (G ++ Z)) (TX P) 0 G.length = k ∧ k ≤ G.length ∧ hasF P G = true := by
  rcases find4_spec (G ++ Z) P G.length with ⟨h0, hn⟩ | ⟨k, h1, h2, _⟩
  · refine .inl ⟨h0, ?_⟩
    rw [Bool.eq_false_iff, Ne, hasF_iff]
    rintro ⟨i, hi, he⟩
    exact hn i ((at_TX _ _ _ _).mpr ⟨hi, by rw [take_drop_app hi]; exact he⟩)
  · rw [at_TX] at h2
    refine .inr ⟨k, h1, by lia, ?_⟩
    rw [hasF_iff]
    exact ⟨k, h2.1, by rw [← take_drop_app h2.1 (Z := Z)]; exact h2.2⟩
/-- three dots, P1, three dots, P2 -/
noncomputable def dotsF (P1 P2 : List Nat) : List Nat := [46, 46, 46] ++ (P1 ++ ([46, 46, 46] ++ P2))
theorem dots_TX : Str.ofString "..." = TX [46, 46, 46] := by decide +kernel
theorem take3 {l : List Nat} {i : Nat} (h : (l.drop i).take 3 = [46, 46, 46]) : l[i]? = some 46 := by
  have e : l[i]? = ((l.drop i).take 3)[0]? := by simp
  rw [e, h]; rfl
theorem dots_at0 (P1 P2 : List Nat) : At (TX (dotsF P1 P2)) (TX [46, 46, 46]) (TX (dotsF P1 P2)).length 0 := by
  rw [at_TX, TX_len]; exact ⟨by simp [dotsF], rfl⟩
theorem dots_at1 (P1 P2 : List Nat) : At (TX (dotsF P1 P2)) (TX [46, 46, 46]) (TX (dotsF P1 P2)).length (3 + P1.length) := by
  rw [at_TX, TX_len]
  refine ⟨by simp [dotsF]; lia, ?_⟩
  have e : (dotsF P1 P2).drop (3 + P1.length) = [46, 46, 46] ++ P2 := by
    unfold dotsF
    rw [← List.drop_drop]
    show List.drop P1.length (P1 ++ ([46, 46, 46] ++ P2)) = _
    simp
  rw [e]; rfl
theorem dots_in1 {P1 P2 : List Nat} (h1 : ∀ c ∈ P1, c ≠ 46) {k : Nat} (ha : 3 ≤ k) (hb : k < 3 + P1.length) : ¬ At (TX (dotsF P1 P2)) (TX [46, 46, 46]) (TX (dotsF P1 P2)).length k := by
  rw [at_TX]
  rintro ⟨_, h⟩
  have e := take3 h
  unfold dotsF at e
  rw [List.getElem?_append_right (by simpa using ha), List.getElem?_append_left (by simp; lia)] at e
  exact h1 46 (List.mem_of_getElem? e) rfl
theorem dots_in2 {P1 P2 : List Nat} (h2 : ∀ c ∈ P2, c ≠ 46) {k : Nat} (ha : 6 + P1.length ≤ k) : ¬ At (TX (dotsF P1 P2)) (TX [46, 46, 46]) (TX (dotsF P1 P2)).length k := by
  rw [at_TX]
  rintro ⟨_, h⟩
  have e := take3 h
  unfold dotsF at e
  rw [List.getElem?_append_right (by simp; lia), List.getElem?_append_right (by simp; lia), List.getElem?_append_right (by simp; lia)] at e
  exact h2 46 (List.mem_of_getElem? e) rfl
open Builtin.Str in
theorem dots_cuts {P1 P2 : List Nat} (h1 : ∀ c ∈ P1, c ≠ 46) (h2 : ∀ c ∈ P2, c ≠ 46) :
    occurrences (TX (dotsF P1 P2)) (TX [46, 46, 46]) 0 (TX (dotsF P1 P2)).length ((TX (dotsF P1 P2)).length + 1) = [0, 3 + P1.length] := by
  obtain ⟨f, hG, hn⟩ := occ_tight (TX (dotsF P1 P2)) (TX [46, 46, 46]) (by rw [TX_len]; decide)
  generalize occurrences (TX (dotsF P1 P2)) (TX [46, 46, 46]) 0 (TX (dotsF P1 P2)).length ((TX (dotsF P1 P2)).length + 1) = cuts at hG
  have h3 : (TX [46, 46, 46]).length = 3 := by rw [TX_len]; rfl
  match cuts, hG with
  | [], hG =>
    have e : f = 0 := hG
    subst e
    exact absurd (dots_at0 P1 P2) (hn 0 (Nat.le_refl _))
  | c :: r, hG =>
    obtain ⟨_, _, hno, hr⟩ := hG
    have ec : c = 0 := by
      rcases Nat.eq_zero_or_pos c with q | q
      · exact q
      · exact absurd (dots_at0 P1 P2) (hno 0 (Nat.le_refl _) q)
    subst ec
    rw [h3] at hr
    match r, hr with
    | [], hr =>
      have e : f = 0 + 3 := hr
      subst e
      exact absurd (dots_at1 P1 P2) (hn _ (by lia))
    | d :: q, hr =>
      obtain ⟨hd1, hd2, hd3, hq⟩ := hr
      have ed : d = 3 + P1.length := by
        rcases Nat.lt_trichotomy d (3 + P1.length) with z | z | z
        · exact absurd hd2 (dots_in1 h1 (by omega) z)
        · exact z
        · exact absurd (dots_at1 P1 P2) (hd3 _ (by lia) z)
      subst ed
      match q, hq with
      | [], _ => rfl
      | e :: _, hq => exact absurd hq.2.1 (dots_in2 h2 (by have := hq.1; rw [h3] at this; lia))
theorem dots_found (P1 P2 : List Nat) : (Builtin.Str.occurrences (TX (dotsF P1 P2)) (Str.ofString "...") 0 (TX (dotsF P1 P2)).length 1).isEmpty = false := by
  have h := (found_iff (TX (dotsF P1 P2)) (TX [46, 46, 46])).mpr ⟨0, dots_at0 P1 P2⟩
  rw [dots_TX]
  simpa using h
theorem strSub_TX (X : List Nat) (i j : Nat) : Builtin.Str.strSub (TX X) i j = TX ((X.drop i).take (j - i)) := by
  apply Str.ext'
  apply Array.toList_inj.mp
  rw [strSub_toList]
  show _ = ((X.drop i).take (j - i)).toArray.toList
  simp [TX]
theorem dots_split {P1 P2 : List Nat} (h1 : ∀ c ∈ P1, c ≠ 46) (h2 : ∀ c ∈ P2, c ≠ 46) (hk : ∀ c ∈ dotsF P1 P2, c < 128) : Txt.split (TX (dotsF P1 P2)) (Str.ofString "...") = [TX [], TX P1, TX P2] := by
  have hkind : Builtin.Str.strKind (TX (dotsF P1 P2)) = 1 := by
    unfold Builtin.Str.strKind
    rw [if_pos]
    show (dotsF P1 P2).toArray.all _ = true
    rw [← Array.all_toList, List.all_eq_true]
    intro c hc
    have := hk c (by simpa using hc)
    simp; lia
  have hkind2 : Builtin.Str.strKind (TX [46, 46, 46]) = 1 := by decide +kernel
  unfold Txt.split
  rw [dots_TX, dots_cuts h1 h2, if_neg, if_neg, partsBetween_eq]
  · simp only [partsFrom, strSub_TX, TX_len]
    have e0 : List.take (0 - 0) (List.drop 0 (dotsF P1 P2)) = [] := by simp
    have e1 : List.take (3 + P1.length - (0 + [46, 46, 46].length)) (List.drop (0 + [46, 46, 46].length) (dotsF P1 P2)) = P1 := by
      show List.take (3 + P1.length - 3) (P1 ++ ([46, 46, 46] ++ P2)) = P1
      rw [Nat.add_sub_cancel_left]; simp
    have e2 : List.take ((dotsF P1 P2).length - (3 + P1.length + [46, 46, 46].length)) (List.drop (3 + P1.length + [46, 46, 46].length) (dotsF P1 P2)) = P2 := by
      have e : (dotsF P1 P2).drop (3 + P1.length + [46, 46, 46].length) = P2 := by
        unfold dotsF
        rw [show 3 + P1.length + [46, 46, 46].length = 3 + (P1.length + 3) from by simp; lia, ← List.drop_drop, ← List.drop_drop]
        show List.drop 3 (List.drop P1.length (P1 ++ ([46, 46, 46] ++ P2))) = P2
        simp
      rw [e]
      apply List.take_of_length_le
      simp [dotsF]; lia
    rw [e0, e1, e2]
  · simp
  · rw [hkind, hkind2, TX_len, TX_len]
    simp [dotsF]
theorem ends_TX (G P : List Nat) : Txt.endswith (TX (G ++ P)) (TX P) = true := by
  unfold Txt.endswith
  rw [subAt_eq, TX_len, TX_len]
  show (decide _ && (((G ++ P).toArray.toList.drop _).take P.length == P.toArray.toList)) = true
  simp
end
end
section
section
/-- one gap's code -/
noncomputable def gapC (q r : Nat) : List Nat := List.replicate q 65 ++ [r]
noncomputable def codeC (l : List (Nat × Nat)) : List Nat := l.flatMap fun p => gapC p.1 p.2
noncomputable def Occ (P G : List Nat) : Prop := ∃ o, P <+: G.drop o
theorem gapC_pre {i q r r0 : Nat} {tl X : List Nat} (hr : r ≠ 65) (hr0 : r0 ≠ 65) : (gapC i r ++ tl) <+: (gapC q r0 ++ X) ↔ i = q ∧ r = r0 ∧ tl <+: X := by
  induction i generalizing q with
  | zero =>
    cases q with
    | zero => simp [gapC, List.cons_prefix_cons]
    | succ q => simp [gapC, List.replicate_succ, List.cons_prefix_cons, hr]
  | succ i ih =>
    cases q with
    | zero =>
      simp only [gapC, List.replicate_succ, List.cons_append, List.replicate_zero, List.nil_append, List.cons_prefix_cons]
      constructor
      · rintro ⟨h, _⟩; exact absurd h.symm hr0
      · rintro ⟨h, _⟩; lia
    | succ q =>
      have := ih (q := q)
      simp only [gapC, List.replicate_succ, List.cons_append, List.cons_prefix_cons, true_and] at this ⊢
      rw [this]
      constructor
      · rintro ⟨a, b⟩; exact ⟨by lia, b⟩
      · rintro ⟨a, b⟩; exact ⟨by lia, b⟩
theorem occ_cons {P : List Nat} {c : Nat} {X : List Nat} : Occ P (c :: X) ↔ P <+: (c :: X) ∨ Occ P X := by
  constructor
  · rintro ⟨o, h⟩
    cases o with
    | zero => exact .inl h
    | succ o => exact .inr ⟨o, h⟩
  · rintro (h | ⟨o, h⟩)
    · exact ⟨0, h⟩
    · exact ⟨o + 1, h⟩
theorem occ_gap {i q r r0 : Nat} {tl X : List Nat} (hr : r ≠ 65) (hr0 : r0 ≠ 65) : Occ (gapC i r ++ tl) (gapC q r0 ++ X) ↔ (i ≤ q ∧ r = r0 ∧ tl <+: X) ∨ Occ (gapC i r ++ tl) X := by
  induction q with
  | zero =>
    have h := gapC_pre (i := i) (q := 0) (tl := tl) (X := X) hr hr0
    show Occ _ (r0 :: X) ↔ _
    rw [occ_cons]
    have h' : (gapC i r ++ tl) <+: (r0 :: X) ↔ i = 0 ∧ r = r0 ∧ tl <+: X := h
    rw [h']
    constructor
    · rintro (⟨a, b⟩ | b)
      · exact .inl ⟨by lia, b⟩
      · exact .inr b
    · rintro (⟨a, b⟩ | b)
      · exact .inl ⟨by lia, b⟩
      · exact .inr b
  | succ q ih =>
    have h := gapC_pre (i := i) (q := q + 1) (tl := tl) (X := X) hr hr0
    have e : gapC (q + 1) r0 ++ X = 65 :: (gapC q r0 ++ X) := by simp [gapC, List.replicate_succ]
    rw [e] at h ⊢
    rw [occ_cons, h, ih]
    constructor
    · rintro (⟨a, b⟩ | ⟨a, b⟩ | b)
      · exact .inl ⟨by lia, b⟩
      · exact .inl ⟨by lia, b⟩
      · exact .inr b
    · rintro (⟨a, b⟩ | b)
      · by_cases h : i = q + 1
        · exact .inl ⟨h, b⟩
        · exact .inr (.inl ⟨by lia, b⟩)
      · exact .inr (.inr b)
theorem occ_nil {i r : Nat} {tl : List Nat} : ¬ Occ (gapC i r ++ tl) [] := by
  rintro ⟨o, h⟩
  simp [gapC] at h
/-- the gaps' code holds a gap of rest r and at least i wholes, with tl right behind -/
theorem occ_code {i r : Nat} {tl : List Nat} (hr : r ≠ 65) : ∀ {l : List (Nat × Nat)}, (∀ p ∈ l, p.2 ≠ 65) → (Occ (gapC i r ++ tl) (codeC l) ↔ ∃ j q, l[j]? = some (q, r) ∧ i ≤ q ∧ tl <+: codeC (l.drop (j + 1)))
  | [], _ => by
    constructor
    · intro h; exact absurd h occ_nil
    · rintro ⟨j, q, h, _⟩; simp at h
  | (q0, r0) :: l, hl => by
    have e : codeC ((q0, r0) :: l) = gapC q0 r0 ++ codeC l := rfl
    rw [e, occ_gap hr (hl _ (.head _)), occ_code hr (l := l) fun p hp => hl p (.tail _ hp)]
    constructor
    · rintro (⟨a, b, c⟩ | ⟨j, q, a, b, c⟩)
      · exact ⟨0, q0, by simp [b], a, c⟩
      · exact ⟨j + 1, q, by simpa using a, b, by simpa using c⟩
    · rintro ⟨j, q, a, b, c⟩
      cases j with
      | zero =>
        simp at a
        exact .inl ⟨by lia, a.2.symm, by simpa using c⟩
      | succ j => exact .inr ⟨j, q, by simpa using a, b, by simpa using c⟩
theorem hasF_occ (P G : List Nat) (hP : P ≠ []) : hasF P G = true ↔ Occ P G := by
  rw [hasF_iff]
  constructor
  · rintro ⟨o, h1, h2⟩
    exact ⟨o, by rw [← h2]; exact List.take_prefix _ _⟩
  · rintro ⟨o, h⟩
    have hl := h.length_le
    rw [List.length_drop] at hl
    have hp : 0 < P.length := List.length_pos_iff.mpr hP
    exact ⟨o, by lia, (List.prefix_iff_eq_take.mp h).symm⟩
end
end
section
section
noncomputable def othF (gs : List Int) : List Int := gs.take (gs.length - 1)
noncomputable def behindF (gs : List Int) (place : Nat) : List Int := (gs.drop (place + 1)).take 1
noncomputable def mostG (gs : List Int) (place : Nat) (size : Int) : Nat → Int
  | 0 => -1
  | i + 1 => if Int.fmod ((othF gs).getD i 0) size = Int.fmod (gs.getD place 0) size ∧ ((othF gs).drop (i + 1)).take (behindF gs place).length = behindF gs place then max (mostG gs place size i) (Int.fdiv ((othF gs).getD i 0) size) else mostG gs place size i
theorem behind_len (gs : List Int) (place : Nat) : (behindF gs place).length ≤ 1 := by
  unfold behindF; simp; omega
noncomputable def cutF (size : Int) (g : Int) : Nat × Nat := ((Int.fdiv g size).toNat, (Int.fmod g size).toNat)
theorem sigF_code (size : Int) : ∀ gs : List Int, sigF size gs = codeC (gs.map (cutF size))
  | [] => rfl
  | g :: gs => by
    have ih := sigF_code size gs
    unfold sigF octF codeC at ih ⊢
    simp only [List.flatMap_cons, List.map_append, List.map_cons, ih]
    simp [gapC, cutF]
theorem cutF_inj {size g h : Int} (hs : 1 ≤ size) (hg : 0 ≤ g) (hh : 0 ≤ h) (e : cutF size g = cutF size h) : g = h := by
  unfold cutF at e
  have e1 := congrArg Prod.fst e
  have e2 := congrArg Prod.snd e
  simp only at e1 e2
  obtain ⟨a1, a2⟩ := fdiv_bd hg (Int.lt_succ g) hs
  obtain ⟨b1, b2⟩ := fdiv_bd hh (Int.lt_succ h) hs
  obtain ⟨c1, c2⟩ := fmod_bd (g := g) hs
  obtain ⟨d1, d2⟩ := fmod_bd (g := h) hs
  have q1 : Int.fdiv g size = Int.fdiv h size := by omega
  have q2 : Int.fmod g size = Int.fmod h size := by omega
  rw [← Int.mul_fdiv_add_fmod g size, ← Int.mul_fdiv_add_fmod h size, q1, q2]
theorem tail_iff {size : Int} (hs : 1 ≤ size) (hs2 : size ≤ 32) {bh : List Int} (hb : bh.length ≤ 1) : ∀ (X : List Int), (∀ g ∈ bh, 0 ≤ g) → (∀ g ∈ X, 0 ≤ g) → (sigF size bh <+: codeC (X.map (cutF size)) ↔ X.take bh.length = bh) := by
  intro X hb0 hX0
  match bh, hb with
  | [], _ => simp [sigF, octF]
  | [b], _ =>
    rw [sigF_code]
    have e : codeC ([b].map (cutF size)) = gapC (cutF size b).1 (cutF size b).2 ++ [] := by simp [codeC]
    rw [e]
    have hr : ∀ g, (cutF size g).2 ≠ 65 := fun g => by
      obtain ⟨c1, c2⟩ := fmod_bd (g := g) hs
      unfold cutF; dsimp only; omega
    cases X with
    | nil =>
      constructor
      · intro h
        have := h.length_le
        simp [gapC, codeC] at this
      · intro h; simp at h
    | cons x X =>
      have e2 : codeC ((x :: X).map (cutF size)) = gapC (cutF size x).1 (cutF size x).2 ++ codeC (X.map (cutF size)) := rfl
      rw [e2, gapC_pre (hr _) (hr _)]
      constructor
      · rintro ⟨a, c, _⟩
        have := cutF_inj hs (hb0 b (.head _)) (hX0 x (.head _)) (Prod.ext a c)
        simp [this]
      · intro h
        simp at h
        subst h
        exact ⟨rfl, rfl, List.nil_prefix⟩
theorem most_iff (gs : List Int) (place : Nat) (size : Int) (i : Nat) : ∀ n, ((i : Int) ≤ mostG gs place size n ↔ ∃ j, j < n ∧ Int.fmod ((othF gs).getD j 0) size = Int.fmod (gs.getD place 0) size ∧ ((othF gs).drop (j + 1)).take (behindF gs place).length = behindF gs place ∧ (i : Int) ≤ Int.fdiv ((othF gs).getD j 0) size) := by
  intro n
  induction n with
  | zero =>
    constructor
    · intro h; simp only [mostG] at h; omega
    · rintro ⟨j, h, _⟩; omega
  | succ n ih =>
    unfold mostG
    split
    · rename_i hc
      rw [show ((i : Int) ≤ max (mostG gs place size n) (Int.fdiv ((othF gs).getD n 0) size)) ↔ ((i : Int) ≤ mostG gs place size n ∨ (i : Int) ≤ Int.fdiv ((othF gs).getD n 0) size) by omega, ih]
      constructor
      · rintro (⟨j, a, b⟩ | h)
        · exact ⟨j, by omega, b⟩
        · exact ⟨n, by omega, hc.1, hc.2, h⟩
      · rintro ⟨j, a, b, c, d⟩
        by_cases h : j = n
        · subst h; exact .inr d
        · exact .inl ⟨j, by omega, b, c, d⟩
    · rename_i hc
      rw [ih]
      constructor
      · rintro ⟨j, a, b⟩; exact ⟨j, by omega, b⟩
      · rintro ⟨j, a, b, c, d⟩
        by_cases h : j = n
        · subst h; exact absurd ⟨b, c⟩ hc
        · exact ⟨j, by omega, b, c, d⟩
theorem most_bd {gs : List Int} {place : Nat} {size : Int} (hs : 1 ≤ size) (hg : ∀ g ∈ gs, 0 ≤ g ∧ g < 20) : ∀ n, -1 ≤ mostG gs place size n ∧ mostG gs place size n ≤ Int.fdiv 20 size := by
  have hz : ∀ g : Int, 0 ≤ g → g < 20 → Int.fdiv g size ≤ Int.fdiv 20 size := fun g h1 h2 => by
    rw [Int.fdiv_eq_ediv_of_nonneg _ (by omega), Int.fdiv_eq_ediv_of_nonneg _ (by omega)]
    exact Int.ediv_le_ediv (by omega) (by omega)
  have h20 := fdiv_bd (g := 20) (B := 21) (by decide) (by decide) hs
  intro n
  induction n with
  | zero => simp only [mostG]; omega
  | succ n ih =>
    unfold mostG
    split
    · have hx : 0 ≤ (othF gs).getD n 0 ∧ (othF gs).getD n 0 < 20 := by
        by_cases hn : n < (othF gs).length
        · rw [List.getD_eq_getElem?_getD, List.getElem?_eq_getElem hn]
          exact hg _ (List.mem_of_mem_take (List.getElem_mem hn))
        · rw [List.getD_eq_getElem?_getD, List.getElem?_eq_none (by omega)]; decide
      have := hz _ hx.1 hx.2
      omega
    · exact ih
/-- what the search by bisection asks is what the plain count tells -/
theorem found_iff {gs : List Int} {place : Nat} {size : Int} (hs : 1 ≤ size) (hs2 : size ≤ 32) (hg : ∀ g ∈ gs, 0 ≤ g ∧ g < 20) (i : Nat) :
    hasF (sigF size (((i : Int) * size + Int.fmod (gs.getD place 0) size) :: behindF gs place)) (sigF size (othF gs)) = true ↔ (i : Int) ≤ mostG gs place size (gs.length - 1) := by
  have hr : ∀ g, (cutF size g).2 ≠ 65 := fun g => by
    obtain ⟨c1, c2⟩ := fmod_bd (g := g) hs
    unfold cutF; dsimp only; omega
  obtain ⟨c1, c2⟩ := fmod_bd (g := gs.getD place 0) hs
  have ho : ∀ g ∈ othF gs, 0 ≤ g ∧ g < 20 := fun g h => hg g (List.mem_of_mem_take h)
  have hol : (othF gs).length = gs.length - 1 := by unfold othF; rw [List.length_take]; lia
  have ecut0 : ∀ R : Int, 0 ≤ R → R < size → cutF size ((i : Int) * size + R) = (i, R.toNat) := fun R c1 c2 => by
    have hp : 0 ≤ (i : Int) * size := Int.mul_nonneg (by omega) (by lia)
    unfold cutF
    rw [Int.fdiv_eq_ediv_of_nonneg _ (by omega), Int.fmod_eq_emod_of_nonneg _ (by omega), Int.add_comm, Int.add_mul_ediv_right _ _ (by omega), Int.add_mul_emod_self_right, Int.ediv_eq_zero_of_lt c1 c2, Int.emod_eq_of_lt c1 c2]
    simp
  have ecut := ecut0 _ c1 c2
  have e1 : sigF size (((i : Int) * size + Int.fmod (gs.getD place 0) size) :: behindF gs place) = gapC i (Int.fmod (gs.getD place 0) size).toNat ++ sigF size (behindF gs place) := by
    rw [sigF_code, sigF_code, List.map_cons, ecut]; rfl
  rw [hasF_occ _ _ (by rw [e1]; simp [gapC]), e1, sigF_code size (othF gs), occ_code (by omega) (by intro p hp; obtain ⟨g, _, rfl⟩ := List.mem_map.mp hp; exact hr g), most_iff]
  have hbl := behind_len gs place
  have hb0 : ∀ g ∈ behindF gs place, 0 ≤ g := fun g h => (hg g (List.mem_of_mem_drop (List.mem_of_mem_take h))).1
  constructor
  · rintro ⟨j, q, a, b, c⟩
    rw [List.getElem?_map] at a
    obtain ⟨g, hgj, hcut⟩ := Option.map_eq_some_iff.mp a
    have hjl : j < (othF gs).length := by
      by_cases h : j < (othF gs).length
      · exact h
      · rw [List.getElem?_eq_none (by omega)] at hgj; cases hgj
    have hgd : (othF gs).getD j 0 = g := by rw [List.getD_eq_getElem?_getD, hgj]; rfl
    have hgm := ho g (List.mem_of_getElem? hgj)
    obtain ⟨d1, d2⟩ := fmod_bd (g := g) hs
    obtain ⟨f1, f2⟩ := fdiv_bd hgm.1 hgm.2 hs
    unfold cutF at hcut
    simp only [Prod.mk.injEq] at hcut
    refine ⟨j, by omega, by rw [hgd]; omega, ?_, by rw [hgd]; omega⟩
    rw [← List.map_drop] at c
    exact (tail_iff hs hs2 hbl _ hb0 fun x hx => (ho x (List.mem_of_mem_drop hx)).1).mp c
  · rintro ⟨j, a, b, c, d⟩
    have hjl : j < (othF gs).length := by omega
    have hgj : (othF gs)[j]? = some ((othF gs).getD j 0) := by rw [List.getD_eq_getElem?_getD, List.getElem?_eq_getElem hjl]; rfl
    refine ⟨j, (cutF size ((othF gs).getD j 0)).1, ?_, ?_, ?_⟩
    · rw [List.getElem?_map, hgj]
      simp only [Option.map_some, cutF, b]
    · unfold cutF; dsimp only; omega
    · rw [← List.map_drop]
      exact (tail_iff hs hs2 hbl _ hb0 fun x hx => (ho x (List.mem_of_mem_drop hx)).1).mpr c
end
end
section
local macro_rules | `(tactic| walk_at $s:str) => `(tactic| k_extra $s)
local macro_rules | `(tactic| k_all) => `(tactic| k_extra "my all")
local macro_rules | `(tactic| k_mem) => `(tactic| k_extra "my mem")
local macro_rules | `(tactic| k_ne) => `(tactic| k_extra "my ne")
local macro_rules | `(tactic| ktr_room) => `(tactic| k_extra "my room")
local macro_rules | `(tactic| ktr_units) => `(tactic| k_extra "my units")
section
section
set_option maxRecDepth 100000 in
set_option maxHeartbeats 8000000 in
theorem octets_says (w : World) (l : Addr) (n : Nat) (vs : List Value) (gs : List Int) (size : Int) (tS : Tok) (news : Led) (hm : (l, listOf vs.toArray n) ∈ news) (hi : IntsAre vs gs) (hg : ∀ g ∈ gs, 0 ≤ g ∧ g < 60) (hs : 1 ≤ size) (hs2 : size ≤ 32) (hlen : gs.length ≤ 7) :
    Says w (.ref 126) [.ref l, .int size tS] [] 1 8 news (fun v news' => ∃ r us k, v = .ref r ∧ news' = (r, listOf us.toArray k) :: news ∧ IntsAre us (octF size gs) ∧ ∀ p ∈ news, p.1 < r) := by
  w_top off
  k_with_none
  k_with "law conj" => ((repeat (rename @LT.lt Nat _ _ _ ∧ _ => hq; first | exact hq.1 | exact hq.2.1 | exact hq.2.2.1 | exact hq.2.2.2.1 | exact hq.2.2.2.2.1 | exact hq.2.2.2.2.2.1 | exact hq.2.2.2.2.2.2.1 | exact hq.2.2.2.2.2.2.2.1 | exact hq.2.2.2.2.2.2.2.2.1 | exact hq.2.2.2.2.2.2.2.2.2.1 | exact hq.2.2.2.2.2.2.2.2.2.2.1 | exact hq.2.2.2.2.2.2.2.2.2.2.2.1 | clear hq)); done)
  k_with "law lt" => first | exact Nat.lt_succ_self _ | assumption | walk_at "law conj" | ((fail_if_success (with_reducible show _ < @OfNat.ofNat Nat _ _)); refine Nat.lt_succ_of_lt ?_; walk_at "law lt") | (refine' Nat.lt_trans ?la ?lb; (case lb => assumption); (case la => walk_at "law conj"))
  k_with "ne conj" => (rename @Ne Nat _ _ ∧ _ => hq; with_reducible first | exact hq.1 | exact hq.1.symm | exact hq.2 | exact hq.2.symm | exact hq.2.1 | exact hq.2.1.symm | exact hq.2.2 | exact hq.2.2.symm | exact hq.2.2.1 | exact hq.2.2.1.symm | exact hq.2.2.2 | exact hq.2.2.2.symm | exact hq.2.2.2.1 | exact hq.2.2.2.1.symm | exact hq.2.2.2.2 | exact hq.2.2.2.2.symm | exact hq.2.2.2.2.1 | exact hq.2.2.2.2.1.symm | exact hq.2.2.2.2.2 | exact hq.2.2.2.2.2.symm | exact hq.2.2.2.2.2.1 | exact hq.2.2.2.2.2.1.symm | exact hq.2.2.2.2.2.2 | exact hq.2.2.2.2.2.2.symm | exact hq.2.2.2.2.2.2.1 | exact hq.2.2.2.2.2.2.1.symm | exact hq.2.2.2.2.2.2.2 | exact hq.2.2.2.2.2.2.2.symm | exact hq.2.2.2.2.2.2.2.1 | exact hq.2.2.2.2.2.2.2.1.symm | exact hq.2.2.2.2.2.2.2.2 | exact hq.2.2.2.2.2.2.2.2.symm | exact hq.2.2.2.2.2.2.2.2.1 | exact hq.2.2.2.2.2.2.2.2.1.symm | exact hq.2.2.2.2.2.2.2.2.2 | exact hq.2.2.2.2.2.2.2.2.2.symm | (clear hq; walk_at "ne conj"))
  k_with "my ne" => (refine neN ?_; (try dsimp only); k_dflt (first | assumption | (refine Ne.symm ?_; assumption) | decide | (refine Nat.ne_of_lt ?_; walk_at "law lt") | (refine Nat.ne_of_gt ?_; walk_at "law lt") | omega))
  k_with "my room" => ((try simp only [depth_under_make, depth_under_kw, depth_in1, depth_deeper, depth_caller]); (try dsimp only [ktrTop]); (try simp only [Nat.add_assoc, Nat.reduceAdd]); first | decide | (refine' Nat.lt_of_le_of_lt ?le ?lt; (case lt => with_reducible assumption); (case le => exact Nat.add_le_add_left (Nat.le_of_ble_eq_true rfl) _)) | (refine' Nat.lt_of_le_of_lt ?le ?lt; (case lt => with_reducible assumption); (case le => exact Nat.le_add_right _ _)))
  k_with "my units" => ((try simp only [units_in1, units_deeper, Around.mark_units, units_caller]); (try dsimp only [ktrTop]); (try simp only [Nat.add_assoc, Nat.reduceAdd]); first | decide | (refine' Nat.lt_of_le_of_lt ?le ?lt; (case lt => with_reducible assumption); (case le => exact Nat.add_le_add_left (Nat.le_of_ble_eq_true rfl) _)) | (refine' Nat.lt_of_le_of_lt ?le ?lt; (case lt => with_reducible assumption); (case le => exact Nat.le_add_right _ _)))
  k_with "my all" => exact below_ne (by assumption)
  k_with "my all" => assumption
  k_with "my all" => exact below_ne (ktn_ltOf (by first | assumption | (simp only [*]; done)))
  k_with "eval Name" => (with_reducible refine gen_tok (fun tk9 => ?_))
  k_with "execs cons" => (with_reducible refine gen_tok (fun tk9 => ?_))
  k_with "eval Constant int" => (with_reducible refine gen_tok (fun tk9 => ?_))
  k_with "eval Call" => (with_reducible refine gen_tok (fun tk9 => ?_))
  k_with "exec If" => (with_reducible refine gen_tok (fun tk9 => ?_))
  k_with "ite" => (with_reducible refine gen_tok (fun tk9 => ?_))
  unfold Says KK PR
  k_fill
  intro dp un gd cn cs a ccd cl outer A₀ base h₀ L m s p loose mean mg mb Q E B F X N T hk hd hu hret
  refine wpAny_call ?_
  k_dflt cell_enter
  k_steps
  rename Fr _ _ _ _ => lF
  rename News _ _ _ _ => lN
  rename ∀ p ∈ news, _ => hlr
  rename_i r _ _
  rename IntsAre vs gs => hi
  with_unfolding_all refine loop_list (l := l) (vs := vs) (nn := n) (fun i m₁ nx => m₁ (Str.ofString "octets") = some (Value.ref r) ∧ m₁ (Str.ofString "gaps") = some (Value.ref l) ∧ m₁ (Str.ofString "size") = some (Value.int size tS) ∧ ∃ us k, nx = (r, listOf us.toArray k) :: news ∧ IntsAre us (octF size (gs.take i))) (by rfl) (.tail _ hm) lF lN ⟨by rfl, by rfl, by rfl, _, _, rfl, by simpa [octF] using IntsAre.nil⟩ ?_ ?_ ?_
  · rintro i m₁ nx hz1
    refine hide fun G₉ hG₉ => ?_
    obtain ⟨_, _, _, us, k, rfl, _⟩ := hz1
    refine hG₉ ?_
    clear hG₉ G₉
    exact .tail _ hm
  · rintro i v m₁ news₁ h₁ tk₁ oI hv hlt hoff hz2 F₁ N₁
    refine hide fun G₉ hG₉ => ?_
    obtain ⟨e1, e2, e3, us, k, rfl, hus⟩ := hz2
    obtain ⟨g, t, rfl, hgi⟩ := hi.at i v hv
    obtain ⟨hg1, hg2⟩ := hg g (List.mem_of_getElem? hgi)
    obtain ⟨hq1, hq2⟩ := fdiv_bd hg1 hg2 hs
    obtain ⟨hr1, hr2⟩ := fmod_bd (g := g) hs
    refine hG₉ ?_
    clear hG₉ G₉
    refine gen_Q fun Q₉ hQ₉ => ?_
    have F1 := fr_k3 (Str.ofString "octets") (Str.ofString "gaps") (Str.ofString "size") (by exact e1) (by exact e2) (by exact e3) F₁
    clear F₁ lF lN e1 e2 e3
    have hrI := hoff _ (.head _)
    dsimp only at hrI
    have hl1 := octF_len hs (gs := gs.take i) (fun x hx => hg x (List.mem_of_mem_take hx))
    have hl2 : (gs.take i).length ≤ 7 := by rw [List.length_take]; omega
    have hl3 := hus.length
    k_steps
    k_dflt (refine' extend_l ?F ?N ?b ?U ?ne ?z ?_; (case F => k_asm); (case N => k_asm); (case b => k_mem); (case U => k_upd))
    case ne => rename IntsAre _ (_ ++ [_]) => hw; rw [hw.length]; simp
    case z => rename IntsAre _ (_ ++ [_]) => hw; rw [hw.length]; simp; omega
    intro h' F' N'
    k_sweep
    k_steps
    rename IntsAre _ (_ ++ [_]) => hw
    rename_i ws _ _
    refine hQ₉ _ _ ?_
    refine turn_next ((r, listOf (us ++ ws).toArray (k + 1)) :: news) F' N' (by k_mem) ?_ ?_ ⟨rfl, rfl, rfl, _, _, rfl, ?_⟩
    · intro q hq
      rcases List.mem_cons.mp hq with rfl | hq
      · k_mem
      · simp [hq]
    · intro q hq
      rcases List.mem_cons.mp hq with rfl | hq
      · exact hrI
      · exact hoff q (.tail _ hq)
    · rw [List.take_add_one, hgi]
      simp only [Option.toList, octF_snoc]
      simpa using IntsAre.append hus hw
  · rintro m₁ nx h₁ tk₁ hz3 F₁ N₁
    refine hide fun G₉ hG₉ => ?_
    obtain ⟨e1, e2, e3, us, k, rfl, hus⟩ := hz3
    refine hG₉ ?_
    clear hG₉ G₉
    have F1 := fr_know (Str.ofString "octets") (by exact e1) F₁
    clear F₁ lF lN
    k_steps
    refine hret _ _ _ _ (by k_asm) (by k_asm) ⟨_, _, _, rfl, rfl, ?_, hlr⟩
    rw [hi.length, List.take_length] at hus
    exact hus
end
end
section
section
set_option maxRecDepth 100000 in
set_option maxHeartbeats 8000000 in
theorem signs_says (w : World) (l : Addr) (n : Nat) (vs : List Value) (gs : List Int) (size : Int) (tS : Tok) (news : Led) (hm : (l, listOf vs.toArray n) ∈ news) (hi : IntsAre vs gs) (hg : ∀ g ∈ gs, 0 ≤ g ∧ g < 60) (hs : 1 ≤ size) (hs2 : size ≤ 32) (hlen : gs.length ≤ 7) :
    Says w (.ref 131) [.ref l, .int size tS] [] 2 16 news (fun v news' => ∃ t, v = .str (TX (sigF size gs)) t ∧ news' = news) := by
  w_top off
  k_with_none
  k_with "law conj" => ((repeat (rename @LT.lt Nat _ _ _ ∧ _ => hq; first | exact hq.1 | exact hq.2.1 | exact hq.2.2.1 | exact hq.2.2.2.1 | exact hq.2.2.2.2.1 | exact hq.2.2.2.2.2.1 | exact hq.2.2.2.2.2.2.1 | exact hq.2.2.2.2.2.2.2.1 | exact hq.2.2.2.2.2.2.2.2.1 | exact hq.2.2.2.2.2.2.2.2.2.1 | exact hq.2.2.2.2.2.2.2.2.2.2.1 | exact hq.2.2.2.2.2.2.2.2.2.2.2.1 | clear hq)); done)
  k_with "law lt" => first | exact Nat.lt_succ_self _ | assumption | walk_at "law conj" | ((fail_if_success (with_reducible show _ < @OfNat.ofNat Nat _ _)); refine Nat.lt_succ_of_lt ?_; walk_at "law lt") | (refine' Nat.lt_trans ?la ?lb; (case lb => assumption); (case la => walk_at "law conj"))
  k_with "ne conj" => (rename @Ne Nat _ _ ∧ _ => hq; with_reducible first | exact hq.1 | exact hq.1.symm | exact hq.2 | exact hq.2.symm | exact hq.2.1 | exact hq.2.1.symm | exact hq.2.2 | exact hq.2.2.symm | exact hq.2.2.1 | exact hq.2.2.1.symm | exact hq.2.2.2 | exact hq.2.2.2.symm | exact hq.2.2.2.1 | exact hq.2.2.2.1.symm | exact hq.2.2.2.2 | exact hq.2.2.2.2.symm | exact hq.2.2.2.2.1 | exact hq.2.2.2.2.1.symm | exact hq.2.2.2.2.2 | exact hq.2.2.2.2.2.symm | exact hq.2.2.2.2.2.1 | exact hq.2.2.2.2.2.1.symm | exact hq.2.2.2.2.2.2 | exact hq.2.2.2.2.2.2.symm | exact hq.2.2.2.2.2.2.1 | exact hq.2.2.2.2.2.2.1.symm | exact hq.2.2.2.2.2.2.2 | exact hq.2.2.2.2.2.2.2.symm | exact hq.2.2.2.2.2.2.2.1 | exact hq.2.2.2.2.2.2.2.1.symm | exact hq.2.2.2.2.2.2.2.2 | exact hq.2.2.2.2.2.2.2.2.symm | exact hq.2.2.2.2.2.2.2.2.1 | exact hq.2.2.2.2.2.2.2.2.1.symm | exact hq.2.2.2.2.2.2.2.2.2 | exact hq.2.2.2.2.2.2.2.2.2.symm | (clear hq; walk_at "ne conj"))
  k_with "my ne" => (refine neN ?_; (try dsimp only); k_dflt (first | assumption | (refine Ne.symm ?_; assumption) | decide | (refine Nat.ne_of_lt ?_; walk_at "law lt") | (refine Nat.ne_of_gt ?_; walk_at "law lt") | omega))
  k_with "my room" => ((try simp only [depth_under_make, depth_under_kw, depth_in1, depth_deeper, depth_caller]); (try dsimp only [ktrTop]); (try simp only [Nat.add_assoc, Nat.reduceAdd]); first | decide | (refine' Nat.lt_of_le_of_lt ?le ?lt; (case lt => with_reducible assumption); (case le => exact Nat.add_le_add_left (Nat.le_of_ble_eq_true rfl) _)) | (refine' Nat.lt_of_le_of_lt ?le ?lt; (case lt => with_reducible assumption); (case le => exact Nat.le_add_right _ _)))
  k_with "my units" => ((try simp only [units_in1, units_deeper, Around.mark_units, units_caller]); (try dsimp only [ktrTop]); (try simp only [Nat.add_assoc, Nat.reduceAdd]); first | decide | (refine' Nat.lt_of_le_of_lt ?le ?lt; (case lt => with_reducible assumption); (case le => exact Nat.add_le_add_left (Nat.le_of_ble_eq_true rfl) _)) | (refine' Nat.lt_of_le_of_lt ?le ?lt; (case lt => with_reducible assumption); (case le => exact Nat.le_add_right _ _)))
  k_with "my all" => exact below_ne (by assumption)
  k_with "my all" => assumption
  k_with "my all" => exact below_ne (ktn_ltOf (by first | assumption | (simp only [*]; done)))
  k_with "eval ListComp" => (k_here; k_dflt (refine LCg.ListComp_U (F₀ := by k_asm) (by with_unfolding_all rfl) (by decide) (by rfl) (by decide) (by rfl) ?_))
  k_with "CompSrc" => (refine Hold.intro ?_)
  k_with "call ref" => (refine Hold.intro ?_)
  k_with "my use" => ((case B => k_asm); (case F => k_asm); (case X => k_asm); (case N => k_asm); (case T => k_asm); (case k => first | exact rfl | assumption); (case d => ktr_room); (case u => ktr_units))
  k_with "eval Name" => (with_reducible refine gen_tok (fun tk9 => ?_))
  k_with "execs cons" => (with_reducible refine gen_tok (fun tk9 => ?_))
  k_with "eval Constant int" => (with_reducible refine gen_tok (fun tk9 => ?_))
  k_with "eval Call" => (with_reducible refine gen_tok (fun tk9 => ?_))
  k_with "exec If" => (with_reducible refine gen_tok (fun tk9 => ?_))
  k_with "ite" => (with_reducible refine gen_tok (fun tk9 => ?_))
  unfold Says KK PR
  k_fill
  intro dp un gd cn cs a ccd cl outer A₀ base h₀ L m s p loose mean mg mb Q E B F X N T hk hd hu hret
  refine wpAny_call ?_
  k_dflt cell_enter
  k_steps
  refine Hold.out ?_
  k_dflt (refine' says_use (octets_says w l n vs gs size tS news hm hi hg hs hs2 hlen) ?B ?F ?X ?N ?T ?k ?d ?u ?_; walk_at "my use")
  rintro v news' h' tk' F' N' ⟨r, us, k, rfl, rfl, hus, hlt⟩
  k_steps
  refine Hold.out ?_
  have hlen2 := octF_len hs hg
  have hlen3 := hus.length
  k_dflt (refine' LCg.CompSrc.ledger ?hh ?F ?N ?m ?z ?_; (case hh => rfl); (case F => k_asm); (case N => k_asm); (case m => k_mem); (case z => (rw [sizeLine_eq, List.size_toArray]; omega)))
  intro g
  refine comp_map (StrAt ((octF size gs).map fun o => TX [o.toNat])) ?_ ?_
  · intro i v I oI C oC D m₂ ys h tk E' hin hv hC hx F N off ne
    have hv' : us[i]? = some v := by simpa using hv
    obtain ⟨g, t, rfl, hgi⟩ := hus.at i v hv'
    obtain ⟨hg1, hg2⟩ := octF_bd hs hs2 hg g (List.mem_of_getElem? hgi)
    k_steps
    refine LCg.CompEnd.intro (by k_asm) (by k_asm) _ (fun p hp => hp) off (.inr ⟨_, by k_mem, rfl, _, rfl⟩) ⟨⟨TX [g.toNat], _, by simp [hgi], rfl⟩, rfl⟩
  · intro ys hl hy
    k_steps
    rename Fr _ _ _ _ => lF
    rename News _ _ _ _ => lN
    have hS := strsAre_of (ys := ys) (zs := (octF size gs).map fun o => TX [o.toNat]) (by simp [hl, hlen3]) hy
    refine join_list (News.isList lN (by k_mem)) hS ?_ ?_
    · rw [List.map_map]
      have e : (octF size gs).map (Str.length ∘ fun o => TX [o.toNat]) = (octF size gs).map fun _ => 1 := by
        apply List.map_congr_left; intro o _; simp [TX_len]
      rw [e, sum_ones, TX_empty, TX_len]
      simp only [List.length_map, List.length_nil, Nat.mul_zero]
      omega
    intro t9 k9
    k_steps
    have e : (octF size gs).map (fun o => TX [o.toNat]) = ((octF size gs).map fun o => [o.toNat]).map TX := by simp
    have e2 : ((octF size gs).map fun o => [o.toNat]).flatten = sigF size gs := by
      unfold sigF
      induction octF size gs with
      | nil => rfl
      | cons x r ih => simp [ih]
    rw [e, join_TX, e2]
    rename News h₀ L _ _ => kN
    exact hret _ _ _ _ (by k_asm) (news_sub kN fun p hp => .tail _ (.tail _ hp)) ⟨t9, rfl, rfl⟩
end
end
section
section
set_option maxRecDepth 100000 in
set_option maxHeartbeats 8000000 in
theorem varint_ends (w : World) (it l : Addr) (nn : Nat) (vs : List Value) (i : Nat) (g : Obj → Led) (news : Led) (hU : UpdF it (iterO (.ref l) (i : Nat)) news g) (hl : (l, listOf vs.toArray nn) ∈ news) (hx : vs.length ≤ i) :
    SaysX w (.ref 53) [.ref it] 1 8 news (fun _ _ => False) (fun news' => news' = g (iterO .none (i : Nat))) := by
  w_top off
  k_with_none
  k_with "law conj" => ((repeat (rename @LT.lt Nat _ _ _ ∧ _ => hq; first | exact hq.1 | exact hq.2.1 | exact hq.2.2.1 | exact hq.2.2.2.1 | exact hq.2.2.2.2.1 | exact hq.2.2.2.2.2.1 | exact hq.2.2.2.2.2.2.1 | exact hq.2.2.2.2.2.2.2.1 | exact hq.2.2.2.2.2.2.2.2.1 | exact hq.2.2.2.2.2.2.2.2.2.1 | exact hq.2.2.2.2.2.2.2.2.2.2.1 | exact hq.2.2.2.2.2.2.2.2.2.2.2.1 | clear hq)); done)
  k_with "law lt" => first | exact Nat.lt_succ_self _ | assumption | walk_at "law conj" | ((fail_if_success (with_reducible show _ < @OfNat.ofNat Nat _ _)); refine Nat.lt_succ_of_lt ?_; walk_at "law lt") | (refine' Nat.lt_trans ?la ?lb; (case lb => assumption); (case la => walk_at "law conj"))
  k_with "ne conj" => (rename @Ne Nat _ _ ∧ _ => hq; with_reducible first | exact hq.1 | exact hq.1.symm | exact hq.2 | exact hq.2.symm | exact hq.2.1 | exact hq.2.1.symm | exact hq.2.2 | exact hq.2.2.symm | exact hq.2.2.1 | exact hq.2.2.1.symm | exact hq.2.2.2 | exact hq.2.2.2.symm | exact hq.2.2.2.1 | exact hq.2.2.2.1.symm | exact hq.2.2.2.2 | exact hq.2.2.2.2.symm | exact hq.2.2.2.2.1 | exact hq.2.2.2.2.1.symm | exact hq.2.2.2.2.2 | exact hq.2.2.2.2.2.symm | exact hq.2.2.2.2.2.1 | exact hq.2.2.2.2.2.1.symm | exact hq.2.2.2.2.2.2 | exact hq.2.2.2.2.2.2.symm | exact hq.2.2.2.2.2.2.1 | exact hq.2.2.2.2.2.2.1.symm | exact hq.2.2.2.2.2.2.2 | exact hq.2.2.2.2.2.2.2.symm | exact hq.2.2.2.2.2.2.2.1 | exact hq.2.2.2.2.2.2.2.1.symm | exact hq.2.2.2.2.2.2.2.2 | exact hq.2.2.2.2.2.2.2.2.symm | exact hq.2.2.2.2.2.2.2.2.1 | exact hq.2.2.2.2.2.2.2.2.1.symm | exact hq.2.2.2.2.2.2.2.2.2 | exact hq.2.2.2.2.2.2.2.2.2.symm | (clear hq; walk_at "ne conj"))
  k_with "my ne" => (refine neN ?_; (try dsimp only); k_dflt (first | assumption | (refine Ne.symm ?_; assumption) | decide | (refine Nat.ne_of_lt ?_; walk_at "law lt") | (refine Nat.ne_of_gt ?_; walk_at "law lt") | omega))
  k_with "my room" => ((try simp only [depth_under_make, depth_under_kw, depth_in1, depth_deeper, depth_caller]); (try dsimp only [ktrTop]); (try simp only [Nat.add_assoc, Nat.reduceAdd]); first | decide | (refine' Nat.lt_of_le_of_lt ?le ?lt; (case lt => with_reducible assumption); (case le => exact Nat.add_le_add_left (Nat.le_of_ble_eq_true rfl) _)) | (refine' Nat.lt_of_le_of_lt ?le ?lt; (case lt => with_reducible assumption); (case le => exact Nat.le_add_right _ _)))
  k_with "my units" => ((try simp only [units_in1, units_deeper, Around.mark_units, units_caller]); (try dsimp only [ktrTop]); (try simp only [Nat.add_assoc, Nat.reduceAdd]); first | decide | (refine' Nat.lt_of_le_of_lt ?le ?lt; (case lt => with_reducible assumption); (case le => exact Nat.add_le_add_left (Nat.le_of_ble_eq_true rfl) _)) | (refine' Nat.lt_of_le_of_lt ?le ?lt; (case lt => with_reducible assumption); (case le => exact Nat.le_add_right _ _)))
  k_with "my all" => exact below_ne (by assumption)
  k_with "my all" => assumption
  k_with "my all" => exact below_ne (ktn_ltOf (by first | assumption | (simp only [*]; done)))
  k_with "call builtin:next" => (refine Hold.intro ?_)
  k_with "exec While BinOp cons nil" => (refine Hold.intro ?_)
  k_with "eval Name" => (with_reducible refine gen_tok (fun tk9 => ?_))
  k_with "execs cons" => (with_reducible refine gen_tok (fun tk9 => ?_))
  k_with "eval Constant int" => (with_reducible refine gen_tok (fun tk9 => ?_))
  k_with "eval Call" => (with_reducible refine gen_tok (fun tk9 => ?_))
  k_with "exec If" => (with_reducible refine gen_tok (fun tk9 => ?_))
  k_with "ite" => (with_reducible refine gen_tok (fun tk9 => ?_))
  unfold SaysX KK PR
  k_fill
  intro dp un gd cn cs a ccd cl outer A₀ base h₀ L m s p loose mean mg mb Q E B F X N T hk hd hu hret hexc
  refine wpAny_call ?_
  k_dflt cell_enter
  k_steps
  refine Hold.out ?_
  k_dflt (refine' next_end ?hh ?F ?N hU hl hx ?_; (case hh => rfl); (case F => k_asm); (case N => k_asm))
  intro h₁ h' e F' N' hE
  k_steps
  rename Below _ _ _ _ => B'
  rename Fr h₀ L _ m => FG'
  k_dflt (refine' leave_stop ?K hE F' N' ?_ ?hk; (case K => k_asm); (case hk => rfl))
  · intro h2 hR hS
    exact hexc _ _ _ _ _ FG' hS hR rfl
theorem varint_reads (w : World) (it l : Addr) (nn : Nat) (vs : List Value) (octs : List Int) (i k : Nat) (r : Int) (rest : List Int) (g : Obj → Led) (news : Led) (hU : ∀ i, UpdF it (iterO (.ref l) (i : Nat)) (g (iterO (.ref l) (i : Nat))) g) (hl : ∀ o, (l, listOf vs.toArray nn) ∈ g o) (hn : news = g (iterO (.ref l) (i : Nat)))
    (hi : IntsAre vs octs) (hd : octs.drop i = List.replicate k 65 ++ r :: rest) (hr0 : 0 ≤ r) (hr1 : r < 64) (hk20 : k ≤ 20) :
    SaysX w (.ref 53) [.ref it] 1 8 news (fun v news' => ∃ t, v = Value.int (vW k * 64 + r) t ∧ news' = g (iterO (.ref l) ((i + k + 1 : Nat) : Int))) (fun _ => False) := by
  subst hn
  w_top off
  k_with_none
  k_with "law conj" => ((repeat (rename @LT.lt Nat _ _ _ ∧ _ => hq; first | exact hq.1 | exact hq.2.1 | exact hq.2.2.1 | exact hq.2.2.2.1 | exact hq.2.2.2.2.1 | exact hq.2.2.2.2.2.1 | exact hq.2.2.2.2.2.2.1 | exact hq.2.2.2.2.2.2.2.1 | exact hq.2.2.2.2.2.2.2.2.1 | exact hq.2.2.2.2.2.2.2.2.2.1 | exact hq.2.2.2.2.2.2.2.2.2.2.1 | exact hq.2.2.2.2.2.2.2.2.2.2.2.1 | clear hq)); done)
  k_with "law lt" => first | exact Nat.lt_succ_self _ | assumption | walk_at "law conj" | ((fail_if_success (with_reducible show _ < @OfNat.ofNat Nat _ _)); refine Nat.lt_succ_of_lt ?_; walk_at "law lt") | (refine' Nat.lt_trans ?la ?lb; (case lb => assumption); (case la => walk_at "law conj"))
  k_with "ne conj" => (rename @Ne Nat _ _ ∧ _ => hq; with_reducible first | exact hq.1 | exact hq.1.symm | exact hq.2 | exact hq.2.symm | exact hq.2.1 | exact hq.2.1.symm | exact hq.2.2 | exact hq.2.2.symm | exact hq.2.2.1 | exact hq.2.2.1.symm | exact hq.2.2.2 | exact hq.2.2.2.symm | exact hq.2.2.2.1 | exact hq.2.2.2.1.symm | exact hq.2.2.2.2 | exact hq.2.2.2.2.symm | exact hq.2.2.2.2.1 | exact hq.2.2.2.2.1.symm | exact hq.2.2.2.2.2 | exact hq.2.2.2.2.2.symm | exact hq.2.2.2.2.2.1 | exact hq.2.2.2.2.2.1.symm | exact hq.2.2.2.2.2.2 | exact hq.2.2.2.2.2.2.symm | exact hq.2.2.2.2.2.2.1 | exact hq.2.2.2.2.2.2.1.symm | exact hq.2.2.2.2.2.2.2 | exact hq.2.2.2.2.2.2.2.symm | exact hq.2.2.2.2.2.2.2.1 | exact hq.2.2.2.2.2.2.2.1.symm | exact hq.2.2.2.2.2.2.2.2 | exact hq.2.2.2.2.2.2.2.2.symm | exact hq.2.2.2.2.2.2.2.2.1 | exact hq.2.2.2.2.2.2.2.2.1.symm | exact hq.2.2.2.2.2.2.2.2.2 | exact hq.2.2.2.2.2.2.2.2.2.symm | (clear hq; walk_at "ne conj"))
  k_with "my ne" => (refine neN ?_; (try dsimp only); k_dflt (first | assumption | (refine Ne.symm ?_; assumption) | decide | (refine Nat.ne_of_lt ?_; walk_at "law lt") | (refine Nat.ne_of_gt ?_; walk_at "law lt") | omega))
  k_with "my room" => ((try simp only [depth_under_make, depth_under_kw, depth_in1, depth_deeper, depth_caller]); (try dsimp only [ktrTop]); (try simp only [Nat.add_assoc, Nat.reduceAdd]); first | decide | (refine' Nat.lt_of_le_of_lt ?le ?lt; (case lt => with_reducible assumption); (case le => exact Nat.add_le_add_left (Nat.le_of_ble_eq_true rfl) _)) | (refine' Nat.lt_of_le_of_lt ?le ?lt; (case lt => with_reducible assumption); (case le => exact Nat.le_add_right _ _)))
  k_with "my units" => ((try simp only [units_in1, units_deeper, Around.mark_units, units_caller]); (try dsimp only [ktrTop]); (try simp only [Nat.add_assoc, Nat.reduceAdd]); first | decide | (refine' Nat.lt_of_le_of_lt ?le ?lt; (case lt => with_reducible assumption); (case le => exact Nat.add_le_add_left (Nat.le_of_ble_eq_true rfl) _)) | (refine' Nat.lt_of_le_of_lt ?le ?lt; (case lt => with_reducible assumption); (case le => exact Nat.le_add_right _ _)))
  k_with "my all" => exact below_ne (by assumption)
  k_with "my all" => assumption
  k_with "my all" => exact below_ne (ktn_ltOf (by first | assumption | (simp only [*]; done)))
  k_with "call builtin:next" => (refine Hold.intro ?_)
  k_with "exec While BinOp cons nil" => (refine Hold.intro ?_)
  k_with "eval Name" => (with_reducible refine gen_tok (fun tk9 => ?_))
  k_with "execs cons" => (with_reducible refine gen_tok (fun tk9 => ?_))
  k_with "eval Constant int" => (with_reducible refine gen_tok (fun tk9 => ?_))
  k_with "eval Call" => (with_reducible refine gen_tok (fun tk9 => ?_))
  k_with "exec If" => (with_reducible refine gen_tok (fun tk9 => ?_))
  k_with "ite" => (with_reducible refine gen_tok (fun tk9 => ?_))
  unfold SaysX KK PR
  k_fill
  intro dp un gd cn cs a ccd cl outer A₀ base h₀ L m s p loose mean mg mb Q E B F X N T hk hd9 hu hret hexc
  refine wpAny_call ?_
  k_dflt cell_enter
  k_steps
  refine Hold.out ?_
  refine hide fun G₉ hG₉ => ?_
  obtain ⟨t0, ht0⟩ := ints_at hi (octs_at hd (Nat.zero_le k))
  refine hG₉ ?_
  clear hG₉ G₉
  k_dflt (refine' next_item ?F ?N (hU i) (hl _) (x := Value.int (vB k r 0) t0) ht0 ?_; (case F => k_asm); (case N => k_asm))
  intro h' F' N'
  k_sweep
  k_steps
  refine Hold.out ?_
  rename Fr _ _ _ _ => lF1
  rename News _ _ _ _ => lN1
  have hb0 : Builtin.bitAnd (vB k r 0) 63 = (if 0 < k then vW (0 + 1) else vW k * 64 + r) := by
    unfold vB; split
    · exact bitAnd_65_63
    · have : k = 0 := by omega
      subst this
      rw [bitAnd_63 hr0 hr1]; simp [vW]
  rw [hb0] at lF1
  with_unfolding_all refine While_inv2 (n₀ := k) (fun n m₁ nx => ∃ j, j ≤ k ∧ n = k - j ∧ nx = g (iterO (.ref l) ((i + j + 1 : Nat) : Int)) ∧ m₁ (Str.ofString "iterator") = some (Value.ref it) ∧ (∃ t, m₁ (Str.ofString "b") = some (Value.int (vB k r j) t)) ∧ (∃ t, m₁ (Str.ofString "val") = some (Value.int (if j < k then vW (j + 1) else vW k * 64 + r) t))) lF1 lN1 ⟨0, Nat.zero_le _, rfl, rfl, by rfl, ⟨_, by rfl⟩, ⟨_, by rfl⟩⟩ ?_ ?_
  · rintro n m₁ nx h₁ tk₁ F₁ N₁ hz1
    refine hide fun G₉ hG₉ => ?_
    obtain ⟨j, hj, rfl, rfl, e1, ⟨tb, e2⟩, tv, e3⟩ := hz1
    refine hG₉ ?_
    clear hG₉ G₉
    refine gen_W fun W₉ R₉ hW₉ hR₉ => ?_
    by_cases hjk : j < k
    · rw [if_pos hjk] at e3
      rw [show vB k r j = 65 from if_pos hjk] at e2
      have F1 := fr_k3 (Str.ofString "iterator") (Str.ofString "b") (Str.ofString "val") (by exact e1) (by exact e2) (by exact e3) F₁
      clear F₁ lF1 lN1 e1 e2 e3
      have hbt := bitAnd_65_64
      k_steps
      refine ilshift_int (by decide) ?_ ?_
      · have := vW_bits (k := j + 1) (by omega); omega
      have hsh : vW (j + 1) * 2 ^ (6 : Int).toNat = vW (j + 1) * 64 := rfl
      rw [hsh]
      k_steps
      refine Hold.out ?_
      refine hide fun G₉ hG₉ => ?_
      obtain ⟨t1, ht1⟩ := ints_at hi (octs_at hd (show j + 1 ≤ k by omega))
      refine hG₉ ?_
      clear hG₉ G₉
      k_dflt (refine' next_item ?F ?N (hU (i + j + 1)) (hl _) (x := Value.int (vB k r (j + 1)) t1) ht1 ?_; (case F => k_asm); (case N => k_asm))
      intro h' F' N'
      k_sweep
      k_steps
      have he : Builtin.bitOr (vW (j + 1) * 64) (Builtin.bitAnd (vB k r (j + 1)) 63) = if j + 1 < k then vW (j + 1 + 1) else vW k * 64 + r := by
        unfold vB; split
        · rw [bitAnd_65_63, bitOr_hi (vW_nn _) (by decide) (by decide)]; rfl
        · have : k = j + 1 := by omega
          subst this
          rw [bitAnd_63 hr0 hr1, bitOr_hi (vW_nn _) hr0 hr1]
      rename Fr _ _ _ _ => lF2
      rename News _ _ _ _ => lN2
      rw [he] at lF2
      exact hW₉ _ _ (while_next (n' := k - (j + 1)) lF2 lN2 (by omega) ⟨j + 1, by omega, rfl, rfl, by rfl, ⟨_, by rfl⟩, ⟨_, by rfl⟩⟩)
    · rw [if_neg hjk] at e3
      rw [show vB k r j = r from if_neg hjk] at e2
      have F1 := fr_k3 (Str.ofString "iterator") (Str.ofString "b") (Str.ofString "val") (by exact e1) (by exact e2) (by exact e3) F₁
      clear F₁ lF1 lN1 e1 e2 e3
      have hbt := bitAnd_64 hr0 hr1
      k_steps
      · exact absurd hbt (by assumption)
      · refine hR₉ _ ?_
        k_steps
        have hjk2 : j = k := by omega
        subst hjk2
        exact hret _ _ _ _ (by k_asm) (by k_asm) ⟨_, rfl, rfl⟩
  · exact PassesOwn.leaving
end
end
section
open PySem PySem.W PyProof.Rows PySem.Calls
set_option maxRecDepth 100000
section
section
variable {prog : Program} {w : World} {A₀ A : Around} {s : Shared} {base h₀ : Heap} {L : Addr} {m : Str → Option Value} {env : Env} {news : Led} {K : Frag} {p : Program} {loose : List Str} {mean : ExcName → Option Value} {mg mb : Str → Option Value}
  {R : Result → Shared → Prop} {name qual : Str} {params : Arguments} {body : List Stmt} {scope : Scope} {dV kV doc pm cdv ct oc : Value} {an od : Option Addr} {osl : Array (Option Value)} {f : Addr} {args : Args} {binds : List (Str × Value)}
/-- a def that catches within itself, called by the law -/
theorem code_defSX (B : Below A₀ base [] h₀) (F : Fr h₀ L s.heap m) (X₀ : K.In h₀) (N : News h₀ L s.heap news) (T : Top p loose mean mg mb h₀) (hA : A.frames = some [env]) (hf : env.frame = some L) (hke : env.scope.kind = .function)
    (ho : K.lookup f = some ⟨oc, od, .func (fnOf name qual params body scope dV kV doc pm an cdv ct), osl⟩) (hcd : codeIn K cdv qual = true) (hroom : A.depth < recursionLimit)
    (hbind : BindsTo s (fnOf name qual params body scope dV kV doc pm an cdv ct) args binds) (hloc : ∀ y ∈ binds, scope.names.lookup y.1 = some .local)
    (h : ∀ g L' h₁, Fr g L' h₁ (fun y => binds.reverse.lookup y) → News g L' h₁ news → Below A base [env] g → K.In g → Top p loose mean mg mb g → KtsDicts ([env].filterMap (·.frame)) g →
      wpAny (model prog w) (A.deeper (envOf qual scope L' f cdv)) (execs body (envOf qual scope L' f cdv))
        (fun fl s' => LeaveS0 ([env].filterMap (·.frame)) h₀ L m g R (match fl with | .ret v => v | _ => .none) s')
        (fun e s' => wpAny (model prog w) (A.deeper (envOf qual scope L' f cdv)) (leaving (envOf qual scope L' f cdv) e) (fun _ s'' => R (.error e) s'') (fun e' s'' => R (.error e') s'') s')
        { s with heap := h₁, toks := s.toks + binds.length })
    (hco : scope.isCoroutine = false) (hgen : scope.isGenerator = false) (hk : scope.kind = .function)
    (hcell : ∀ x ∈ scope.names, x.2 ≠ .cell) : codeAny (model prog w) A (.call (.ref f) args) R s := by
  obtain ⟨FG, BG, st, _⟩ := groundX (R := R) B F N hA hf hke
  have X := X₀.keeps F.keep
  have hfs : ∀ b, b ∈ [env].filterMap (·.frame) → b = L := fun b hb => by
    obtain ⟨e, he, hf'⟩ := List.mem_filterMap.mp hb
    rw [List.mem_singleton.mp he, hf] at hf'
    exact (Option.some.inj hf').symm
  refine codeAny_call_def (fd := fnOf name qual params body scope dV kV doc pm an cdv ct) (body := body) (binds := binds) hroom (X _ _ ho) rfl (T.nolimit.keeps F.keep) (codeRec_of X hcd) rfl hbind hcell hloc (fun h₁ hns hk₁ => ?_) hco hgen hk
  obtain ⟨oL, es, ep, hLg, hLd, hLk, hLf⟩ := FG.ns
  refine wpAny_mono (h _ s.heap.objs.size h₁ ⟨hns, fun b o e => hk₁ b o (of_hideAll _ e), Nat.le_of_eq (hideAll_size _ _)⟩
    (fun p hp => ⟨hk₁ _ _ (N p hp).1, Nat.ne_of_lt (Heap.lt_size (N p hp).1), hideAll_none _ (List.mem_map_of_mem hp)⟩) BG (X₀.keeps st) (T.keeps st) (fun b hb => by
      rw [hfs b hb]; exact ⟨oL, es, ep, hLg, hLd⟩)) (fun fl s' hl => ?_) fun _ _ y => y
  obtain ⟨g', L', m', news', T', F', N', k⟩ := hl
  have nL₀ : h₀.get? L = none := kts_self F
  obtain ⟨sl, hs⟩ := T'.up hLg
  refine k ⟨⟨_, es, ep, F'.keep _ _ hs, hLd, hLk, hLf⟩, fun b o e => F'.keep b o (T'.other b o (st b o e) (fun q => by
    rw [hfs b q, nL₀] at e; cases e)), F.above⟩ fun p hp => ⟨(N' p hp).1, fun q => ?_, ?_⟩
  · have := (N' p hp).2.2; rw [q, hs] at this; cases this
  · cases q : h₀.get? p.1 with
    | none => rfl
    | some o =>
      obtain ⟨sl', hs'⟩ := T'.up (st _ _ q)
      have := (N' p hp).2.2
      rw [hs'] at this
      cases this
end
section
variable {prog : Program} {w : World} {A : Around} {E : Value → Shared → Prop} {s : Shared} {h₀ : Heap} {L : Addr} {m : Str → Option Value} {news : Led}
theorem len_l {D : Addr} {vs : List Value} {c : Nat} {Q : Value → Shared → Prop} (N : News h₀ L s.heap news) (hm : (D, listOf vs.toArray c) ∈ news) (hf : vs.length < 2 ^ 62) (h : Q (.int (vs.length : Nat) (s.toks + 1)) { s with toks := s.toks + 1 + 1 }) :
    wpAny (model prog w) A (call (.builtin "len") [.ref D]) Q E s := KM.len_K N hm (by simp) hf h
theorem append_l {D : Addr} {us : List Value} {n : Nat} {y : Value} {news' : Led} {Q : Value → Shared → Prop} (F : Fr h₀ L s.heap m) (N : News h₀ L s.heap news) (U : Upd D (listOf us.toArray n) (listOf (us ++ [y]).toArray (n + 1)) news news') (hz : us.length ≤ 2 ^ 20)
    (h : ∀ h', Fr h₀ L h' m → News h₀ L h' news' → Q .none { s with heap := h' }) : wpAny (model prog w) A (call (.builtin "list.append") [.ref D, y]) Q E s := by
  have e : listOf (us ++ [y]).toArray (n + 1) = listOf (us.toArray.push y) (n + 1) := by simp
  rw [e] at U
  refine append_K F N U h ?_
  have h24 : (2:Nat) ^ 20 ≤ 16777216 := by decide
  simp [sizeLine]; lia
end
theorem saysX_use {w : World} {f : Value} {vs : List Value} {D U : Nat} {news : Led} {R : Value → Led → Prop} {Z : Led → Prop} (C : SaysX w f vs D U news R Z)
    {dp un : Nat} {gd : Option (List Code)} {cn : Str} {cs : Scope} {a : Addr} {ccd : Value} {cl : List (Str × Addr)} {outer : List Env} {A₀ : Around} {base h₀ : Heap} {L : Addr} {m : Str → Option Value} {s : Shared} {p : Program} {loose : List Str} {mean : ExcName → Option Value} {mg mb : Str → Option Value} {Q E : Value → Shared → Prop}
    (B : Below A₀ base outer h₀) (F : Fr h₀ L s.heap m) (X : (KK w).In h₀) (N : News h₀ L s.heap news) (T : Top p loose mean mg mb h₀) (hk : cs.kind = .function) (hd : dp + D < recursionLimit) (hu : un + U < cLine)
    (ret : ∀ v news' h' tk', Fr h₀ L h' m → News h₀ L h' news' → R v news' → Q v { s with heap := h', toks := tk' })
    (exc : ∀ e news' G h' tk', Fr h₀ L G m → G.UpToSlots h' → RaisedSN base G (envX cn cs L a ccd cl :: outer) e (.type "StopIteration") news' h' → Z news' → E (.ref e) { s with heap := h', toks := tk' }) :
    wpAny (model PR w) (ktrTop dp un gd cn cs L a ccd cl outer) (call f vs []) Q E s := C _ _ _ _ _ _ _ _ _ _ _ _ _ _ _ _ _ _ _ _ _ _ B F X N T hk hd hu ret exc
/-- a contract of a call that the law itself makes -/
noncomputable def SaysL (w : World) (f : Value) (vs : List Value) (D U : Nat) (news : Led) (R : Value → Led → Prop) : Prop :=
  ∀ (dp un : Nat) (gd : Option (List Code)) (cn : Str) (cs : Scope) (a : Addr) (ccd : Value) (cl : List (Str × Addr)) (A₀ : Around) (h₀ : Heap) (L : Addr) (m : Str → Option Value) (s : Shared) (p : Program) (loose : List Str) (mean : ExcName → Option Value) (mg mb : Str → Option Value) (Q E : Value → Shared → Prop),
    Below A₀ h₀ [] h₀ → Fr h₀ L s.heap m → (KK w).In h₀ → News h₀ L s.heap news → Top p loose mean mg mb h₀ → cs.kind = .function → dp + D < recursionLimit → un + U < cLine →
    (∀ v news' h' tk', Fr h₀ L h' m → News h₀ L h' news' → R v news' → Q v { s with heap := h', toks := tk' }) →
    wpAny (model PR w) (ktrTop dp un gd cn cs L a ccd cl []) (call f vs []) Q E s
end
end
section
section
noncomputable def numF (size g : Int) : Int := vW (Int.fdiv g size).toNat * 64 + Int.fmod g size
set_option maxRecDepth 100000 in
set_option maxHeartbeats 8000000 in
theorem read_says (w : World) (l : Addr) (nn : Nat) (vs : List Value) (gs : List Int) (size : Int) (news : Led) (hl : (l, listOf vs.toArray nn) ∈ news)
    (hi : IntsAre vs (octF size gs)) (hg : ∀ g ∈ gs, 0 ≤ g ∧ g < 20) (hs : 1 ≤ size) (hs2 : size ≤ 32) (hlen : gs.length ≤ 7) :
    SaysL w (.ref 145) [.ref l] 3 24 news (fun v news' => ∃ r us k, v = .ref r ∧ news' = (r, listOf us.toArray k) :: news ∧ IntsAre us (gs.map (numF size)) ∧ ∀ p ∈ news, p.1 < r) := by
  w_top off
  k_with_none
  k_with "law conj" => ((repeat (rename @LT.lt Nat _ _ _ ∧ _ => hq; first | exact hq.1 | exact hq.2.1 | exact hq.2.2.1 | exact hq.2.2.2.1 | exact hq.2.2.2.2.1 | exact hq.2.2.2.2.2.1 | exact hq.2.2.2.2.2.2.1 | exact hq.2.2.2.2.2.2.2.1 | exact hq.2.2.2.2.2.2.2.2.1 | exact hq.2.2.2.2.2.2.2.2.2.1 | exact hq.2.2.2.2.2.2.2.2.2.2.1 | exact hq.2.2.2.2.2.2.2.2.2.2.2.1 | clear hq)); done)
  k_with "law lt" => first | exact Nat.lt_succ_self _ | assumption | walk_at "law conj" | ((fail_if_success (with_reducible show _ < @OfNat.ofNat Nat _ _)); refine Nat.lt_succ_of_lt ?_; walk_at "law lt") | (refine' Nat.lt_trans ?la ?lb; (case lb => assumption); (case la => walk_at "law conj"))
  k_with "ne conj" => (rename @Ne Nat _ _ ∧ _ => hq; with_reducible first | exact hq.1 | exact hq.1.symm | exact hq.2 | exact hq.2.symm | exact hq.2.1 | exact hq.2.1.symm | exact hq.2.2 | exact hq.2.2.symm | exact hq.2.2.1 | exact hq.2.2.1.symm | exact hq.2.2.2 | exact hq.2.2.2.symm | exact hq.2.2.2.1 | exact hq.2.2.2.1.symm | exact hq.2.2.2.2 | exact hq.2.2.2.2.symm | exact hq.2.2.2.2.1 | exact hq.2.2.2.2.1.symm | exact hq.2.2.2.2.2 | exact hq.2.2.2.2.2.symm | exact hq.2.2.2.2.2.1 | exact hq.2.2.2.2.2.1.symm | exact hq.2.2.2.2.2.2 | exact hq.2.2.2.2.2.2.symm | exact hq.2.2.2.2.2.2.1 | exact hq.2.2.2.2.2.2.1.symm | exact hq.2.2.2.2.2.2.2 | exact hq.2.2.2.2.2.2.2.symm | exact hq.2.2.2.2.2.2.2.1 | exact hq.2.2.2.2.2.2.2.1.symm | exact hq.2.2.2.2.2.2.2.2 | exact hq.2.2.2.2.2.2.2.2.symm | exact hq.2.2.2.2.2.2.2.2.1 | exact hq.2.2.2.2.2.2.2.2.1.symm | exact hq.2.2.2.2.2.2.2.2.2 | exact hq.2.2.2.2.2.2.2.2.2.symm | (clear hq; walk_at "ne conj"))
  k_with "my ne" => (refine neN ?_; (try dsimp only); k_dflt (first | assumption | (refine Ne.symm ?_; assumption) | decide | (refine Nat.ne_of_lt ?_; walk_at "law lt") | (refine Nat.ne_of_gt ?_; walk_at "law lt") | omega))
  k_with "my room" => ((try simp only [depth_under_make, depth_under_kw, depth_in1, depth_deeper, depth_caller]); (try dsimp only [ktrTop]); (try simp only [Nat.add_assoc, Nat.reduceAdd]); first | decide | (refine' Nat.lt_of_le_of_lt ?le ?lt; (case lt => with_reducible assumption); (case le => exact Nat.add_le_add_left (Nat.le_of_ble_eq_true rfl) _)) | (refine' Nat.lt_of_le_of_lt ?le ?lt; (case lt => with_reducible assumption); (case le => exact Nat.le_add_right _ _)))
  k_with "my units" => ((try simp only [units_in1, units_deeper, Around.mark_units, units_caller]); (try dsimp only [ktrTop]); (try simp only [Nat.add_assoc, Nat.reduceAdd]); first | decide | (refine' Nat.lt_of_le_of_lt ?le ?lt; (case lt => with_reducible assumption); (case le => exact Nat.add_le_add_left (Nat.le_of_ble_eq_true rfl) _)) | (refine' Nat.lt_of_le_of_lt ?le ?lt; (case lt => with_reducible assumption); (case le => exact Nat.le_add_right _ _)))
  k_with "my all" => exact below_ne (by assumption)
  k_with "my all" => assumption
  k_with "my all" => exact below_ne (ktn_ltOf (by first | assumption | (simp only [*]; done)))
  k_with "call builtin:iter" => (refine Hold.intro ?_)
  k_with "call ref" => (refine Hold.intro ?_)
  k_with "exec While Compare cons nil" => (refine Hold.intro ?_)
  k_with "call builtin:len" => (k_here; (with_reducible show wpAny _ _ (call (Value.builtin "len") [Value.ref _]) _ _ _); k_dflt (refine' len_l ?N ?m ?z ?_; (case N => k_asm); (case m => k_mem); (case z => first | omega | (simp only [List.length_append, List.length_cons, List.length_nil, List.length_map, List.length_take]; omega))))
  k_with "my use" => ((case B => k_asm); (case F => k_asm); (case X => k_asm); (case N => k_asm); (case T => k_asm); (case k => first | exact rfl | assumption); (case d => ktr_room); (case u => ktr_units))
  k_with "call builtin:list.append" => (k_here; (with_reducible show wpAny _ _ (call (Value.builtin _) [Value.ref _, _]) _ _ _); k_dflt (refine' append_l ?F ?N ?U ?z ?_; (case F => k_asm); (case N => k_asm); (case U => k_upd); (case z => first | omega | (simp only [List.length_append, List.length_cons, List.length_nil, List.length_map, List.length_take]; omega)); k_whole); intro _ _ _; (try k_sweep))
  k_with "eval Name" => (with_reducible refine gen_tok (fun tk9 => ?_))
  k_with "execs cons" => (with_reducible refine gen_tok (fun tk9 => ?_))
  k_with "eval Constant int" => (with_reducible refine gen_tok (fun tk9 => ?_))
  k_with "eval Call" => (with_reducible refine gen_tok (fun tk9 => ?_))
  k_with "exec If" => (with_reducible refine gen_tok (fun tk9 => ?_))
  k_with "ite" => (with_reducible refine gen_tok (fun tk9 => ?_))
  unfold SaysL KK PR
  k_fill
  intro dp un gd cn cs a ccd cl A₀ h₀ L m s p loose mean mg mb Q E B F X N T hk hd hu hret
  refine wpAny_call ?_
  k_dflt (refine' code_defSX ?k1 ?k2 ?k3 ?k4 ?k5 ?kA ?kF ?kK ?k6 ?k7 ?k8 ?k9 ?kB ?_ ?c2 ?c3 ?c4 ?c5; (case kA => exact rfl); (case kF => exact rfl); (case kK => assumption); (case k1 => k_asm); (case k2 => k_asm); (case k3 => k_asm); (case k4 => k_asm); (case k5 => k_asm); (case k6 => k_is); (case k7 => k_is); (case k8 => ktr_room); (case k9 => exact BindsTo.of_eq rfl); (case c5 => decide); (case kB => exact locs rfl); (case c2 => exact rfl); (case c3 => exact rfl); (case c4 => exact rfl); k_whole; intro g' L' h' F' N' B' X' T' KD'; (try dsimp only); (try k_fold))
  k_steps
  refine Hold.out ?_
  k_dflt (refine' iter_l ?F ?N hl ?_; (case F => k_asm); (case N => k_asm))
  intro I h' F' N' hI
  k_sweep
  k_steps
  refine Hold.out ?_
  rename Fr _ _ _ _ => lF1
  rename News _ _ _ _ => lN1
  rename _ ∧ AllLt _ _ => hnI
  rename_i r _ _
  have hrn : ∀ p ∈ news, p.1 ≠ r := below_ne (ktn_ltOf hnI.2)
  have hIn : ∀ p ∈ news, p.1 ≠ I := below_ne hI
  have hrI : r ≠ I := Nat.ne_of_gt hnI.1
  with_unfolding_all refine While_inv2 (n₀ := gs.length + 1) (fun n m₁ nx => ∃ j us k, j ≤ gs.length ∧ n = gs.length + 1 - j ∧ nx = (r, listOf us.toArray k) :: (I, iterO (.ref l) (((octF size (gs.take j)).length : Nat) : Int)) :: news ∧ IntsAre us ((gs.take j).map (numF size)) ∧ m₁ (Str.ofString "left") = some (Value.ref I) ∧ m₁ (Str.ofString "numbers") = some (Value.ref r)) lF1 lN1 ⟨0, [], 0, Nat.zero_le _, rfl, rfl, .nil, by rfl, by rfl⟩ ?_ ?_
  · intro n m₁ nx h₁ tk₁ F₁ N₁ hJ
    refine hide fun G₉ hG₉ => ?_
    obtain ⟨j, us, k, hj, hne, rfl, hus, e1, e2⟩ := hJ
    have F1 := fr_k2 (Str.ofString "left") (Str.ofString "numbers") (by exact e1) (by exact e2) F₁
    clear F₁ lF1 lN1 e1 e2
    refine hG₉ ?_
    clear hG₉ G₉
    refine gen_W fun W₉ R₉ hW₉ hR₉ => ?_
    have hul := hus.length
    rw [List.length_map, List.length_take] at hul
    k_steps
    refine Hold.out ?_
    have hUf : ∀ i : Nat, UpdF I (iterO (.ref l) (i : Nat)) ((fun o => (r, listOf us.toArray k) :: (I, o) :: news) (iterO (.ref l) (i : Nat))) (fun o => (r, listOf us.toArray k) :: (I, o) :: news) := fun i => .tail hrI (.head hIn)
    have hlm : ∀ o, (l, listOf vs.toArray nn) ∈ (fun o => (r, listOf us.toArray k) :: (I, o) :: news) o := fun o => .tail _ (.tail _ hl)
    by_cases hjl : j < gs.length
    · refine hide fun G₉ hG₉ => ?_
      obtain ⟨g, hgj⟩ : ∃ g, gs[j]? = some g := ⟨gs[j], List.getElem?_eq_getElem hjl⟩
      obtain ⟨hg1, hg2⟩ := hg g (List.mem_of_getElem? hgj)
      obtain ⟨hq1, hq2⟩ := fdiv_bd hg1 hg2 hs
      obtain ⟨hr1, hr2⟩ := fmod_bd (g := g) hs
      refine hG₉ ?_
      clear hG₉ G₉
      k_dflt (refine' saysX_use (varint_reads w I l nn vs (octF size gs) ((octF size (gs.take j)).length) (Int.fdiv g size).toNat (Int.fmod g size) _ (fun o => (r, listOf us.toArray k) :: (I, o) :: news) _ hUf hlm rfl hi ((octF_drop size gs j).trans (octF_at hgj)) hr1 (by omega) (by omega)) ?B ?F ?X ?N ?T ?k ?d ?u ?_ ?_; walk_at "my use")
      · rintro v news' h' tk' F' N' hz1
        refine hide fun G₉ hG₉ => ?_
        obtain ⟨t, rfl, rfl⟩ := hz1
        refine hG₉ ?_
        clear hG₉ G₉
        k_sweep
        k_steps
        rename Fr _ _ _ _ => lF2
        rename News _ _ _ _ => lN2
        have ht1 : gs.take (j + 1) = gs.take j ++ [g] := by rw [List.take_add_one, hgj]; rfl
        have ht2 : (octF size (gs.take j)).length + (Int.fdiv g size).toNat + 1 = (octF size (gs.take (j + 1))).length := by
          rw [ht1, octF_snoc]; simp; omega
        rw [ht2] at lN2
        refine hW₉ _ _ (while_next (n' := gs.length + 1 - (j + 1)) lF2 lN2 (by omega) ⟨j + 1, _, _, by omega, rfl, rfl, ?_, by rfl, by rfl⟩)
        rw [ht1, List.map_append]
        exact IntsAre.append hus (.cons _ _ .nil)
      · intro e news' G h' tk' _ _ _ hz
        exact hz.elim
    · have hjl2 : j = gs.length := by omega
      subst hjl2
      k_dflt (refine' saysX_use (varint_ends w I l nn vs ((octF size (gs.take gs.length)).length) (fun o => (r, listOf us.toArray k) :: (I, o) :: news) _ (hUf _) (hlm _) ?hx) ?B ?F ?X ?N ?T ?k ?d ?u ?_ ?_; walk_at "my use")
      case hx => rw [List.take_length, hi.length]; exact Nat.le_refl _
      · intro v news' h' tk' _ _ hz
        exact hz.elim
      · rintro e news' G h' tk' FG hS hR rfl
        k_dflt (refine' caught_SN0 (T' := "StopIteration") hR FG B' hS X T KD' (KtsTurn.refl) ?ex ?hv ?hn ?he ?ht ?hsub ?_ ?q1 ?q2 ?q3 ?q4)
        case ex => k_is
        case hv => exact PyProof.Rows.Boot.«StopIteration»
        case hn => decide +kernel
        case he => rw [isSubtype_type]; kernel_rfl
        case ht => rw [show ((Manifest.find? "StopIteration").elim "type" fun x => x.metatype) = "type" from by kernel_rfl, isSubtype_type]; kernel_rfl
        case hsub => rw [isSubtype_type]; kernel_rfl
        case q1 => rfl
        case q2 => rfl
        case q3 => decide
        case q4 => with_unfolding_all passes_own
        intro h2 g2 T2 F2 N2 B2 X2 P2 D2
        clear hS hR FG F1 N₁ B' X' T' KD'
        k_steps
        refine hW₉ _ _ ?_
        show qk (Flow.ret (Value.ref r)) _
        dsimp only [qk]
        show LeaveS0 ([envX cn cs L a ccd cl].filterMap (·.frame)) h₀ L m g' _ (Value.ref r) _
        refine leaveS0_ F2 N2 T2 (fun kF kN => ?_)
        rw [List.take_length] at hus
        exact hret _ _ _ _ kF (news_sub kN fun p hp => by
          rcases List.mem_cons.mp hp with rfl | hp
          · exact .head _
          · exact .tail _ (.tail _ hp)) ⟨r, us, k, rfl, rfl, hus, ktn_ltOf hnI.2⟩
  · exact PassesOwn.leaving
end
end
section
open PySem PySem.W PyProof.Rows PySem.StrLaws
set_option maxRecDepth 100000
section
section
variable {prog : Program} {w : World} {A : Around} {E : Value → Shared → Prop} {s : Shared} {h₀ : Heap} {L : Addr} {m : Str → Option Value} {news : Led}
theorem len_TX {l : List Nat} {t : Tok} {Q : Value → Shared → Prop} (hf : l.length < 2 ^ 62) (h : Q (.int (l.length : Nat) (s.toks + 1)) { s with toks := s.toks + 1 + 1 }) : wpAny (model prog w) A (call (.builtin "len") [.str (TX l) t]) Q E s := by
  refine PySem.P.len_str ?_ ?_
  · rw [TX_len]; lia
  · rw [TX_len]; exact h
theorem truthy_TX {l : List Nat} {t : Tok} {Q : Bool → Shared → Prop} (hf : l.length < 2 ^ 62) (h : Q (!l.isEmpty) { s with toks := s.toks + 1 + 1 }) : wpAny (model prog w) A (truthy (.str (TX l) t)) Q E s := by
  refine PySem.P.truthy_str ?_ ?_
  · rw [TX_len]; lia
  · rw [TX_len]
    have e : ((l.length : Int) != 0) = !l.isEmpty := by
      cases l with
      | nil => rfl
      | cons _ _ => simp; lia
    rw [e]; exact h
theorem del_l {D : Addr} {vs vs' : List Value} {n k : Nat} {i : Int} {u : Tok} {news' : Led} {Q : Unit → Shared → Prop} (F : Fr h₀ L s.heap m) (N : News h₀ L s.heap news) (he : vs.eraseIdx k = vs') (U : Upd D (listOf vs.toArray n) (listOf vs'.toArray (n + 1)) news news')
    (hfit : Builtin.List.listFitsIndex i = true) (hk : seqIndex? i vs.length = some k) (hlt : k < vs.length) (hz : vs.length ≤ 2 ^ 20)
    (h : ∀ h', Fr h₀ L h' m → News h₀ L h' news' → Q () { s with heap := h' }) : wpAny (model prog w) A (delItem (.ref D) (.int i u)) Q E s := by
  subst he
  obtain ⟨pre, post, rfl, rfl, a, c⟩ := U.split
  have z := N (D, listOf vs.toArray n) (List.mem_append.mpr (.inr (.head _)))
  have h24 : (2:Nat) ^ 20 ≤ 16777216 := by decide
  refine PySem.P.delItem_list z.1 hfit (by rw [List.size_toArray]; exact hk) (h _ (F.change (Heap.SameBut.update ..) z.2.1 z.2.2) (kl_turn _ N a c ?_ ?_)) (by rw [List.size_toArray, sizeLine_eq]; lia)
  · simp [hlt]
  · simp [List.length_eraseIdx, hlt]; lia
end
end
end
section
section
set_option maxRecDepth 100000 in
set_option maxHeartbeats 8000000 in
theorem match_says (w : World) (P1 P2 G : List Nat) (t1 t2 : Tok) (news : Led) (h1 : ∀ c ∈ P1, c ≠ 46) (h2 : ∀ c ∈ P2, c ≠ 46) (h3 : ∀ c ∈ dotsF P1 P2, c < 128) (l1 : P1.length ≤ 1000) (l2 : P2.length ≤ 1000) (l3 : G.length ≤ 1000) (n1 : P1 ≠ []) (n2 : P2 ≠ []) :
    Says w (.ref 28) [.str (TX (dotsF P1 P2)) t1, .str (TX (G ++ P2)) t2] [] 1 8 news (fun v news' => v = Value.bool (hasF P1 G) ∧ news' = news) := by
  w_top off
  k_with_none
  k_with "law conj" => ((repeat (rename @LT.lt Nat _ _ _ ∧ _ => hq; first | exact hq.1 | exact hq.2.1 | exact hq.2.2.1 | exact hq.2.2.2.1 | exact hq.2.2.2.2.1 | exact hq.2.2.2.2.2.1 | exact hq.2.2.2.2.2.2.1 | exact hq.2.2.2.2.2.2.2.1 | exact hq.2.2.2.2.2.2.2.2.1 | exact hq.2.2.2.2.2.2.2.2.2.1 | exact hq.2.2.2.2.2.2.2.2.2.2.1 | exact hq.2.2.2.2.2.2.2.2.2.2.2.1 | clear hq)); done)
  k_with "law lt" => first | exact Nat.lt_succ_self _ | assumption | walk_at "law conj" | ((fail_if_success (with_reducible show _ < @OfNat.ofNat Nat _ _)); refine Nat.lt_succ_of_lt ?_; walk_at "law lt") | (refine' Nat.lt_trans ?la ?lb; (case lb => assumption); (case la => walk_at "law conj"))
  k_with "ne conj" => (rename @Ne Nat _ _ ∧ _ => hq; with_reducible first | exact hq.1 | exact hq.1.symm | exact hq.2 | exact hq.2.symm | exact hq.2.1 | exact hq.2.1.symm | exact hq.2.2 | exact hq.2.2.symm | exact hq.2.2.1 | exact hq.2.2.1.symm | exact hq.2.2.2 | exact hq.2.2.2.symm | exact hq.2.2.2.1 | exact hq.2.2.2.1.symm | exact hq.2.2.2.2 | exact hq.2.2.2.2.symm | exact hq.2.2.2.2.1 | exact hq.2.2.2.2.1.symm | exact hq.2.2.2.2.2 | exact hq.2.2.2.2.2.symm | exact hq.2.2.2.2.2.1 | exact hq.2.2.2.2.2.1.symm | exact hq.2.2.2.2.2.2 | exact hq.2.2.2.2.2.2.symm | exact hq.2.2.2.2.2.2.1 | exact hq.2.2.2.2.2.2.1.symm | exact hq.2.2.2.2.2.2.2 | exact hq.2.2.2.2.2.2.2.symm | exact hq.2.2.2.2.2.2.2.1 | exact hq.2.2.2.2.2.2.2.1.symm | exact hq.2.2.2.2.2.2.2.2 | exact hq.2.2.2.2.2.2.2.2.symm | exact hq.2.2.2.2.2.2.2.2.1 | exact hq.2.2.2.2.2.2.2.2.1.symm | exact hq.2.2.2.2.2.2.2.2.2 | exact hq.2.2.2.2.2.2.2.2.2.symm | (clear hq; walk_at "ne conj"))
  k_with "my ne" => (refine neN ?_; (try dsimp only); k_dflt (first | assumption | (refine Ne.symm ?_; assumption) | decide | (refine Nat.ne_of_lt ?_; walk_at "law lt") | (refine Nat.ne_of_gt ?_; walk_at "law lt") | omega))
  k_with "my room" => ((try simp only [depth_under_make, depth_under_kw, depth_in1, depth_deeper, depth_caller]); (try dsimp only [ktrTop]); (try simp only [Nat.add_assoc, Nat.reduceAdd]); first | decide | (refine' Nat.lt_of_le_of_lt ?le ?lt; (case lt => with_reducible assumption); (case le => exact Nat.add_le_add_left (Nat.le_of_ble_eq_true rfl) _)) | (refine' Nat.lt_of_le_of_lt ?le ?lt; (case lt => with_reducible assumption); (case le => exact Nat.le_add_right _ _)))
  k_with "my units" => ((try simp only [units_in1, units_deeper, Around.mark_units, units_caller]); (try dsimp only [ktrTop]); (try simp only [Nat.add_assoc, Nat.reduceAdd]); first | decide | (refine' Nat.lt_of_le_of_lt ?le ?lt; (case lt => with_reducible assumption); (case le => exact Nat.add_le_add_left (Nat.le_of_ble_eq_true rfl) _)) | (refine' Nat.lt_of_le_of_lt ?le ?lt; (case lt => with_reducible assumption); (case le => exact Nat.le_add_right _ _)))
  k_with "my all" => exact below_ne (by assumption)
  k_with "my all" => assumption
  k_with "my all" => exact below_ne (ktn_ltOf (by first | assumption | (simp only [*]; done)))
  k_with "my use" => ((case B => k_asm); (case F => k_asm); (case X => k_asm); (case N => k_asm); (case T => k_asm); (case k => first | exact rfl | assumption); (case d => ktr_room); (case u => ktr_units))
  k_with "my fit" => first | omega | (simp only [List.length_append, List.length_cons, List.length_nil, List.length_map, List.length_take]; omega)
  k_with "my len" => (try simp only [List.length_append, List.length_cons, List.length_nil, Nat.zero_add, Nat.reduceAdd, Nat.cast_ofNat, Int.natCast_add])
  k_with "call builtin:len" => (k_here; (with_reducible show wpAny _ _ (call (Value.builtin "len") [Value.ref _]) _ _ _); k_dflt (refine' len_l ?N ?m ?z ?_; (case N => k_asm); (case m => k_mem); (case z => walk_at "my fit")); walk_at "my len")
  k_with "call builtin:len" => (k_here; (with_reducible show wpAny _ _ (call (Value.builtin "len") [Value.str _ _]) _ _ _); k_dflt (refine' len_TX ?z ?_; (case z => walk_at "my fit")); walk_at "my len")
  k_with "call builtin:list.append" => (k_here; (with_reducible show wpAny _ _ (call (Value.builtin _) [Value.ref _, _]) _ _ _); k_dflt (refine' append_l ?F ?N ?U ?z ?_; (case F => k_asm); (case N => k_asm); (case U => k_upd); (case z => walk_at "my fit"); k_whole); intro _ _ _; (try k_sweep))
  k_with "eval ListComp" => (k_here; k_dflt (refine LCg.ListComp_U (F₀ := by k_asm) (by with_unfolding_all rfl) (by decide) (by rfl) (by decide) (by rfl) ?_))
  k_with "CompSrc" => (refine Hold.intro ?_)
  k_with "call ref" => (refine Hold.intro ?_)
  k_with "pyIter ref" => (refine Hold.intro ?_)
  k_with "exec While Compare cons nil" => (refine Hold.intro ?_)
  k_with "call builtin:str.split" => (refine Hold.intro ?_)
  k_with "call builtin:str.find" => (refine Hold.intro ?_)
  k_with "truthy str" => (k_here; (with_reducible show wpAny _ _ (truthy (Value.str (TX _) _)) _ _ _); k_dflt (refine' truthy_TX ?z ?_; (case z => walk_at "my fit")))
  k_with "delItem ref int" => (k_here; k_dflt (refine' del_l ?F ?N ?e ?U ?f ?k ?l ?z ?_; (case F => k_asm); (case N => k_asm); (case k => exact rfl); (case e => kl_lit); (case U => k_upd); (case f => rfl); (case l => decide); (case z => walk_at "my fit"); k_whole); intro _ _ _; (try k_sweep))
  k_with "exec For Name Name cons nil" => (k_here; k_dflt (refine' For_invVF ?F ?k1 ?k2 ?_; (case F => k_asm); (case k1 => exact rfl); (case k2 => exact rfl)))
  k_with "exec For Name Call cons nil" => (k_here; k_dflt (refine' For_invVF ?F ?k1 ?k2 ?_; (case F => k_asm); (case k1 => exact rfl); (case k2 => exact rfl)))
  k_with "eval Name" => (with_reducible refine gen_tok (fun tk9 => ?_))
  k_with "execs cons" => (with_reducible refine gen_tok (fun tk9 => ?_))
  k_with "eval Constant int" => (with_reducible refine gen_tok (fun tk9 => ?_))
  k_with "eval Call" => (with_reducible refine gen_tok (fun tk9 => ?_))
  k_with "exec If" => (with_reducible refine gen_tok (fun tk9 => ?_))
  k_with "ite" => (with_reducible refine gen_tok (fun tk9 => ?_))
  unfold Says KK PR
  k_fill
  intro dp un gd cn cs a ccd cl outer A₀ base h₀ L m s p loose mean mg mb Q E B F X N T hk hd hu hret
  refine wpAny_call ?_
  k_dflt cell_enter
  have hfo := dots_found P1 P2
  have hen := ends_TX G P2
  have he2 : P2.isEmpty = false := by simpa using n2
  k_steps
  refine Hold.out ?_
  k_dflt (refine' KSpl.split1 ?F ?N ?y ?_ ?z; (case F => k_asm); (case N => k_asm); (case y => decide))
  case z => rw [TX_len]; simp [dotsF, sizeLine]; omega
  intro D l h' k e hS F' N' hlt
  rw [dots_split h1 h2 h3] at e
  clear hS
  refine hide fun G₉ hG₉ => ?_
  obtain ⟨u0, q0, rfl, e0⟩ := KSpl.cons_of e
  obtain ⟨u1, q1, rfl, e1⟩ := KSpl.cons_of e0
  obtain ⟨u2, q2, rfl, e2⟩ := KSpl.cons_of e1
  refine hG₉ ?_
  clear hG₉ G₉
  obtain rfl := KSpl.nil_of e2
  clear e e0 e1 e2
  simp only [strValues, List.map_cons, List.map_nil] at N'
  k_sweep
  k_steps
  · rename (_ : Int) < 0 => hx
    simp at hx
    omega
  · refine Hold.out ?_
    rename Fr _ _ _ _ => lF1
    rename News _ _ _ _ => lN1
    have he : ((G ++ P2).length : Int) - (P2.length : Int) = ((G.length : Nat) : Int) := by simp
    rw [he] at lF1
    clear he hfo hen
    rename ¬ (_ < _) => hx
    clear hx
    rename (2 : Int) ≤ _ => hx
    clear hx
    have lN2 := news_sub (l' := (D, listOf [Value.str (TX []) u0, Value.str (TX P1) u1].toArray 1) :: news) lN1 (by
      intro p hp
      rcases List.mem_cons.mp hp with rfl | hp
      · k_mem
      · simp [hp])
    with_unfolding_all refine loop_list (l := D) (vs := [Value.str (TX []) u0, Value.str (TX P1) u1]) (nn := 1) (fun i m₁ nx => nx = (D, listOf [Value.str (TX []) u0, Value.str (TX P1) u1].toArray 1) :: news ∧ m₁ (Str.ofString "got") = some (Value.str (TX (G ++ P2)) t2) ∧ (∃ t, m₁ (Str.ofString "endpos") = some (Value.int ((G.length : Nat) : Int) t)) ∧ (i < 2 → ∃ t, m₁ (Str.ofString "startpos") = some (Value.int ((0 : Nat) : Int) t)) ∧ (i = 2 → hasF P1 G = true)) (by rfl) (.head _) lF1 lN2 ⟨rfl, by rfl, ⟨_, by rfl⟩, fun _ => ⟨_, by rfl⟩, fun h => by cases h⟩ ?_ ?_ ?_
    · rintro i m₁ nx hz1
      refine hide fun G₉ hG₉ => ?_
      obtain ⟨rfl, _⟩ := hz1
      refine hG₉ ?_
      clear hG₉ G₉
      exact .head _
    · rintro i v m₁ news₁ h₁ tk₁ oI hv hlt hoff hz2 F₁ N₁
      refine hide fun G₉ hG₉ => ?_
      obtain ⟨rfl, e1, ⟨te, e2⟩, e3, e4⟩ := hz2
      have hi : i = 0 ∨ i = 1 := by
        match i, hv with
        | 0, _ => exact .inl rfl
        | 1, _ => exact .inr rfl
        | k + 2, hv => simp at hv
      rcases hi with rfl | rfl
      · cases hv
        obtain ⟨ts, e3⟩ := e3 (by decide)
        refine hG₉ ?_
        clear hG₉ G₉
        refine gen_Q fun Q₉ hQ₉ => ?_
        have F1 := fr_k3 (Str.ofString "got") (Str.ofString "endpos") (Str.ofString "startpos") (by exact e1) (by exact e2) (by exact e3) F₁
        clear F₁ lF1 lN1 lN2 e1 e2 e3
        k_steps
        refine Hold.out ?_
        refine call_find4 (i := 0) (j := G.length) ?_ ?_
        · rw [TX_len]; simp
        rw [find4_nil]
        k_sweep
        k_steps
        rename Fr _ _ _ _ => lF2
        rename News _ _ _ _ => lN2
        refine hQ₉ _ _ ?_
        refine turn_next ((D, listOf [Value.str (TX []) u0, Value.str (TX P1) u1].toArray 1) :: news) lF2 lN2 (by k_mem) (fun p hp => List.mem_cons_of_mem _ hp) hoff ⟨rfl, by rfl, ⟨_, by rfl⟩, fun _ => ⟨_, by rfl⟩, fun h => by cases h⟩
      · cases hv
        obtain ⟨ts, e3⟩ := e3 (by decide)
        refine hG₉ ?_
        clear hG₉ G₉
        refine gen_Q fun Q₉ hQ₉ => ?_
        have F1 := fr_k3 (Str.ofString "got") (Str.ofString "endpos") (Str.ofString "startpos") (by exact e1) (by exact e2) (by exact e3) F₁
        clear F₁ lF1 lN1 lN2 e1 e2 e3
        k_steps
        refine Hold.out ?_
        refine call_find4 (i := 0) (j := G.length) ?_ ?_
        · rw [TX_len]; simp
        rcases find4_has G P2 P1 with ⟨hx, hF⟩ | ⟨k, hx, hk, hF⟩
        · rw [hx]
          k_sweep
          k_steps
          refine hQ₉ _ _ ?_
          show qk (Flow.ret (Value.bool false)) _
          dsimp only [qk]
          k_steps
          exact hret _ _ _ _ (by k_asm) (news_sub (by k_asm) fun p hp => by simp [hp]) ⟨by rw [hF], rfl⟩
        · rw [hx]
          k_sweep
          k_steps
          rename Fr _ _ _ _ => lF2
          rename News _ _ _ _ => lN2
          refine hQ₉ _ _ ?_
          refine turn_next ((D, listOf [Value.str (TX []) u0, Value.str (TX P1) u1].toArray 1) :: news) lF2 lN2 (by k_mem) (fun p hp => List.mem_cons_of_mem _ hp) hoff ⟨rfl, by rfl, ⟨_, by rfl⟩, fun h => by omega, fun _ => hF⟩
    · rintro m₁ news₁ h₁ tk₁ hz3 F₁ N₁
      refine hide fun G₉ hG₉ => ?_
      obtain ⟨rfl, e1, ⟨te, e2⟩, e3, e4⟩ := hz3
      refine hG₉ ?_
      clear hG₉ G₉
      have hF := e4 rfl
      k_steps
      exact hret _ _ _ _ (by k_asm) (news_sub (by k_asm) fun p hp => by simp [hp]) ⟨by rw [hF], rfl⟩
  · rename ¬ ((2 : Int) ≤ _) => hx
    simp at hx
end
end
section
section
theorem mid_dn {lo hi : Nat} (h : (lo : Int) < (hi : Int)) : (lo + hi) / 2 - lo < hi - lo := by omega
theorem mid_up {lo hi : Nat} (h : (lo : Int) < (hi : Int)) : hi - ((lo + hi) / 2 + 1) < hi - lo := by omega
theorem mid_lt {lo hi n : Nat} (h : (lo : Int) < (hi : Int)) (b : hi ≤ n) : (lo + hi) / 2 < n := by omega
theorem mid_end {lo hi r : Nat} (h : ¬ (lo : Int) < (hi : Int)) (b1 : lo ≤ r) (b2 : r ≤ hi) : lo = r := by omega
theorem mid_nat (lo hi : Nat) : Int.fdiv ((lo : Int) + (hi : Int)) 2 = (((lo + hi) / 2 : Nat) : Int) := by
  rw [Int.fdiv_eq_ediv_of_nonneg _ (by omega)]; omega
theorem getD_at {zs : List Int} (i : Nat) (h : i < zs.length) : zs[i]? = some (zs.getD i 0) := by
  rw [List.getD_eq_getElem?_getD, List.getElem?_eq_getElem h]; rfl
/-- what holds at each turn of a bisection -/
noncomputable def BisJ (l : Addr) (x : Int) (tx : Tok) (kv : Value) (r len : Nat) (news : Led) (n : Nat) (m₁ : Str → Option Value) (nx : Led) : Prop :=
  nx = news ∧ ∃ (lo hi : Nat) (tl th : Tok), lo ≤ r ∧ r ≤ hi ∧ hi ≤ len ∧ n = hi - lo ∧ m₁ (Str.ofString "a") = some (Value.ref l) ∧ m₁ (Str.ofString "x") = some (Value.int x tx) ∧ m₁ (Str.ofString "key") = some kv ∧ m₁ (Str.ofString "lo") = some (Value.int (lo : Nat) tl) ∧ m₁ (Str.ofString "hi") = some (Value.int (hi : Nat) th)
section
variable {l : Addr} {x : Int} {tx : Tok} {kv : Value} {r len : Nat} {news : Led} {n : Nat} {m₁ : Str → Option Value}
theorem BisJ.mk {lo hi : Nat} {tl th : Tok} (b1 : lo ≤ r) (b2 : r ≤ hi) (b3 : hi ≤ len) (e1 : m₁ (Str.ofString "a") = some (Value.ref l)) (e2 : m₁ (Str.ofString "x") = some (Value.int x tx)) (e3 : m₁ (Str.ofString "key") = some kv) (e4 : m₁ (Str.ofString "lo") = some (Value.int (lo : Nat) tl)) (e5 : m₁ (Str.ofString "hi") = some (Value.int (hi : Nat) th)) : BisJ l x tx kv r len news (hi - lo) m₁ news :=
  ⟨rfl, _, _, _, _, b1, b2, b3, rfl, e1, e2, e3, e4, e5⟩
theorem BisJ.out {nx : Led} (hJ : BisJ l x tx kv r len news n m₁ nx) {h₀ h : Heap} {L : Addr} (F : Fr h₀ L h m₁) (N : News h₀ L h nx) (C : Prop)
    (k : ∀ (lo hi : Nat) (tl th : Tok), lo ≤ r → r ≤ hi → hi ≤ len → n = hi - lo → Fr h₀ L h (fun y => if y = Str.ofString "a" then some (Value.ref l) else if y = Str.ofString "x" then some (Value.int x tx) else if y = Str.ofString "key" then some kv else if y = Str.ofString "lo" then some (Value.int (lo : Nat) tl) else if y = Str.ofString "hi" then some (Value.int (hi : Nat) th) else m₁ y) → News h₀ L h news → C) : C := by
  obtain ⟨rfl, lo, hi, tl, th, b1, b2, b3, rfl, e1, e2, e3, e4, e5⟩ := hJ
  exact k lo hi tl th b1 b2 b3 rfl (fr_k5 _ _ _ _ _ e1 e2 e3 e4 e5 F) N
end
set_option maxRecDepth 100000 in
set_option maxHeartbeats 8000000 in
theorem right_says (w : World) (l : Addr) (nn : Nat) (vs : List Value) (zs : List Int) (x : Int) (tx : Tok) (r : Nat) (news : Led) (hl : (l, listOf vs.toArray nn) ∈ news) (hi : IntsAre vs zs) (hz : zs.length ≤ 1000) (hr : r ≤ zs.length) (hp : ∀ i z, zs[i]? = some z → (x < z ↔ r ≤ i)) :
    Says w (.ref 37) [.ref l, .int x tx] [] 1 8 news (fun v news' => (∃ t, v = Value.int (r : Nat) t) ∧ news' = news) := by
  w_top off
  k_with_none
  k_with "law conj" => ((repeat (rename @LT.lt Nat _ _ _ ∧ _ => hq; first | exact hq.1 | exact hq.2.1 | exact hq.2.2.1 | exact hq.2.2.2.1 | exact hq.2.2.2.2.1 | exact hq.2.2.2.2.2.1 | exact hq.2.2.2.2.2.2.1 | exact hq.2.2.2.2.2.2.2.1 | exact hq.2.2.2.2.2.2.2.2.1 | exact hq.2.2.2.2.2.2.2.2.2.1 | exact hq.2.2.2.2.2.2.2.2.2.2.1 | exact hq.2.2.2.2.2.2.2.2.2.2.2.1 | clear hq)); done)
  k_with "law lt" => first | exact Nat.lt_succ_self _ | assumption | walk_at "law conj" | ((fail_if_success (with_reducible show _ < @OfNat.ofNat Nat _ _)); refine Nat.lt_succ_of_lt ?_; walk_at "law lt") | (refine' Nat.lt_trans ?la ?lb; (case lb => assumption); (case la => walk_at "law conj"))
  k_with "ne conj" => (rename @Ne Nat _ _ ∧ _ => hq; with_reducible first | exact hq.1 | exact hq.1.symm | exact hq.2 | exact hq.2.symm | exact hq.2.1 | exact hq.2.1.symm | exact hq.2.2 | exact hq.2.2.symm | exact hq.2.2.1 | exact hq.2.2.1.symm | exact hq.2.2.2 | exact hq.2.2.2.symm | exact hq.2.2.2.1 | exact hq.2.2.2.1.symm | exact hq.2.2.2.2 | exact hq.2.2.2.2.symm | exact hq.2.2.2.2.1 | exact hq.2.2.2.2.1.symm | exact hq.2.2.2.2.2 | exact hq.2.2.2.2.2.symm | exact hq.2.2.2.2.2.1 | exact hq.2.2.2.2.2.1.symm | exact hq.2.2.2.2.2.2 | exact hq.2.2.2.2.2.2.symm | exact hq.2.2.2.2.2.2.1 | exact hq.2.2.2.2.2.2.1.symm | exact hq.2.2.2.2.2.2.2 | exact hq.2.2.2.2.2.2.2.symm | exact hq.2.2.2.2.2.2.2.1 | exact hq.2.2.2.2.2.2.2.1.symm | exact hq.2.2.2.2.2.2.2.2 | exact hq.2.2.2.2.2.2.2.2.symm | exact hq.2.2.2.2.2.2.2.2.1 | exact hq.2.2.2.2.2.2.2.2.1.symm | exact hq.2.2.2.2.2.2.2.2.2 | exact hq.2.2.2.2.2.2.2.2.2.symm | (clear hq; walk_at "ne conj"))
  k_with "my ne" => (refine neN ?_; (try dsimp only); k_dflt (first | assumption | (refine Ne.symm ?_; assumption) | decide | (refine Nat.ne_of_lt ?_; walk_at "law lt") | (refine Nat.ne_of_gt ?_; walk_at "law lt") | omega))
  k_with "my room" => ((try simp only [depth_under_make, depth_under_kw, depth_in1, depth_deeper, depth_caller]); (try dsimp only [ktrTop]); (try simp only [Nat.add_assoc, Nat.reduceAdd]); first | decide | (refine' Nat.lt_of_le_of_lt ?le ?lt; (case lt => with_reducible assumption); (case le => exact Nat.add_le_add_left (Nat.le_of_ble_eq_true rfl) _)) | (refine' Nat.lt_of_le_of_lt ?le ?lt; (case lt => with_reducible assumption); (case le => exact Nat.le_add_right _ _)))
  k_with "my units" => ((try simp only [units_in1, units_deeper, Around.mark_units, units_caller]); (try dsimp only [ktrTop]); (try simp only [Nat.add_assoc, Nat.reduceAdd]); first | decide | (refine' Nat.lt_of_le_of_lt ?le ?lt; (case lt => with_reducible assumption); (case le => exact Nat.add_le_add_left (Nat.le_of_ble_eq_true rfl) _)) | (refine' Nat.lt_of_le_of_lt ?le ?lt; (case lt => with_reducible assumption); (case le => exact Nat.le_add_right _ _)))
  k_with "my all" => exact below_ne (by assumption)
  k_with "my all" => assumption
  k_with "my all" => exact below_ne (ktn_ltOf (by first | assumption | (simp only [*]; done)))
  k_with "my use" => ((case B => k_asm); (case F => k_asm); (case X => k_asm); (case N => k_asm); (case T => k_asm); (case k => first | exact rfl | assumption); (case d => ktr_room); (case u => ktr_units))
  k_with "my fit" => first | omega | (simp only [List.length_append, List.length_cons, List.length_nil, List.length_map, List.length_take]; omega)
  k_with "my len" => (try simp only [List.length_append, List.length_cons, List.length_nil, Nat.zero_add, Nat.reduceAdd, Nat.cast_ofNat, Int.natCast_add])
  k_with "call builtin:len" => (k_here; (with_reducible show wpAny _ _ (call (Value.builtin "len") [Value.ref _]) _ _ _); k_dflt (refine' len_l ?N ?m ?z ?_; (case N => k_asm); (case m => k_mem); (case z => walk_at "my fit")); walk_at "my len")
  k_with "call builtin:len" => (k_here; (with_reducible show wpAny _ _ (call (Value.builtin "len") [Value.str _ _]) _ _ _); k_dflt (refine' len_TX ?z ?_; (case z => walk_at "my fit")); walk_at "my len")
  k_with "call builtin:list.append" => (k_here; (with_reducible show wpAny _ _ (call (Value.builtin _) [Value.ref _, _]) _ _ _); k_dflt (refine' append_l ?F ?N ?U ?z ?_; (case F => k_asm); (case N => k_asm); (case U => k_upd); (case z => walk_at "my fit"); k_whole); intro _ _ _; (try k_sweep))
  k_with "eval ListComp" => (k_here; k_dflt (refine LCg.ListComp_U (F₀ := by k_asm) (by with_unfolding_all rfl) (by decide) (by rfl) (by decide) (by rfl) ?_))
  k_with "CompSrc" => (refine Hold.intro ?_)
  k_with "call ref" => (refine Hold.intro ?_)
  k_with "pyIter ref" => (refine Hold.intro ?_)
  k_with "exec While Compare cons nil" => (refine Hold.intro ?_)
  k_with "call builtin:str.split" => (refine Hold.intro ?_)
  k_with "call builtin:str.find" => (refine Hold.intro ?_)
  k_with "truthy str" => (k_here; (with_reducible show wpAny _ _ (truthy (Value.str (TX _) _)) _ _ _); k_dflt (refine' truthy_TX ?z ?_; (case z => walk_at "my fit")))
  k_with "delItem ref int" => (k_here; k_dflt (refine' del_l ?F ?N ?e ?U ?f ?k ?l ?z ?_; (case F => k_asm); (case N => k_asm); (case k => exact rfl); (case e => kl_lit); (case U => k_upd); (case f => rfl); (case l => decide); (case z => walk_at "my fit"); k_whole); intro _ _ _; (try k_sweep))
  k_with "exec For Name Name cons nil" => (k_here; k_dflt (refine' For_invVF ?F ?k1 ?k2 ?_; (case F => k_asm); (case k1 => exact rfl); (case k2 => exact rfl)))
  k_with "exec For Name Call cons nil" => (k_here; k_dflt (refine' For_invVF ?F ?k1 ?k2 ?_; (case F => k_asm); (case k1 => exact rfl); (case k2 => exact rfl)))
  k_with "par enter" => (refine' code_def ?k1 ?k2 ?k3 ?k4 ?k5 ?kA ?kF ?kK ?k6 ?k7 ?k8 ?k9 ?kB ?_ ?c2 ?c3 ?c4 ?c5; (case kA => exact rfl); (case kF => exact rfl); (case kK => assumption); (case k1 => k_asm); (case k2 => k_asm); (case k3 => k_asm); (case k4 => k_asm); (case k5 => k_asm); (case k6 => k_is); (case k7 => k_is); (case k8 => ktr_room); (case k9 => (refine' kp_binds ?kx ?ke; (case kx => k_in); (case ke => exact fun _ => rfl))); (case c5 => decide); (case kB => exact locs rfl); (case c2 => exact rfl); (case c3 => exact rfl); (case c4 => exact rfl); k_whole; intro g9 L9 h9 G9 F9 N9 B9 X9 T9; (try dsimp only); (try k_lift B9); (try k_fold))
  k_with "eval Name" => (with_reducible refine gen_tok (fun tk9 => ?_))
  k_with "execs cons" => (with_reducible refine gen_tok (fun tk9 => ?_))
  k_with "eval Constant int" => (with_reducible refine gen_tok (fun tk9 => ?_))
  k_with "eval Call" => (with_reducible refine gen_tok (fun tk9 => ?_))
  k_with "exec If" => (with_reducible refine gen_tok (fun tk9 => ?_))
  k_with "ite" => (with_reducible refine gen_tok (fun tk9 => ?_))
  unfold Says KK PR
  k_fill
  intro dp un gd cn cs a ccd cl outer A₀ base h₀ L m s p loose mean mg mb Q E B F X N T hk hd hu hret
  refine wpAny_call ?_
  k_dflt (walk_at "par enter")
  have hvl := hi.length
  k_steps
  refine Hold.out ?_
  rename Fr _ _ _ _ => lF1
  rename News _ _ _ _ => lN1
  with_unfolding_all refine While_inv2 (n₀ := zs.length) (BisJ l x tx Value.none r zs.length news) lF1 lN1 (BisJ.mk (lo := 0) (Nat.zero_le _) hr (Nat.le_refl _) (by rfl) (by rfl) (by rfl) (by rfl) (by rw [← hvl]; rfl)) ?_ ?_
  · intro n m₁ nx h₁ tk₁ F₁ N₁ hJ
    refine BisJ.out hJ F₁ N₁ _ ?_
    clear hJ F₁ N₁ lF1 lN1
    intro lo hi tl th b1 b2 b3 hne F1 N₁
    refine gen_W fun W₉ R₉ hW₉ hR₉ => ?_
    k_steps
    · rename x < _ => hx
      rename Fr _ _ _ _ => lF2
      rename News _ _ _ _ => lN2
      rename (lo : Int) < hi => hlh
      rw [mid_nat] at lF2 hx
      rw [Int.toNat_natCast] at hx
      have hm : zs[(lo + hi) / 2]? = some (zs.getD ((lo + hi) / 2) 0) := getD_at _ (mid_lt (by assumption) (by assumption))
      have hq := (hp _ _ hm).mp hx
      exact hW₉ _ _ (while_next lF2 lN2 (hne ▸ mid_dn (by assumption)) (BisJ.mk (hi := (lo + hi) / 2) b1 (by first | exact hq | exact Nat.le_of_not_lt hq) (Nat.le_of_lt (mid_lt (by assumption) b3)) (by rfl) (by rfl) (by rfl) (by rfl) (by rfl)))
    · rename ¬ (x < _) => hx
      rename Fr _ _ _ _ => lF2
      rename News _ _ _ _ => lN2
      rename (lo : Int) < hi => hlh
      rw [mid_nat] at lF2 hx
      rw [Int.toNat_natCast] at hx
      have hm : zs[(lo + hi) / 2]? = some (zs.getD ((lo + hi) / 2) 0) := getD_at _ (mid_lt (by assumption) (by assumption))
      have hq : ¬ r ≤ (lo + hi) / 2 := fun h => hx ((hp _ _ hm).mpr h)
      exact hW₉ _ _ (while_next lF2 lN2 (hne ▸ mid_up (by assumption)) (BisJ.mk (lo := (lo + hi) / 2 + 1) (by first | exact hq | exact Nat.lt_of_not_le hq) b2 b3 (by rfl) (by rfl) (by rfl) (by rfl) (by rfl)))
    · rename ¬ ((lo : Int) < hi) => hlh
      refine hR₉ _ ?_
      k_steps
      have e : lo = r := mid_end (by assumption) b1 b2
      subst e
      exact hret _ _ _ _ (by k_asm) (by k_asm) ⟨⟨_, rfl⟩, rfl⟩
  · exact PassesOwn.leaving
end
end
section
section
set_option maxRecDepth 100000 in
set_option maxHeartbeats 8000000 in
theorem leftK_says (w : World) (l : Addr) (nn : Nat) (vs : List Value) (zs : List Int) (x : Int) (tx : Tok) (r : Nat) (kA : Addr) (oc : Value) (od : Option Addr) (fd : FuncData) (sl : Array (Option Value)) (kf : Nat → Int) (news : Led) (hl : (l, listOf vs.toArray nn) ∈ news) (hf : (kA, (⟨oc, od, .func fd, sl⟩ : Obj)) ∈ news) (hi : IntsAre vs zs) (hz : zs.length ≤ 1000) (hr : r ≤ zs.length)
    (hkey : ∀ i, i < zs.length → ∀ t, Says w (.ref kA) [.int (zs.getD i 0) t] [] 6 40 news (fun v news' => (∃ t, v = Value.int (kf i) t) ∧ news' = news)) (hp : ∀ i, i < zs.length → (kf i < x ↔ i < r)) :
    Says w (.ref 46) [.ref l, .int x tx] [(Str.ofString "key", .ref kA)] 8 60 news (fun v news' => (∃ t, v = Value.int (r : Nat) t) ∧ news' = news) := by
  w_top off
  k_with_none
  k_with "law conj" => ((repeat (rename @LT.lt Nat _ _ _ ∧ _ => hq; first | exact hq.1 | exact hq.2.1 | exact hq.2.2.1 | exact hq.2.2.2.1 | exact hq.2.2.2.2.1 | exact hq.2.2.2.2.2.1 | exact hq.2.2.2.2.2.2.1 | exact hq.2.2.2.2.2.2.2.1 | exact hq.2.2.2.2.2.2.2.2.1 | exact hq.2.2.2.2.2.2.2.2.2.1 | exact hq.2.2.2.2.2.2.2.2.2.2.1 | exact hq.2.2.2.2.2.2.2.2.2.2.2.1 | clear hq)); done)
  k_with "law lt" => first | exact Nat.lt_succ_self _ | assumption | walk_at "law conj" | ((fail_if_success (with_reducible show _ < @OfNat.ofNat Nat _ _)); refine Nat.lt_succ_of_lt ?_; walk_at "law lt") | (refine' Nat.lt_trans ?la ?lb; (case lb => assumption); (case la => walk_at "law conj"))
  k_with "ne conj" => (rename @Ne Nat _ _ ∧ _ => hq; with_reducible first | exact hq.1 | exact hq.1.symm | exact hq.2 | exact hq.2.symm | exact hq.2.1 | exact hq.2.1.symm | exact hq.2.2 | exact hq.2.2.symm | exact hq.2.2.1 | exact hq.2.2.1.symm | exact hq.2.2.2 | exact hq.2.2.2.symm | exact hq.2.2.2.1 | exact hq.2.2.2.1.symm | exact hq.2.2.2.2 | exact hq.2.2.2.2.symm | exact hq.2.2.2.2.1 | exact hq.2.2.2.2.1.symm | exact hq.2.2.2.2.2 | exact hq.2.2.2.2.2.symm | exact hq.2.2.2.2.2.1 | exact hq.2.2.2.2.2.1.symm | exact hq.2.2.2.2.2.2 | exact hq.2.2.2.2.2.2.symm | exact hq.2.2.2.2.2.2.1 | exact hq.2.2.2.2.2.2.1.symm | exact hq.2.2.2.2.2.2.2 | exact hq.2.2.2.2.2.2.2.symm | exact hq.2.2.2.2.2.2.2.1 | exact hq.2.2.2.2.2.2.2.1.symm | exact hq.2.2.2.2.2.2.2.2 | exact hq.2.2.2.2.2.2.2.2.symm | exact hq.2.2.2.2.2.2.2.2.1 | exact hq.2.2.2.2.2.2.2.2.1.symm | exact hq.2.2.2.2.2.2.2.2.2 | exact hq.2.2.2.2.2.2.2.2.2.symm | (clear hq; walk_at "ne conj"))
  k_with "my ne" => (refine neN ?_; (try dsimp only); k_dflt (first | assumption | (refine Ne.symm ?_; assumption) | decide | (refine Nat.ne_of_lt ?_; walk_at "law lt") | (refine Nat.ne_of_gt ?_; walk_at "law lt") | omega))
  k_with "my room" => ((try simp only [depth_under_make, depth_under_kw, depth_in1, depth_deeper, depth_caller]); (try dsimp only [ktrTop]); (try simp only [Nat.add_assoc, Nat.reduceAdd]); first | decide | (refine' Nat.lt_of_le_of_lt ?le ?lt; (case lt => with_reducible assumption); (case le => exact Nat.add_le_add_left (Nat.le_of_ble_eq_true rfl) _)) | (refine' Nat.lt_of_le_of_lt ?le ?lt; (case lt => with_reducible assumption); (case le => exact Nat.le_add_right _ _)))
  k_with "my units" => ((try simp only [units_in1, units_deeper, Around.mark_units, units_caller]); (try dsimp only [ktrTop]); (try simp only [Nat.add_assoc, Nat.reduceAdd]); first | decide | (refine' Nat.lt_of_le_of_lt ?le ?lt; (case lt => with_reducible assumption); (case le => exact Nat.add_le_add_left (Nat.le_of_ble_eq_true rfl) _)) | (refine' Nat.lt_of_le_of_lt ?le ?lt; (case lt => with_reducible assumption); (case le => exact Nat.le_add_right _ _)))
  k_with "my all" => exact below_ne (by assumption)
  k_with "my all" => assumption
  k_with "my all" => exact below_ne (ktn_ltOf (by first | assumption | (simp only [*]; done)))
  k_with "my use" => ((case B => k_asm); (case F => k_asm); (case X => k_asm); (case N => k_asm); (case T => k_asm); (case k => first | exact rfl | assumption); (case d => ktr_room); (case u => ktr_units))
  k_with "my fit" => first | omega | (simp only [List.length_append, List.length_cons, List.length_nil, List.length_map, List.length_take]; omega)
  k_with "my len" => (try simp only [List.length_append, List.length_cons, List.length_nil, Nat.zero_add, Nat.reduceAdd, Nat.cast_ofNat, Int.natCast_add])
  k_with "call builtin:len" => (k_here; (with_reducible show wpAny _ _ (call (Value.builtin "len") [Value.ref _]) _ _ _); k_dflt (refine' len_l ?N ?m ?z ?_; (case N => k_asm); (case m => k_mem); (case z => walk_at "my fit")); walk_at "my len")
  k_with "call builtin:len" => (k_here; (with_reducible show wpAny _ _ (call (Value.builtin "len") [Value.str _ _]) _ _ _); k_dflt (refine' len_TX ?z ?_; (case z => walk_at "my fit")); walk_at "my len")
  k_with "call builtin:list.append" => (k_here; (with_reducible show wpAny _ _ (call (Value.builtin _) [Value.ref _, _]) _ _ _); k_dflt (refine' append_l ?F ?N ?U ?z ?_; (case F => k_asm); (case N => k_asm); (case U => k_upd); (case z => walk_at "my fit"); k_whole); intro _ _ _; (try k_sweep))
  k_with "eval ListComp" => (k_here; k_dflt (refine LCg.ListComp_U (F₀ := by k_asm) (by with_unfolding_all rfl) (by decide) (by rfl) (by decide) (by rfl) ?_))
  k_with "CompSrc" => (refine Hold.intro ?_)
  k_with "call ref" => (refine Hold.intro ?_)
  k_with "pyIter ref" => (refine Hold.intro ?_)
  k_with "exec While Compare cons nil" => (refine Hold.intro ?_)
  k_with "call builtin:str.split" => (refine Hold.intro ?_)
  k_with "call builtin:str.find" => (refine Hold.intro ?_)
  k_with "truthy str" => (k_here; (with_reducible show wpAny _ _ (truthy (Value.str (TX _) _)) _ _ _); k_dflt (refine' truthy_TX ?z ?_; (case z => walk_at "my fit")))
  k_with "delItem ref int" => (k_here; k_dflt (refine' del_l ?F ?N ?e ?U ?f ?k ?l ?z ?_; (case F => k_asm); (case N => k_asm); (case k => exact rfl); (case e => kl_lit); (case U => k_upd); (case f => rfl); (case l => decide); (case z => walk_at "my fit"); k_whole); intro _ _ _; (try k_sweep))
  k_with "exec For Name Name cons nil" => (k_here; k_dflt (refine' For_invVF ?F ?k1 ?k2 ?_; (case F => k_asm); (case k1 => exact rfl); (case k2 => exact rfl)))
  k_with "exec For Name Call cons nil" => (k_here; k_dflt (refine' For_invVF ?F ?k1 ?k2 ?_; (case F => k_asm); (case k1 => exact rfl); (case k2 => exact rfl)))
  k_with "par enter" => (refine' code_def ?k1 ?k2 ?k3 ?k4 ?k5 ?kA ?kF ?kK ?k6 ?k7 ?k8 ?k9 ?kB ?_ ?c2 ?c3 ?c4 ?c5; (case kA => exact rfl); (case kF => exact rfl); (case kK => assumption); (case k1 => k_asm); (case k2 => k_asm); (case k3 => k_asm); (case k4 => k_asm); (case k5 => k_asm); (case k6 => k_is); (case k7 => k_is); (case k8 => ktr_room); (case k9 => (refine' kp_binds ?kx ?ke; (case kx => k_in); (case ke => exact fun _ => rfl))); (case c5 => decide); (case kB => exact locs rfl); (case c2 => exact rfl); (case c3 => exact rfl); (case c4 => exact rfl); k_whole; intro g9 L9 h9 G9 F9 N9 B9 X9 T9; (try dsimp only); (try k_lift B9); (try k_fold))
  k_with "callWith ref" => (k_here; k_dflt (refine' callWith_F ?k1 ?_; (case k1 => exact FnAt.of (by k_asm) (by assumption)); k_whole))
  k_with "FnAt" => (k_dflt (exact FnAt.of (by k_asm) (by assumption)))
  k_with "eval Name" => (with_reducible refine gen_tok (fun tk9 => ?_))
  k_with "execs cons" => (with_reducible refine gen_tok (fun tk9 => ?_))
  k_with "eval Constant int" => (with_reducible refine gen_tok (fun tk9 => ?_))
  k_with "eval Call" => (with_reducible refine gen_tok (fun tk9 => ?_))
  k_with "exec If" => (with_reducible refine gen_tok (fun tk9 => ?_))
  k_with "ite" => (with_reducible refine gen_tok (fun tk9 => ?_))
  unfold Says KK PR
  k_fill
  intro dp un gd cn cs a ccd cl outer A₀ base h₀ L m s p loose mean mg mb Q E B F X N T hk hd hu hret
  refine wpAny_call ?_
  k_dflt (walk_at "par enter")
  have hvl := hi.length
  k_steps
  refine Hold.out ?_
  rename Fr _ _ _ _ => lF1
  rename News _ _ _ _ => lN1
  with_unfolding_all refine While_inv2 (n₀ := zs.length) (BisJ l x tx (Value.ref kA) r zs.length news) lF1 lN1 (BisJ.mk (lo := 0) (Nat.zero_le _) hr (Nat.le_refl _) (by rfl) (by rfl) (by rfl) (by rfl) (by rw [← hvl]; rfl)) ?_ ?_
  · intro n m₁ nx h₁ tk₁ F₁ N₁ hJ
    refine BisJ.out hJ F₁ N₁ _ ?_
    clear hJ F₁ N₁ lF1 lN1
    intro lo hi tl th b1 b2 b3 hne F1 N₁
    refine gen_W fun W₉ R₉ hW₉ hR₉ => ?_
    k_steps
    · refine Hold.out ?_
      rename (lo : Int) < hi => hlh
      rw [mid_nat, Int.toNat_natCast]
      have hml : (lo + hi) / 2 < zs.length := mid_lt (by assumption) (by assumption)
      k_dflt (refine' says_use (hkey _ hml _) ?B ?F ?X ?N ?T ?k ?d ?u ?_; walk_at "my use")
      rintro v news' h' tk' F' N' ⟨⟨t, rfl⟩, rfl⟩
      k_sweep
      k_steps
      · rename kf _ < x => hx
        rename Fr _ _ _ _ => lF2
        rename News _ _ _ _ => lN2
        rw [mid_nat] at lF2
        have hq : (lo + hi) / 2 < r := (hp _ hml).mp hx
        exact hW₉ _ _ (while_next lF2 lN2 (hne ▸ mid_up (by assumption)) (BisJ.mk (lo := (lo + hi) / 2 + 1) (by first | exact hq | exact Nat.lt_of_not_le hq) b2 b3 (by rfl) (by rfl) (by rfl) (by rfl) (by rfl)))
      · rename ¬ (kf _ < x) => hx
        rename Fr _ _ _ _ => lF2
        rename News _ _ _ _ => lN2
        rw [mid_nat] at lF2
        have hq : ¬ ((lo + hi) / 2 < r) := fun h => hx ((hp _ hml).mpr h)
        exact hW₉ _ _ (while_next lF2 lN2 (hne ▸ mid_dn (by assumption)) (BisJ.mk (hi := (lo + hi) / 2) b1 (by first | exact hq | exact Nat.le_of_not_lt hq) (Nat.le_of_lt (mid_lt (by assumption) b3)) (by rfl) (by rfl) (by rfl) (by rfl) (by rfl)))
    · rename ¬ ((lo : Int) < hi) => hlh
      refine hR₉ _ ?_
      k_steps
      have e : lo = r := mid_end (by assumption) b1 b2
      subst e
      exact hret _ _ _ _ (by k_asm) (by k_asm) ⟨⟨_, rfl⟩, rfl⟩
  · exact PassesOwn.leaving
set_option maxRecDepth 100000 in
set_option maxHeartbeats 8000000 in
theorem rightK_says (w : World) (l : Addr) (nn : Nat) (vs : List Value) (zs : List Int) (x : Int) (tx : Tok) (r : Nat) (kA : Addr) (oc : Value) (od : Option Addr) (fd : FuncData) (sl : Array (Option Value)) (kf : Nat → Int) (news : Led) (hl : (l, listOf vs.toArray nn) ∈ news) (hf : (kA, (⟨oc, od, .func fd, sl⟩ : Obj)) ∈ news) (hi : IntsAre vs zs) (hz : zs.length ≤ 1000) (hr : r ≤ zs.length)
    (hkey : ∀ i, i < zs.length → ∀ t, Says w (.ref kA) [.int (zs.getD i 0) t] [] 6 40 news (fun v news' => (∃ t, v = Value.int (kf i) t) ∧ news' = news)) (hp : ∀ i, i < zs.length → (x < kf i ↔ r ≤ i)) :
    Says w (.ref 37) [.ref l, .int x tx] [(Str.ofString "key", .ref kA)] 8 60 news (fun v news' => (∃ t, v = Value.int (r : Nat) t) ∧ news' = news) := by
  w_top off
  k_with_none
  k_with "law conj" => ((repeat (rename @LT.lt Nat _ _ _ ∧ _ => hq; first | exact hq.1 | exact hq.2.1 | exact hq.2.2.1 | exact hq.2.2.2.1 | exact hq.2.2.2.2.1 | exact hq.2.2.2.2.2.1 | exact hq.2.2.2.2.2.2.1 | exact hq.2.2.2.2.2.2.2.1 | exact hq.2.2.2.2.2.2.2.2.1 | exact hq.2.2.2.2.2.2.2.2.2.1 | exact hq.2.2.2.2.2.2.2.2.2.2.1 | exact hq.2.2.2.2.2.2.2.2.2.2.2.1 | clear hq)); done)
  k_with "law lt" => first | exact Nat.lt_succ_self _ | assumption | walk_at "law conj" | ((fail_if_success (with_reducible show _ < @OfNat.ofNat Nat _ _)); refine Nat.lt_succ_of_lt ?_; walk_at "law lt") | (refine' Nat.lt_trans ?la ?lb; (case lb => assumption); (case la => walk_at "law conj"))
  k_with "ne conj" => (rename @Ne Nat _ _ ∧ _ => hq; with_reducible first | exact hq.1 | exact hq.1.symm | exact hq.2 | exact hq.2.symm | exact hq.2.1 | exact hq.2.1.symm | exact hq.2.2 | exact hq.2.2.symm | exact hq.2.2.1 | exact hq.2.2.1.symm | exact hq.2.2.2 | exact hq.2.2.2.symm | exact hq.2.2.2.1 | exact hq.2.2.2.1.symm | exact hq.2.2.2.2 | exact hq.2.2.2.2.symm | exact hq.2.2.2.2.1 | exact hq.2.2.2.2.1.symm | exact hq.2.2.2.2.2 | exact hq.2.2.2.2.2.symm | exact hq.2.2.2.2.2.1 | exact hq.2.2.2.2.2.1.symm | exact hq.2.2.2.2.2.2 | exact hq.2.2.2.2.2.2.symm | exact hq.2.2.2.2.2.2.1 | exact hq.2.2.2.2.2.2.1.symm | exact hq.2.2.2.2.2.2.2 | exact hq.2.2.2.2.2.2.2.symm | exact hq.2.2.2.2.2.2.2.1 | exact hq.2.2.2.2.2.2.2.1.symm | exact hq.2.2.2.2.2.2.2.2 | exact hq.2.2.2.2.2.2.2.2.symm | exact hq.2.2.2.2.2.2.2.2.1 | exact hq.2.2.2.2.2.2.2.2.1.symm | exact hq.2.2.2.2.2.2.2.2.2 | exact hq.2.2.2.2.2.2.2.2.2.symm | (clear hq; walk_at "ne conj"))
  k_with "my ne" => (refine neN ?_; (try dsimp only); k_dflt (first | assumption | (refine Ne.symm ?_; assumption) | decide | (refine Nat.ne_of_lt ?_; walk_at "law lt") | (refine Nat.ne_of_gt ?_; walk_at "law lt") | omega))
  k_with "my room" => ((try simp only [depth_under_make, depth_under_kw, depth_in1, depth_deeper, depth_caller]); (try dsimp only [ktrTop]); (try simp only [Nat.add_assoc, Nat.reduceAdd]); first | decide | (refine' Nat.lt_of_le_of_lt ?le ?lt; (case lt => with_reducible assumption); (case le => exact Nat.add_le_add_left (Nat.le_of_ble_eq_true rfl) _)) | (refine' Nat.lt_of_le_of_lt ?le ?lt; (case lt => with_reducible assumption); (case le => exact Nat.le_add_right _ _)))
  k_with "my units" => ((try simp only [units_in1, units_deeper, Around.mark_units, units_caller]); (try dsimp only [ktrTop]); (try simp only [Nat.add_assoc, Nat.reduceAdd]); first | decide | (refine' Nat.lt_of_le_of_lt ?le ?lt; (case lt => with_reducible assumption); (case le => exact Nat.add_le_add_left (Nat.le_of_ble_eq_true rfl) _)) | (refine' Nat.lt_of_le_of_lt ?le ?lt; (case lt => with_reducible assumption); (case le => exact Nat.le_add_right _ _)))
  k_with "my all" => exact below_ne (by assumption)
  k_with "my all" => assumption
  k_with "my all" => exact below_ne (ktn_ltOf (by first | assumption | (simp only [*]; done)))
  k_with "my use" => ((case B => k_asm); (case F => k_asm); (case X => k_asm); (case N => k_asm); (case T => k_asm); (case k => first | exact rfl | assumption); (case d => ktr_room); (case u => ktr_units))
  k_with "my fit" => first | omega | (simp only [List.length_append, List.length_cons, List.length_nil, List.length_map, List.length_take]; omega)
  k_with "my len" => (try simp only [List.length_append, List.length_cons, List.length_nil, Nat.zero_add, Nat.reduceAdd, Nat.cast_ofNat, Int.natCast_add])
  k_with "call builtin:len" => (k_here; (with_reducible show wpAny _ _ (call (Value.builtin "len") [Value.ref _]) _ _ _); k_dflt (refine' len_l ?N ?m ?z ?_; (case N => k_asm); (case m => k_mem); (case z => walk_at "my fit")); walk_at "my len")
  k_with "call builtin:len" => (k_here; (with_reducible show wpAny _ _ (call (Value.builtin "len") [Value.str _ _]) _ _ _); k_dflt (refine' len_TX ?z ?_; (case z => walk_at "my fit")); walk_at "my len")
  k_with "call builtin:list.append" => (k_here; (with_reducible show wpAny _ _ (call (Value.builtin _) [Value.ref _, _]) _ _ _); k_dflt (refine' append_l ?F ?N ?U ?z ?_; (case F => k_asm); (case N => k_asm); (case U => k_upd); (case z => walk_at "my fit"); k_whole); intro _ _ _; (try k_sweep))
  k_with "eval ListComp" => (k_here; k_dflt (refine LCg.ListComp_U (F₀ := by k_asm) (by with_unfolding_all rfl) (by decide) (by rfl) (by decide) (by rfl) ?_))
  k_with "CompSrc" => (refine Hold.intro ?_)
  k_with "call ref" => (refine Hold.intro ?_)
  k_with "pyIter ref" => (refine Hold.intro ?_)
  k_with "exec While Compare cons nil" => (refine Hold.intro ?_)
  k_with "call builtin:str.split" => (refine Hold.intro ?_)
  k_with "call builtin:str.find" => (refine Hold.intro ?_)
  k_with "truthy str" => (k_here; (with_reducible show wpAny _ _ (truthy (Value.str (TX _) _)) _ _ _); k_dflt (refine' truthy_TX ?z ?_; (case z => walk_at "my fit")))
  k_with "delItem ref int" => (k_here; k_dflt (refine' del_l ?F ?N ?e ?U ?f ?k ?l ?z ?_; (case F => k_asm); (case N => k_asm); (case k => exact rfl); (case e => kl_lit); (case U => k_upd); (case f => rfl); (case l => decide); (case z => walk_at "my fit"); k_whole); intro _ _ _; (try k_sweep))
  k_with "exec For Name Name cons nil" => (k_here; k_dflt (refine' For_invVF ?F ?k1 ?k2 ?_; (case F => k_asm); (case k1 => exact rfl); (case k2 => exact rfl)))
  k_with "exec For Name Call cons nil" => (k_here; k_dflt (refine' For_invVF ?F ?k1 ?k2 ?_; (case F => k_asm); (case k1 => exact rfl); (case k2 => exact rfl)))
  k_with "par enter" => (refine' code_def ?k1 ?k2 ?k3 ?k4 ?k5 ?kA ?kF ?kK ?k6 ?k7 ?k8 ?k9 ?kB ?_ ?c2 ?c3 ?c4 ?c5; (case kA => exact rfl); (case kF => exact rfl); (case kK => assumption); (case k1 => k_asm); (case k2 => k_asm); (case k3 => k_asm); (case k4 => k_asm); (case k5 => k_asm); (case k6 => k_is); (case k7 => k_is); (case k8 => ktr_room); (case k9 => (refine' kp_binds ?kx ?ke; (case kx => k_in); (case ke => exact fun _ => rfl))); (case c5 => decide); (case kB => exact locs rfl); (case c2 => exact rfl); (case c3 => exact rfl); (case c4 => exact rfl); k_whole; intro g9 L9 h9 G9 F9 N9 B9 X9 T9; (try dsimp only); (try k_lift B9); (try k_fold))
  k_with "callWith ref" => (k_here; k_dflt (refine' callWith_F ?k1 ?_; (case k1 => exact FnAt.of (by k_asm) (by assumption)); k_whole))
  k_with "FnAt" => (k_dflt (exact FnAt.of (by k_asm) (by assumption)))
  k_with "eval Name" => (with_reducible refine gen_tok (fun tk9 => ?_))
  k_with "execs cons" => (with_reducible refine gen_tok (fun tk9 => ?_))
  k_with "eval Constant int" => (with_reducible refine gen_tok (fun tk9 => ?_))
  k_with "eval Call" => (with_reducible refine gen_tok (fun tk9 => ?_))
  k_with "exec If" => (with_reducible refine gen_tok (fun tk9 => ?_))
  k_with "ite" => (with_reducible refine gen_tok (fun tk9 => ?_))
  unfold Says KK PR
  k_fill
  intro dp un gd cn cs a ccd cl outer A₀ base h₀ L m s p loose mean mg mb Q E B F X N T hk hd hu hret
  refine wpAny_call ?_
  k_dflt (walk_at "par enter")
  have hvl := hi.length
  k_steps
  refine Hold.out ?_
  rename Fr _ _ _ _ => lF1
  rename News _ _ _ _ => lN1
  with_unfolding_all refine While_inv2 (n₀ := zs.length) (BisJ l x tx (Value.ref kA) r zs.length news) lF1 lN1 (BisJ.mk (lo := 0) (Nat.zero_le _) hr (Nat.le_refl _) (by rfl) (by rfl) (by rfl) (by rfl) (by rw [← hvl]; rfl)) ?_ ?_
  · intro n m₁ nx h₁ tk₁ F₁ N₁ hJ
    refine BisJ.out hJ F₁ N₁ _ ?_
    clear hJ F₁ N₁ lF1 lN1
    intro lo hi tl th b1 b2 b3 hne F1 N₁
    refine gen_W fun W₉ R₉ hW₉ hR₉ => ?_
    k_steps
    · refine Hold.out ?_
      rename (lo : Int) < hi => hlh
      rw [mid_nat, Int.toNat_natCast]
      have hml : (lo + hi) / 2 < zs.length := mid_lt (by assumption) (by assumption)
      k_dflt (refine' says_use (hkey _ hml _) ?B ?F ?X ?N ?T ?k ?d ?u ?_; walk_at "my use")
      rintro v news' h' tk' F' N' ⟨⟨t, rfl⟩, rfl⟩
      k_sweep
      k_steps
      · rename x < kf _ => hx
        rename Fr _ _ _ _ => lF2
        rename News _ _ _ _ => lN2
        rw [mid_nat] at lF2
        have hq : r ≤ (lo + hi) / 2 := (hp _ hml).mp hx
        exact hW₉ _ _ (while_next lF2 lN2 (hne ▸ mid_dn (by assumption)) (BisJ.mk (hi := (lo + hi) / 2) b1 (by first | exact hq | exact Nat.le_of_not_lt hq) (Nat.le_of_lt (mid_lt (by assumption) b3)) (by rfl) (by rfl) (by rfl) (by rfl) (by rfl)))
      · rename ¬ (x < kf _) => hx
        rename Fr _ _ _ _ => lF2
        rename News _ _ _ _ => lN2
        rw [mid_nat] at lF2
        have hq : ¬ (r ≤ (lo + hi) / 2) := fun h => hx ((hp _ hml).mpr h)
        exact hW₉ _ _ (while_next lF2 lN2 (hne ▸ mid_up (by assumption)) (BisJ.mk (lo := (lo + hi) / 2 + 1) (by first | exact hq | exact Nat.lt_of_not_le hq) b2 b3 (by rfl) (by rfl) (by rfl) (by rfl) (by rfl)))
    · rename ¬ ((lo : Int) < hi) => hlh
      refine hR₉ _ ?_
      k_steps
      have e : lo = r := mid_end (by assumption) b1 b2
      subst e
      exact hret _ _ _ _ (by k_asm) (by k_asm) ⟨⟨_, rfl⟩, rfl⟩
  · exact PassesOwn.leaving
end
end
section
set_option maxRecDepth 100000
section
section
variable {prog : Program} {w : World} {A : Around} {E : Value → Shared → Prop} {s : Shared} {env : Env} {h₀ : Heap} {x : Str} {body : List Stmt} {Q : Flow → Shared → Prop}
theorem loop_text {txt : List Nat} {t : Tok} {m₀ : Str → Option Value} {news : Led} (J : Nat → (Str → Option Value) → Led → Prop)
    (hh : A.handled = none) (ha : ∀ c ∈ txt, c < 128) (F : Fr h₀ env.locals s.heap m₀) (N : News h₀ env.locals s.heap news) (hj : J 0 m₀ news)
    (turn : ∀ i c X u m₁ news₁ h tk oI, txt[i]? = some c → X = TX [c] → (∀ p ∈ news, p.1 < s.heap.objs.size) → (∀ p ∈ news₁, p.1 ≠ s.heap.objs.size) → J i m₁ news₁ → Fr h₀ env.locals h (fun y => if y = x then some (Value.str X u) else m₁ y) → News h₀ env.locals h ((s.heap.objs.size, oI) :: news₁) →
      wpAny (model prog w) A (execs body env) (TurnP h₀ env.locals s.heap.objs.size oI (J (i + 1)) { s with heap := h, toks := tk } Q) E { s with heap := h, toks := tk })
    (done : ∀ m₁ news₁ h tk, J txt.length m₁ news₁ → Fr h₀ env.locals h m₁ → News h₀ env.locals h news₁ → Q .next { s with heap := h, toks := tk }) :
    wpAny (model prog w) A (pyIter (.str (TX txt) t)) (fun it s₂ => LoopAtV prog w A h₀ env x body Q E it s₂) E s := by
  refine wpAny_pyIter_ascii ?_ ?_
  · show txt.toArray.all _ = true
    simpa using ha
  have W := Walks.strAscii (prog := prog) (w := w) hh s.heap.objs.size (TX txt) t
  refine loop_walks [] _ J W (fun _ _ _ _ q hq => nomatch hq) (fun i h hs => ⟨_, hs.choose_spec.1⟩) ⟨_, Heap.get?_push_size _ rfl, rfl, rfl⟩ F N hj ?_ ?_
  · rintro i v m₁ news₁ h tk oI hi ⟨c, u, hc, rfl⟩ hlt hoff hJ F₁ N₁
    refine turn i c ⟨#[c]⟩ u m₁ news₁ h tk oI ?_ rfl hlt hoff hJ F₁ N₁
    have e : txt.toArray[i]? = some c := hc
    simpa using e
  · intro m₁ news₁ h tk hJ F₁ N₁
    refine done m₁ news₁ h tk ?_ F₁ N₁
    have e : (TX txt).cps.size = txt.length := by show txt.toArray.size = _; simp
    rw [e] at hJ; exact hJ
end
noncomputable def bumpF (cnt : List Int) (b : Nat) : List Int :=
  let c := if cnt.length ≤ b then cnt ++ List.replicate (b - cnt.length + 1) 0 else cnt
  c.set b (c.getD b 0 + 1)
structure WS where
  nt : Nat
  b : Nat
  cnt : List Int
noncomputable def stepW (s : WS) (c : Nat) : WS := if c = 32 then ⟨s.nt, s.b + 1, s.cnt⟩ else ⟨s.nt + 1, 0, bumpF s.cnt s.b⟩
noncomputable def runW (l : List Nat) : WS := l.foldl stepW ⟨0, 0, []⟩
theorem runW_step {l : List Nat} {i c : Nat} (h : l[i]? = some c) : runW (l.take (i + 1)) = stepW (runW (l.take i)) c := by
  unfold runW
  rw [List.take_add_one, h, List.foldl_append]; rfl
theorem bumpF_len (cnt : List Int) (b : Nat) : (bumpF cnt b).length = max cnt.length (b + 1) := by
  unfold bumpF
  dsimp only
  rw [List.length_set]
  split <;> (try simp only [List.length_append, List.length_replicate]) <;> lia
theorem bump_ext (cnt : List Int) (b n : Nat) (hn : n = cnt.length) (h : (n : Int) ≤ b) : (cnt ++ (List.replicate ((b : Int) - (n : Int) + 1).toNat [(0 : Int)]).flatten).set ((b : Int)).toNat ((cnt ++ (List.replicate ((b : Int) - (n : Int) + 1).toNat [(0 : Int)]).flatten).getD ((b : Int)).toNat 0 + 1) = bumpF cnt b := by
  subst hn
  have e : ((b : Int) - (cnt.length : Int) + 1).toNat = b - cnt.length + 1 := by lia
  rw [e, Int.toNat_natCast, List.flatten_replicate_singleton]
  unfold bumpF
  rw [if_pos (by lia)]
theorem bump_in (cnt : List Int) (b n : Nat) (hn : n = cnt.length) (h : ¬ (n : Int) ≤ b) : cnt.set ((b : Int)).toNat (cnt.getD ((b : Int)).toNat 0 + 1) = bumpF cnt b := by
  subst hn
  unfold bumpF
  rw [if_neg (by lia), Int.toNat_natCast]
theorem runW_bd : ∀ (l : List Nat) (i : Nat), i ≤ l.length → (runW (l.take i)).cnt.length ≤ i ∧ (runW (l.take i)).b ≤ i ∧ (runW (l.take i)).nt ≤ i := by
  intro l i
  induction i with
  | zero => intro _; simp [runW]
  | succ i ih =>
    intro h
    obtain ⟨a, b, c⟩ := ih (by lia)
    rw [runW_step (List.getElem?_eq_getElem (by lia : i < l.length))]
    unfold stepW
    split
    · dsimp only; lia
    · dsimp only
      rw [bumpF_len]
      lia
end
end
section
section
theorem drop3 {h₀ h : Heap} {L : Addr} {a b c : Addr × Obj} {l : Led} (N : News h₀ L h (a :: b :: c :: l)) : News h₀ L h (a :: b :: l) := news_sub N fun p hp => by
  rcases List.mem_cons.mp hp with rfl | hp
  · exact .head _
  · rcases List.mem_cons.mp hp with rfl | hp
    · exact .tail _ (.head _)
    · exact .tail _ (.tail _ (.tail _ hp))
noncomputable abbrev WE (w : World) (n : String) (t : Tok) (v : Value) : DictEntry := { hash := PyData.keyHash w.params (Str.ofString n), key := Value.str (Str.ofString n) t, val := v }
noncomputable abbrev tupO (us : List Value) : Obj := { cls := .type "tuple", data := .seq us.toArray }
/-- what an object of Whitespace leaves in the ledger -/
noncomputable def WhiteR (w : World) (st : WS) (news : Led) (v : Value) (news' : Led) : Prop :=
  ∃ (x d D1 D2 : Addr) (us : List Value) (q1 q2 q3 q4 q5 tb tn : Tok) (v1 v2 v5 : Value), v = .ref x ∧ IntsAre us st.cnt ∧ (∀ p ∈ news, p.1 < d) ∧ @LT.lt Nat _ d x ∧ @LT.lt Nat _ x D1 ∧ @LT.lt Nat _ D1 D2 ∧
    news' = (D2, tupO [.ref D1, .int (st.b : Nat) tb]) :: (D1, tupO us) :: (x, instObj 115 d) :: (d, dictOf [WE w "raw" q1 v1, WE w "n" q2 v2, WE w "nt" q3 (.int (st.nt : Nat) tn), WE w "norm" q4 (.ref D2), WE w "is_simple" q5 v5] 5) :: news
theorem WhiteR.mk {w : World} {st : WS} {news : Led} {x d D1 D2 : Addr} {us : List Value} {q1 q2 q3 q4 q5 tb tn : Tok} {v1 v2 v5 : Value} (h1 : IntsAre us st.cnt) (h2 : ∀ p ∈ news, p.1 < d) (h3 : @LT.lt Nat _ d x) (h4 : @LT.lt Nat _ x D1) (h5 : @LT.lt Nat _ D1 D2) :
    WhiteR w st news (.ref x) ((D2, tupO [.ref D1, .int (st.b : Nat) tb]) :: (D1, tupO us) :: (x, instObj 115 d) :: (d, dictOf [WE w "raw" q1 v1, WE w "n" q2 v2, WE w "nt" q3 (.int (st.nt : Nat) tn), WE w "norm" q4 (.ref D2), WE w "is_simple" q5 v5] 5) :: news) :=
  ⟨_, _, _, _, _, _, _, _, _, _, _, _, _, _, _, rfl, h1, h2, h3, h4, h5, rfl⟩
theorem WhiteR.out {w : World} {st : WS} {news : Led} {v : Value} {news' : Led} (hR : WhiteR w st news v news') {h₀ h : Heap} {L : Addr} (N : News h₀ L h news') (C : Value → Prop)
    (k : ∀ (x d D1 D2 : Addr) (us : List Value) (q1 q2 q3 q4 q5 tb tn : Tok) (v1 v2 v5 : Value), IntsAre us st.cnt → (∀ p ∈ news, p.1 < d) → @LT.lt Nat _ d x → @LT.lt Nat _ x D1 → @LT.lt Nat _ D1 D2 →
      News h₀ L h ((D2, tupO [.ref D1, .int (st.b : Nat) tb]) :: (D1, tupO us) :: (x, instObj 115 d) :: (d, dictOf [WE w "raw" q1 v1, WE w "n" q2 v2, WE w "nt" q3 (.int (st.nt : Nat) tn), WE w "norm" q4 (.ref D2), WE w "is_simple" q5 v5] 5) :: news) → C (.ref x)) : C v := by
  obtain ⟨x, d, D1, D2, us, q1, q2, q3, q4, q5, tb, tn, v1, v2, v5, rfl, h1, h2, h3, h4, h5, rfl⟩ := hR
  exact k _ _ _ _ _ _ _ _ _ _ _ _ _ _ _ h1 h2 h3 h4 h5 N
/-- what holds at each turn of the loop over the blanks -/
noncomputable def WhiteJ (w : World) (x' d' : Addr) (tq t1 : Tok) (pre suf : List Nat) (news : Led) (i : Nat) (m₁ : Str → Option Value) (nx : Led) : Prop :=
  i ≤ pre.length ∧ ∃ (lc : Addr) (us : List Value) (k : Nat) (z : Int) (tz tb tn : Tok), @LT.lt Nat _ x' lc ∧ (∀ p ∈ news, p.1 < lc) ∧ nx = (lc, listOf us.toArray k) :: (x', instObj 115 d') :: (d', dictOf [{ hash := PyData.keyHash w.params (Str.ofString "raw"), key := Value.str (Str.ofString "raw") tq, val := Value.str (TX (pre ++ 120 :: suf)) t1 }] 1) :: news ∧ IntsAre us (runW (pre.take i)).cnt ∧ (0 ≤ z ∧ z ≤ i) ∧
    m₁ (Str.ofString "count") = some (Value.ref lc) ∧ m₁ (Str.ofString "n") = some (Value.int z tz) ∧ m₁ (Str.ofString "b") = some (Value.int ((runW (pre.take i)).b : Nat) tb) ∧ m₁ (Str.ofString "nt") = some (Value.int ((runW (pre.take i)).nt : Nat) tn) ∧ m₁ (Str.ofString "self") = some (Value.ref x') ∧ m₁ (Str.ofString "S") = some (Value.str (Str.ofString " ") 266) ∧ m₁ (Str.ofString "T") = some (Value.str (Str.ofString "\t") 267)
section
variable {w : World} {x' d' : Addr} {tq t1 : Tok} {pre suf : List Nat} {news : Led} {i : Nat} {m₁ : Str → Option Value}
theorem WhiteJ.mk {lc : Addr} {us : List Value} {k : Nat} {z : Int} {tz tb tn : Tok} (h0 : i ≤ pre.length) (h1 : @LT.lt Nat _ x' lc) (h2 : ∀ p ∈ news, p.1 < lc) (h3 : IntsAre us (runW (pre.take i)).cnt) (h4 : 0 ≤ z) (h5 : z ≤ i)
    (e1 : m₁ (Str.ofString "count") = some (Value.ref lc)) (e2 : m₁ (Str.ofString "n") = some (Value.int z tz)) (e3 : m₁ (Str.ofString "b") = some (Value.int ((runW (pre.take i)).b : Nat) tb)) (e4 : m₁ (Str.ofString "nt") = some (Value.int ((runW (pre.take i)).nt : Nat) tn)) (e5 : m₁ (Str.ofString "self") = some (Value.ref x')) (e6 : m₁ (Str.ofString "S") = some (Value.str (Str.ofString " ") 266)) (e7 : m₁ (Str.ofString "T") = some (Value.str (Str.ofString "\t") 267)) : WhiteJ w x' d' tq t1 pre suf news i m₁ ((lc, listOf us.toArray k) :: (x', instObj 115 d') :: (d', dictOf [{ hash := PyData.keyHash w.params (Str.ofString "raw"), key := Value.str (Str.ofString "raw") tq, val := Value.str (TX (pre ++ 120 :: suf)) t1 }] 1) :: news) :=
  ⟨h0, _, _, _, _, _, _, _, h1, h2, rfl, h3, ⟨h4, h5⟩, e1, e2, e3, e4, e5, e6, e7⟩
theorem WhiteJ.out {nx : Led} (hJ : WhiteJ w x' d' tq t1 pre suf news i m₁ nx) {h₀ h : Heap} {L : Addr} {I : Addr} {oI : Obj} {v : Value} (F : Fr h₀ L h (fun y => if y = (Str.ofString "ch") then some v else m₁ y)) (N : News h₀ L h ((I, oI) :: nx)) (hoff : ∀ p ∈ nx, p.1 ≠ I) (C : Prop)
    (k : ∀ (lc : Addr) (us : List Value) (k : Nat) (z : Int) (tz tb tn : Tok), i ≤ pre.length → @LT.lt Nat _ x' lc → (∀ p ∈ news, p.1 < lc) → IntsAre us (runW (pre.take i)).cnt → 0 ≤ z → z ≤ i →
      Fr h₀ L h (fun y => if y = Str.ofString "count" then some (Value.ref lc) else if y = Str.ofString "n" then some (Value.int z tz) else if y = Str.ofString "b" then some (Value.int ((runW (pre.take i)).b : Nat) tb) else if y = Str.ofString "nt" then some (Value.int ((runW (pre.take i)).nt : Nat) tn) else if y = Str.ofString "self" then some (Value.ref x') else if y = Str.ofString "S" then some (Value.str (Str.ofString " ") 266) else if y = Str.ofString "T" then some (Value.str (Str.ofString "\t") 267) else if y = (Str.ofString "ch") then some v else m₁ y) →
      News h₀ L h ((I, oI) :: (lc, listOf us.toArray k) :: (x', instObj 115 d') :: (d', dictOf [{ hash := PyData.keyHash w.params (Str.ofString "raw"), key := Value.str (Str.ofString "raw") tq, val := Value.str (TX (pre ++ 120 :: suf)) t1 }] 1) :: news) → (∀ p ∈ (lc, listOf us.toArray k) :: (x', instObj 115 d') :: (d', dictOf [{ hash := PyData.keyHash w.params (Str.ofString "raw"), key := Value.str (Str.ofString "raw") tq, val := Value.str (TX (pre ++ 120 :: suf)) t1 }] 1) :: news, p.1 ≠ I) → C) : C := by
  obtain ⟨hi, lc, us, k', z, tz, tb, tn, hx1, hx3, rfl, hus, hz, e1, e2, e3, e4, e5, e6, e7⟩ := hJ
  exact k lc us k' z tz tb tn hi hx1 hx3 hus hz.1 hz.2 (fr_know (Str.ofString "count") (by exact e1) (fr_know (Str.ofString "n") (by exact e2) (fr_know (Str.ofString "b") (by exact e3) (fr_know (Str.ofString "nt") (by exact e4) (fr_know (Str.ofString "self") (by exact e5) (fr_know (Str.ofString "S") (by exact e6) (fr_know (Str.ofString "T") (by exact e7) F))))))) N hoff
end
set_option maxRecDepth 100000 in
set_option maxHeartbeats 8000000 in
theorem white_says (w : World) (pre suf : List Nat) (t1 : Tok) (news : Led) (h1 : ∀ c ∈ pre, c = 32 ∨ c = 9) (h2 : ∀ c ∈ suf, c < 128) (l1 : pre.length ≤ 1000) (l2 : suf.length ≤ 1000) :
    Says w (.ref 115) [.str (TX (pre ++ 120 :: suf)) t1] [] 2 10 news (WhiteR w (runW pre) news) := by
  w_top off
  k_with_none
  k_with "law conj" => ((repeat (rename @LT.lt Nat _ _ _ ∧ _ => hq; first | exact hq.1 | exact hq.2.1 | exact hq.2.2.1 | exact hq.2.2.2.1 | exact hq.2.2.2.2.1 | exact hq.2.2.2.2.2.1 | exact hq.2.2.2.2.2.2.1 | exact hq.2.2.2.2.2.2.2.1 | exact hq.2.2.2.2.2.2.2.2.1 | exact hq.2.2.2.2.2.2.2.2.2.1 | exact hq.2.2.2.2.2.2.2.2.2.2.1 | exact hq.2.2.2.2.2.2.2.2.2.2.2.1 | clear hq)); done)
  k_with "law lt" => first | exact Nat.lt_succ_self _ | assumption | walk_at "law conj" | ((fail_if_success (with_reducible show _ < @OfNat.ofNat Nat _ _)); refine Nat.lt_succ_of_lt ?_; walk_at "law lt") | (refine' Nat.lt_trans ?la ?lb; (case lb => assumption); (case la => walk_at "law conj"))
  k_with "ne conj" => (rename @Ne Nat _ _ ∧ _ => hq; with_reducible first | exact hq.1 | exact hq.1.symm | exact hq.2 | exact hq.2.symm | exact hq.2.1 | exact hq.2.1.symm | exact hq.2.2 | exact hq.2.2.symm | exact hq.2.2.1 | exact hq.2.2.1.symm | exact hq.2.2.2 | exact hq.2.2.2.symm | exact hq.2.2.2.1 | exact hq.2.2.2.1.symm | exact hq.2.2.2.2 | exact hq.2.2.2.2.symm | exact hq.2.2.2.2.1 | exact hq.2.2.2.2.1.symm | exact hq.2.2.2.2.2 | exact hq.2.2.2.2.2.symm | exact hq.2.2.2.2.2.1 | exact hq.2.2.2.2.2.1.symm | exact hq.2.2.2.2.2.2 | exact hq.2.2.2.2.2.2.symm | exact hq.2.2.2.2.2.2.1 | exact hq.2.2.2.2.2.2.1.symm | exact hq.2.2.2.2.2.2.2 | exact hq.2.2.2.2.2.2.2.symm | exact hq.2.2.2.2.2.2.2.1 | exact hq.2.2.2.2.2.2.2.1.symm | exact hq.2.2.2.2.2.2.2.2 | exact hq.2.2.2.2.2.2.2.2.symm | exact hq.2.2.2.2.2.2.2.2.1 | exact hq.2.2.2.2.2.2.2.2.1.symm | exact hq.2.2.2.2.2.2.2.2.2 | exact hq.2.2.2.2.2.2.2.2.2.symm | (clear hq; walk_at "ne conj"))
  k_with "my ne" => (refine neN ?_; (try dsimp only); k_dflt (first | assumption | (refine Ne.symm ?_; assumption) | decide | (refine Nat.ne_of_lt ?_; walk_at "law lt") | (refine Nat.ne_of_gt ?_; walk_at "law lt") | omega))
  k_with "my room" => ((try simp only [depth_under_make, depth_under_kw, depth_in1, depth_deeper, depth_caller]); (try dsimp only [ktrTop]); (try simp only [Nat.add_assoc, Nat.reduceAdd]); first | decide | (refine' Nat.lt_of_le_of_lt ?le ?lt; (case lt => with_reducible assumption); (case le => exact Nat.add_le_add_left (Nat.le_of_ble_eq_true rfl) _)) | (refine' Nat.lt_of_le_of_lt ?le ?lt; (case lt => with_reducible assumption); (case le => exact Nat.le_add_right _ _)))
  k_with "my units" => ((try simp only [units_in1, units_deeper, Around.mark_units, units_caller]); (try dsimp only [ktrTop]); (try simp only [Nat.add_assoc, Nat.reduceAdd]); first | decide | (refine' Nat.lt_of_le_of_lt ?le ?lt; (case lt => with_reducible assumption); (case le => exact Nat.add_le_add_left (Nat.le_of_ble_eq_true rfl) _)) | (refine' Nat.lt_of_le_of_lt ?le ?lt; (case lt => with_reducible assumption); (case le => exact Nat.le_add_right _ _)))
  k_with "my all" => exact below_ne (by assumption)
  k_with "my all" => assumption
  k_with "my all" => exact below_ne (ktn_ltOf (by first | assumption | (simp only [*]; done)))
  k_with "my use" => ((case B => k_asm); (case F => k_asm); (case X => k_asm); (case N => k_asm); (case T => k_asm); (case k => first | exact rfl | assumption); (case d => ktr_room); (case u => ktr_units))
  k_with "my fit" => first | omega | (simp only [List.length_append, List.length_cons, List.length_nil, List.length_map, List.length_take]; omega)
  k_with "my len" => (try simp only [List.length_append, List.length_cons, List.length_nil, Nat.zero_add, Nat.reduceAdd, Nat.cast_ofNat, Int.natCast_add])
  k_with "call builtin:len" => (k_here; (with_reducible show wpAny _ _ (call (Value.builtin "len") [Value.ref _]) _ _ _); k_dflt (refine' len_l ?N ?m ?z ?_; (case N => k_asm); (case m => k_mem); (case z => walk_at "my fit")); walk_at "my len")
  k_with "call builtin:len" => (k_here; (with_reducible show wpAny _ _ (call (Value.builtin "len") [Value.str _ _]) _ _ _); k_dflt (refine' len_TX ?z ?_; (case z => walk_at "my fit")); walk_at "my len")
  k_with "call builtin:list.append" => (k_here; (with_reducible show wpAny _ _ (call (Value.builtin _) [Value.ref _, _]) _ _ _); k_dflt (refine' append_l ?F ?N ?U ?z ?_; (case F => k_asm); (case N => k_asm); (case U => k_upd); (case z => walk_at "my fit"); k_whole); intro _ _ _; (try k_sweep))
  k_with "eval ListComp" => (k_here; k_dflt (refine LCg.ListComp_U (F₀ := by k_asm) (by with_unfolding_all rfl) (by decide) (by rfl) (by decide) (by rfl) ?_))
  k_with "CompSrc" => (refine Hold.intro ?_)
  k_with "call ref" => (refine Hold.intro ?_)
  k_with "pyIter ref" => (refine Hold.intro ?_)
  k_with "exec While Compare cons nil" => (refine Hold.intro ?_)
  k_with "call builtin:str.split" => (refine Hold.intro ?_)
  k_with "call builtin:str.find" => (refine Hold.intro ?_)
  k_with "truthy str" => (k_here; (with_reducible show wpAny _ _ (truthy (Value.str (TX _) _)) _ _ _); k_dflt (refine' truthy_TX ?z ?_; (case z => walk_at "my fit")))
  k_with "delItem ref int" => (k_here; k_dflt (refine' del_l ?F ?N ?e ?U ?f ?k ?l ?z ?_; (case F => k_asm); (case N => k_asm); (case k => exact rfl); (case e => kl_lit); (case U => k_upd); (case f => rfl); (case l => decide); (case z => walk_at "my fit"); k_whole); intro _ _ _; (try k_sweep))
  k_with "exec For Name Name cons nil" => (k_here; k_dflt (refine' For_invVF ?F ?k1 ?k2 ?_; (case F => k_asm); (case k1 => exact rfl); (case k2 => exact rfl)))
  k_with "exec For Name Call cons nil" => (k_here; k_dflt (refine' For_invVF ?F ?k1 ?k2 ?_; (case F => k_asm); (case k1 => exact rfl); (case k2 => exact rfl)))
  k_with "par enter" => (refine' code_def ?k1 ?k2 ?k3 ?k4 ?k5 ?kA ?kF ?kK ?k6 ?k7 ?k8 ?k9 ?kB ?_ ?c2 ?c3 ?c4 ?c5; (case kA => exact rfl); (case kF => exact rfl); (case kK => assumption); (case k1 => k_asm); (case k2 => k_asm); (case k3 => k_asm); (case k4 => k_asm); (case k5 => k_asm); (case k6 => k_is); (case k7 => k_is); (case k8 => ktr_room); (case k9 => (refine' kp_binds ?kx ?ke; (case kx => k_in); (case ke => exact fun _ => rfl))); (case c5 => decide); (case kB => exact locs rfl); (case c2 => exact rfl); (case c3 => exact rfl); (case c4 => exact rfl); k_whole; intro g9 L9 h9 G9 F9 N9 B9 X9 T9; (try dsimp only); (try k_lift B9); (try k_fold))
  k_with "call type:tuple" => (k_here; (with_reducible show wpAny _ _ (call (Value.type _) [Value.ref _]) _ _ _); k_dflt (refine' kde_tupleOf ?k1 ?k2 ?k3 ?k4 ?k5 ?_; (case k1 => k_asm); (case k2 => k_asm); (case k3 => exact News.isList (by k_asm) (by k_mem)); (case k4 => (simp only [List.size_toArray]; omega)); (case k5 => exact List.toList_toArray); k_whole); intro D9 h9 F9 N9 l9; (try k_lt l9); (try k_sweep))
  k_with "eval Name" => (with_reducible refine gen_tok (fun tk9 => ?_))
  k_with "execs cons" => (with_reducible refine gen_tok (fun tk9 => ?_))
  k_with "eval Constant int" => (with_reducible refine gen_tok (fun tk9 => ?_))
  k_with "eval Call" => (with_reducible refine gen_tok (fun tk9 => ?_))
  k_with "exec If" => (with_reducible refine gen_tok (fun tk9 => ?_))
  k_with "ite" => (with_reducible refine gen_tok (fun tk9 => ?_))
  unfold Says KK PR
  k_fill
  intro dp un gd cn cs a ccd cl outer A₀ base h₀ L m s p loose mean mg mb Q E B F X N T hk hd hu hret
  k_dflt (refine' call_cls ?k1 ?k2 ?k3 ?k4 ?k5 ?k6 ?_; (case k1 => k_asm); (case k2 => k_asm); (case k3 => k_asm); (case k4 => k_is); (case k5 => k_is); (case k6 => k_is); k_whole)
  intro x' d' h' F' N' l1 l2; (try k_lt l1); (try k_lt2 l2); (try k_sweep)
  k_dflt (walk_at "par enter")
  k_steps
  rename Fr _ _ _ _ => lF1
  rename News _ _ _ _ => lN1
  rename _ ∧ _ ∧ _ ∧ AllLt _ news => hl4
  rename_i lc hA hB hC hD hE hE2
  obtain ⟨tq, lN2⟩ : ∃ tq, News _ _ _ ((lc, listOf [].toArray 0) :: (x', instObj 115 d') :: (d', dictOf [{ hash := PyData.keyHash w.params (Str.ofString "raw"), key := Value.str (Str.ofString "raw") tq, val := Value.str (TX (pre ++ 120 :: suf)) t1 }] 1) :: news) := ⟨_, news_sub lN1 (by
    intro p hp
    rcases List.mem_cons.mp hp with rfl | hp
    · exact .head _
    · exact .tail _ (.tail _ hp))⟩
  have hx1 : x' < lc := hl4.2.1
  have hx3 : ∀ p ∈ news, p.1 < lc := ktn_ltOf hl4.2.2.2
  with_unfolding_all refine loop_text (txt := pre ++ 120 :: suf) (WhiteJ w x' d' tq t1 pre suf news) rfl ?_ lF1 lN2 (WhiteJ.mk (us := []) (k := 0) (z := 0) (Nat.zero_le _) hx1 hx3 .nil (by decide) (by decide) (by rfl) (by rfl) (by rfl) (by rfl) (by rfl) (by rfl) (by rfl)) ?_ ?_
  · intro c hc
    rcases List.mem_append.mp hc with hc | hc
    · rcases h1 c hc with rfl | rfl <;> decide
    · rcases List.mem_cons.mp hc with rfl | hc
      · decide
      · exact h2 c hc
  · clear hx1 hx3 hl4 lF1 lN1 lN2
    intro i c X u m₁ news₁ h₁ tk₁ oI hc hX hlt hoff hJ F₁ N₁
    refine WhiteJ.out hJ F₁ N₁ hoff _ ?_
    clear hJ F₁ N₁ hoff
    intro lc us k z tz tb tn hi hx1 hx3 hus hz1 hz2 F1 N₁ hoff
    refine gen_Q fun Q₉ hQ₉ => ?_
    obtain ⟨c1, c2, c3⟩ := runW_bd pre i hi
    have hul := hus.length
    by_cases hip : i = pre.length
    · subst hip
      have hcc : c = 120 := by simpa using hc.symm
      subst hcc
      have hX2 : X = Str.ofString "x" := hX.trans (by decide +kernel)
      subst hX2
      clear hX
      rw [List.take_length] at hus F1 c1 c2 c3 hul
      have lN3 := news_sub N₁ (fun p hp => List.mem_cons_of_mem _ hp)
      clear N₁ hlt hoff
      k_steps
      refine hQ₉ _ _ ?_
      clear hQ₉
      dsimp only [TurnP]
      k_steps
      rename News h₀ L _ _ => lN4
      exact hret _ _ _ _ (by k_asm) (drop3 lN4) (WhiteR.mk hus l1 l2 (by omega) (by omega))
    · have hil : i < pre.length := by omega
      have hcp : pre[i]? = some c := by rw [← hc, List.getElem?_append_left hil]
      have hst := runW_step hcp
      have hrI := hoff _ (.head _)
      dsimp only at hrI
      rcases h1 c (List.mem_of_getElem? hcp) with rfl | rfl
      · have hX2 : X = Str.ofString " " := hX.trans (by decide +kernel)
        subst hX2
        clear hX
        k_steps
        rename Fr _ _ _ _ => lF2
        rename News _ _ _ _ => lN2
        refine hQ₉ _ _ ?_
        exact turn_next _ lF2 lN2 (by k_mem) (fun p hp => List.mem_cons_of_mem _ hp) hoff (WhiteJ.mk (z := z + 1) (by omega) hx1 hx3 (by rw [hst]; exact hus) (by omega) (by omega) (by rfl) (by rfl) (by rw [hst]; rfl) (by rw [hst]; rfl) (by rfl) (by rfl) (by rfl))
      · have hX2 : X = Str.ofString "\t" := hX.trans (by decide +kernel)
        subst hX2
        clear hX
        k_steps
        · rename Fr _ _ _ _ => lF2
          rename News _ _ _ _ => lN2
          rename (us.length : Int) ≤ _ => hle
          rename_i D ws h3 hIq hlq h2x t1x h1x hiq hlen hsum h0
          refine hQ₉ _ _ ?_
          refine turn_next ((D, listOf (ws.set _ _).toArray 0) :: (x', instObj 115 d') :: (d', _) :: news) lF2 lN2 (by k_mem) ?_ ?_ (WhiteJ.mk (z := z + 1) (by omega) hlq.2.2.2.2.1 (ktn_ltOf hlq.2.2.2.2.2.2) (by
            rw [bump_ext _ _ _ hul hle] at hiq
            rw [hst]
            exact hiq) (by omega) (by omega) (by rfl) (by rfl) (by rw [hst]; rfl) (by rw [hst]; rfl) (by rfl) (by rfl) (by rfl))
          · intro p hp
            rcases List.mem_cons.mp hp with rfl | hp
            · exact .head _
            · exact .tail _ (.tail _ (.tail _ (.tail _ (.tail _ hp))))
          · intro q hq
            rcases List.mem_cons.mp hq with rfl | hq
            · exact Nat.ne_of_gt hlq.2.2.1
            · exact hoff q (.tail _ hq)
        · rename Fr _ _ _ _ => lF2
          rename News _ _ _ _ => lN2
          rename ¬ (_ ≤ _) => hle
          rename IntsAre (us.set _ _) _ => hiq
          refine hQ₉ _ _ ?_
          refine turn_next _ lF2 lN2 (by k_mem) (fun p hp => List.mem_cons_of_mem _ hp) ?_ (WhiteJ.mk (z := z + 1) (by omega) hx1 hx3 (by
            rw [bump_in _ _ _ hul hle] at hiq
            rw [hst]
            exact hiq) (by omega) (by omega) (by rfl) (by rfl) (by rw [hst]; rfl) (by rw [hst]; rfl) (by rfl) (by rfl) (by rfl))
          · intro q hq
            rcases List.mem_cons.mp hq with rfl | hq
            · exact hrI
            · exact hoff q (.tail _ hq)
  · intro m₁ news₁ h₁ tk₁ hJ _ _
    exact absurd hJ.1 (by simp)
end
end
section
section
section
variable {prog : Program} {w : World} {A : Around} {E : Value → Shared → Prop} {s : Shared} {h₀ : Heap} {L : Addr} {m : Str → Option Value} {news : Led}
theorem len_t {D : Addr} {us : List Value} {Q : Value → Shared → Prop} (N : News h₀ L s.heap news) (hm : (D, tupO us) ∈ news) (hf : us.length < 2 ^ 62) (h : Q (.int (us.length : Nat) (s.toks + 1)) { s with toks := s.toks + 1 + 1 }) : wpAny (model prog w) A (call (.builtin "len") [.ref D]) Q E s := by
  refine PySem.P.len_tuple (N _ hm).1 (by rw [List.size_toArray]; omega) ?_
  rw [List.size_toArray]
  exact h
theorem item_t {value slice : Expr} {D : Addr} {us : List Value} {zs : List Int} {i : Int} {u : Tok} {Q : Value → Shared → Prop} (N : News h₀ L s.heap news) (hm : (D, tupO us) ∈ news) (hi : IntsAre us zs) (h0 : 0 ≤ i) (h1 : i < (zs.length : Int)) (hz : zs.length ≤ 1000) (h : ∀ t', Q (.int (zs.getD i.toNat 0) t') s)
    (hs : subscripted slice false (.ref D) (.int i u) = operate [.ref D, .int i u] (getItem (.ref D) (.int i u)) := by with_unfolding_all rfl) :
    wpAny (model prog w) A (subscriptTail value slice (.ref D) (.int i u)) Q E s := by
  have hlt : i.toNat < zs.length := by omega
  obtain ⟨t', e⟩ := hi.get i.toNat (zs.getD i.toNat 0) (getD_at _ hlt)
  have hn : i < ((us.toArray.size : Nat) : Int) := by rw [List.size_toArray, hi.length]; exact h1
  exact item_tupleT (News.isTup N hm) (by omega) (by omega) (by simpa using seqIndex_of h0 hn) e (h t') hs
end
noncomputable def ilF (ts : Nat) (cnt : List Int) : Nat → Int
  | 0 => 0
  | j + 1 => ilF ts cnt j + Int.fdiv (ts + j) ts * cnt.getD (ts + j) 0
theorem toNat_add (a b : Nat) : ((a : Int) + (b : Int)).toNat = a + b := by omega
/-- what holds at each turn -/
noncomputable def IndJ (x D1 : Addr) (ts : Nat) (st : WS) (news : Led) (i : Nat) (m₁ : Str → Option Value) (nx : Led) : Prop := ∃ (ta tb tc : Tok), nx = news ∧ m₁ (Str.ofString "self") = some (Value.ref x) ∧ m₁ (Str.ofString "count") = some (Value.ref D1) ∧ m₁ (Str.ofString "tabsize") = some (Value.int (ts : Nat) ta) ∧ m₁ (Str.ofString "trailing") = some (Value.int (st.b : Nat) tb) ∧ m₁ (Str.ofString "il") = some (Value.int (ilF ts st.cnt i) tc)
theorem IndJ.mk {x D1 : Addr} {ts : Nat} {st : WS} {news : Led} {i : Nat} {m₁ : Str → Option Value} {ta tb tc : Tok}  (e1 : m₁ (Str.ofString "self") = some (Value.ref x)) (e2 : m₁ (Str.ofString "count") = some (Value.ref D1)) (e3 : m₁ (Str.ofString "tabsize") = some (Value.int (ts : Nat) ta)) (e4 : m₁ (Str.ofString "trailing") = some (Value.int (st.b : Nat) tb)) (e5 : m₁ (Str.ofString "il") = some (Value.int (ilF ts st.cnt i) tc)) : IndJ x D1 ts st news i m₁ (news) := ⟨_, _, _, rfl, e1, e2, e3, e4, e5⟩
theorem IndJ.out {x D1 : Addr} {ts : Nat} {st : WS} {news : Led} {i : Nat} {m₁ : Str → Option Value} {nx : Led} (hJ : IndJ x D1 ts st news i m₁ nx) {h₀ h : Heap} {L I : Addr} {oI : Obj} {v : Value} (F : Fr h₀ L h (fun y => if y = Str.ofString "i" then some v else m₁ y)) (N : News h₀ L h ((I, oI) :: nx)) (hoff : ∀ p ∈ nx, p.1 ≠ I) (C : Prop)
    (k : ∀ (ta tb tc : Tok), Fr h₀ L h (fun y => if y = Str.ofString "self" then some (Value.ref x) else if y = Str.ofString "count" then some (Value.ref D1) else if y = Str.ofString "tabsize" then some (Value.int (ts : Nat) ta) else if y = Str.ofString "trailing" then some (Value.int (st.b : Nat) tb) else if y = Str.ofString "il" then some (Value.int (ilF ts st.cnt i) tc) else if y = Str.ofString "i" then some v else m₁ y) → News h₀ L h ((I, oI) :: news) → (∀ p ∈ news, p.1 ≠ I) → C) : C := by
  obtain ⟨ta, tb, tc, rfl, e1, e2, e3, e4, e5⟩ := hJ
  exact k ta tb tc (fr_k5 (Str.ofString "self") (Str.ofString "count") (Str.ofString "tabsize") (Str.ofString "trailing") (Str.ofString "il") (by exact e1) (by exact e2) (by exact e3) (by exact e4) (by exact e5) F) N hoff
theorem IndJ.fin {x D1 : Addr} {ts : Nat} {st : WS} {news : Led} {i : Nat} {m₁ : Str → Option Value} {nx : Led} (hJ : IndJ x D1 ts st news i m₁ nx) {h₀ h : Heap} {L : Addr} (F : Fr h₀ L h m₁) (N : News h₀ L h nx) (C : Prop)
    (k : ∀ (ta tb tc : Tok), Fr h₀ L h (fun y => if y = Str.ofString "self" then some (Value.ref x) else if y = Str.ofString "count" then some (Value.ref D1) else if y = Str.ofString "tabsize" then some (Value.int (ts : Nat) ta) else if y = Str.ofString "trailing" then some (Value.int (st.b : Nat) tb) else if y = Str.ofString "il" then some (Value.int (ilF ts st.cnt i) tc) else m₁ y) → News h₀ L h (news) → C) : C := by
  obtain ⟨ta, tb, tc, rfl, e1, e2, e3, e4, e5⟩ := hJ
  exact k ta tb tc (fr_k5 _ _ _ _ _ e1 e2 e3 e4 e5 F) N
set_option maxRecDepth 100000 in
set_option maxHeartbeats 8000000 in
theorem indent_says (w : World) (x d D1 D2 : Addr) (us : List Value) (st : WS) (q1 q2 q3 q4 q5 tb tn tt : Tok) (v1 v2 v5 : Value) (ts : Nat) (news : Led) (i1 : (x, instObj 115 d) ∈ news) (i2 : (d, dictOf [WE w "raw" q1 v1, WE w "n" q2 v2, WE w "nt" q3 (.int (st.nt : Nat) tn), WE w "norm" q4 (.ref D2), WE w "is_simple" q5 v5] 5) ∈ news)
   (i3 : (D2, tupO [.ref D1, .int (st.b : Nat) tb]) ∈ news) (i4 : (D1, tupO us) ∈ news) (hus : IntsAre us st.cnt) (h1 : 1 ≤ ts) (h2 : ts ≤ 32) (h3 : st.cnt.length ≤ 1000) (h4 : st.b ≤ 1000) (h5 : st.nt ≤ 1000) :
    Says w (.ref 84) [.ref x, .int (ts : Nat) tt] [] 1 8 news (fun v news' => (∃ t, v = .int ((st.b : Int) + ts * (ilF ts st.cnt (st.cnt.length - ts) + st.nt)) t) ∧ news' = news) := by
  w_top off
  k_with_none
  k_with "law conj" => ((repeat (rename @LT.lt Nat _ _ _ ∧ _ => hq; first | exact hq.1 | exact hq.2.1 | exact hq.2.2.1 | exact hq.2.2.2.1 | exact hq.2.2.2.2.1 | exact hq.2.2.2.2.2.1 | exact hq.2.2.2.2.2.2.1 | exact hq.2.2.2.2.2.2.2.1 | exact hq.2.2.2.2.2.2.2.2.1 | exact hq.2.2.2.2.2.2.2.2.2.1 | exact hq.2.2.2.2.2.2.2.2.2.2.1 | exact hq.2.2.2.2.2.2.2.2.2.2.2.1 | clear hq)); done)
  k_with "law lt" => first | exact Nat.lt_succ_self _ | assumption | walk_at "law conj" | ((fail_if_success (with_reducible show _ < @OfNat.ofNat Nat _ _)); refine Nat.lt_succ_of_lt ?_; walk_at "law lt") | (refine' Nat.lt_trans ?la ?lb; (case lb => assumption); (case la => walk_at "law conj"))
  k_with "ne conj" => (rename @Ne Nat _ _ ∧ _ => hq; with_reducible first | exact hq.1 | exact hq.1.symm | exact hq.2 | exact hq.2.symm | exact hq.2.1 | exact hq.2.1.symm | exact hq.2.2 | exact hq.2.2.symm | exact hq.2.2.1 | exact hq.2.2.1.symm | exact hq.2.2.2 | exact hq.2.2.2.symm | exact hq.2.2.2.1 | exact hq.2.2.2.1.symm | exact hq.2.2.2.2 | exact hq.2.2.2.2.symm | exact hq.2.2.2.2.1 | exact hq.2.2.2.2.1.symm | exact hq.2.2.2.2.2 | exact hq.2.2.2.2.2.symm | exact hq.2.2.2.2.2.1 | exact hq.2.2.2.2.2.1.symm | exact hq.2.2.2.2.2.2 | exact hq.2.2.2.2.2.2.symm | exact hq.2.2.2.2.2.2.1 | exact hq.2.2.2.2.2.2.1.symm | exact hq.2.2.2.2.2.2.2 | exact hq.2.2.2.2.2.2.2.symm | exact hq.2.2.2.2.2.2.2.1 | exact hq.2.2.2.2.2.2.2.1.symm | exact hq.2.2.2.2.2.2.2.2 | exact hq.2.2.2.2.2.2.2.2.symm | exact hq.2.2.2.2.2.2.2.2.1 | exact hq.2.2.2.2.2.2.2.2.1.symm | exact hq.2.2.2.2.2.2.2.2.2 | exact hq.2.2.2.2.2.2.2.2.2.symm | (clear hq; walk_at "ne conj"))
  k_with "my ne" => (refine neN ?_; (try dsimp only); k_dflt (first | assumption | (refine Ne.symm ?_; assumption) | decide | (refine Nat.ne_of_lt ?_; walk_at "law lt") | (refine Nat.ne_of_gt ?_; walk_at "law lt") | omega))
  k_with "my room" => ((try simp only [depth_under_make, depth_under_kw, depth_in1, depth_deeper, depth_caller]); (try dsimp only [ktrTop]); (try simp only [Nat.add_assoc, Nat.reduceAdd]); first | decide | (refine' Nat.lt_of_le_of_lt ?le ?lt; (case lt => with_reducible assumption); (case le => exact Nat.add_le_add_left (Nat.le_of_ble_eq_true rfl) _)) | (refine' Nat.lt_of_le_of_lt ?le ?lt; (case lt => with_reducible assumption); (case le => exact Nat.le_add_right _ _)))
  k_with "my units" => ((try simp only [units_in1, units_deeper, Around.mark_units, units_caller]); (try dsimp only [ktrTop]); (try simp only [Nat.add_assoc, Nat.reduceAdd]); first | decide | (refine' Nat.lt_of_le_of_lt ?le ?lt; (case lt => with_reducible assumption); (case le => exact Nat.add_le_add_left (Nat.le_of_ble_eq_true rfl) _)) | (refine' Nat.lt_of_le_of_lt ?le ?lt; (case lt => with_reducible assumption); (case le => exact Nat.le_add_right _ _)))
  k_with "my all" => exact below_ne (by assumption)
  k_with "my all" => assumption
  k_with "my all" => exact below_ne (ktn_ltOf (by first | assumption | (simp only [*]; done)))
  k_with "my use" => ((case B => k_asm); (case F => k_asm); (case X => k_asm); (case N => k_asm); (case T => k_asm); (case k => first | exact rfl | assumption); (case d => ktr_room); (case u => ktr_units))
  k_with "my fit" => first | omega | (simp only [List.length_append, List.length_cons, List.length_nil, List.length_map, List.length_take]; omega)
  k_with "my len" => (try simp only [List.length_append, List.length_cons, List.length_nil, Nat.zero_add, Nat.reduceAdd, Nat.cast_ofNat, Int.natCast_add])
  k_with "call builtin:len" => (k_here; (with_reducible show wpAny _ _ (call (Value.builtin "len") [Value.ref _]) _ _ _); k_dflt (refine' len_l ?N ?m ?z ?_; (case N => k_asm); (case m => k_mem); (case z => walk_at "my fit")); walk_at "my len")
  k_with "call builtin:len" => (k_here; (with_reducible show wpAny _ _ (call (Value.builtin "len") [Value.str _ _]) _ _ _); k_dflt (refine' len_TX ?z ?_; (case z => walk_at "my fit")); walk_at "my len")
  k_with "call builtin:list.append" => (k_here; (with_reducible show wpAny _ _ (call (Value.builtin _) [Value.ref _, _]) _ _ _); k_dflt (refine' append_l ?F ?N ?U ?z ?_; (case F => k_asm); (case N => k_asm); (case U => k_upd); (case z => walk_at "my fit"); k_whole); intro _ _ _; (try k_sweep))
  k_with "eval ListComp" => (k_here; k_dflt (refine LCg.ListComp_U (F₀ := by k_asm) (by with_unfolding_all rfl) (by decide) (by rfl) (by decide) (by rfl) ?_))
  k_with "CompSrc" => (refine Hold.intro ?_)
  k_with "call ref" => (refine Hold.intro ?_)
  k_with "pyIter ref" => (refine Hold.intro ?_)
  k_with "exec While Compare cons nil" => (refine Hold.intro ?_)
  k_with "call builtin:str.split" => (refine Hold.intro ?_)
  k_with "call builtin:str.find" => (refine Hold.intro ?_)
  k_with "truthy str" => (k_here; (with_reducible show wpAny _ _ (truthy (Value.str (TX _) _)) _ _ _); k_dflt (refine' truthy_TX ?z ?_; (case z => walk_at "my fit")))
  k_with "delItem ref int" => (k_here; k_dflt (refine' del_l ?F ?N ?e ?U ?f ?k ?l ?z ?_; (case F => k_asm); (case N => k_asm); (case k => exact rfl); (case e => kl_lit); (case U => k_upd); (case f => rfl); (case l => decide); (case z => walk_at "my fit"); k_whole); intro _ _ _; (try k_sweep))
  k_with "exec For Name Name cons nil" => (k_here; k_dflt (refine' For_invVF ?F ?k1 ?k2 ?_; (case F => k_asm); (case k1 => exact rfl); (case k2 => exact rfl)))
  k_with "exec For Name Call cons nil" => (k_here; k_dflt (refine' For_invVF ?F ?k1 ?k2 ?_; (case F => k_asm); (case k1 => exact rfl); (case k2 => exact rfl)))
  k_with "par enter" => (refine' code_def ?k1 ?k2 ?k3 ?k4 ?k5 ?kA ?kF ?kK ?k6 ?k7 ?k8 ?k9 ?kB ?_ ?c2 ?c3 ?c4 ?c5; (case kA => exact rfl); (case kF => exact rfl); (case kK => assumption); (case k1 => k_asm); (case k2 => k_asm); (case k3 => k_asm); (case k4 => k_asm); (case k5 => k_asm); (case k6 => k_is); (case k7 => k_is); (case k8 => ktr_room); (case k9 => (refine' kp_binds ?kx ?ke; (case kx => k_in); (case ke => exact fun _ => rfl))); (case c5 => decide); (case kB => exact locs rfl); (case c2 => exact rfl); (case c3 => exact rfl); (case c4 => exact rfl); k_whole; intro g9 L9 h9 G9 F9 N9 B9 X9 T9; (try dsimp only); (try k_lift B9); (try k_fold))
  k_with "call type:tuple" => (k_here; (with_reducible show wpAny _ _ (call (Value.type _) [Value.ref _]) _ _ _); k_dflt (refine' kde_tupleOf ?k1 ?k2 ?k3 ?k4 ?k5 ?_; (case k1 => k_asm); (case k2 => k_asm); (case k3 => exact News.isList (by k_asm) (by k_mem)); (case k4 => (simp only [List.size_toArray]; omega)); (case k5 => exact List.toList_toArray); k_whole); intro D9 h9 F9 N9 l9; (try k_lt l9); (try k_sweep))
  k_with "call builtin:len" => (k_here; (with_reducible show wpAny _ _ (call (Value.builtin "len") [Value.ref _]) _ _ _); k_dflt (refine' len_t ?N ?m ?z ?_; (case N => k_asm); (case m => k_mem); (case z => walk_at "my fit")); walk_at "my len")
  k_with "eval Name" => (with_reducible refine gen_tok (fun tk9 => ?_))
  k_with "execs cons" => (with_reducible refine gen_tok (fun tk9 => ?_))
  k_with "eval Constant int" => (with_reducible refine gen_tok (fun tk9 => ?_))
  k_with "eval Call" => (with_reducible refine gen_tok (fun tk9 => ?_))
  k_with "exec If" => (with_reducible refine gen_tok (fun tk9 => ?_))
  k_with "ite" => (with_reducible refine gen_tok (fun tk9 => ?_))
  unfold Says KK PR
  k_fill
  intro dp un gd cn cs a ccd cl outer A₀ base h₀ L m s p loose mean mg mb Q E B F X N T hk hd hu hret
  refine wpAny_call ?_
  k_dflt (walk_at "par enter")
  have hul := hus.length
  k_steps
  refine Hold.out ?_
  rename IsRange _ _ _ _ _ _ _ _ => hrg
  rename Fr _ _ _ _ => lF1
  rename News _ _ _ _ => lN1
  with_unfolding_all refine loop_range (n := us.length - ts) (IndJ x D1 ts st news) rfl hrg ?_ ?_ lF1 lN1 (IndJ.mk (by rfl) (by rfl) (by rfl) (by rfl) (by rfl)) ?_ ?_
  · exact small_one (by omega) (by omega) (by omega) (by omega)
  · rw [rangeSize_nat]; omega
  · intro i t m₁ nx h₁ tk₁ oI hin hlt hoff hJ F₁ N₁
    refine IndJ.out hJ F₁ N₁ hoff _ ?_
    clear hJ F₁ N₁ hoff lF1 lN1
    intro ta tb tc F1 N₁ hoff
    refine gen_Q fun Q₉ hQ₉ => ?_
    k_steps
    rename IntsAre us _ => hus
    k_dflt (refine' item_t ?N (List.Mem.tail _ i4) hus ?ya ?yb ?yc ?_; (case N => k_asm); (case ya => omega); (case yb => omega); (case yc => omega); k_whole)
    intro t'
    have ei : ((ts : Int) + (i : Int)).toNat = ts + i := toNat_add ts i
    rw [ei]
    have hfd : 0 ≤ Int.fdiv ((ts : Int) + (i : Int)) (ts : Int) ∧ Int.fdiv ((ts : Int) + (i : Int)) (ts : Int) ≤ 2000 := by
      rw [Int.fdiv_eq_ediv_of_nonneg _ (by omega)]
      have := Int.ediv_le_self (ts : Int) (a := (ts : Int) + (i : Int)) (by omega)
      exact ⟨Int.ediv_nonneg (by omega) (by omega), by omega⟩
    k_sweep
    k_steps
    rename Fr _ _ _ _ => lF2
    rename News _ _ _ _ => lN2
    exact hQ₉ _ _ (turn_next news lF2 lN2 (by k_mem) (fun p hp => List.mem_cons_of_mem _ hp) hoff (IndJ.mk (by rfl) (by rfl) (by rfl) (by rfl) (by rfl)))
  · intro m₁ nx h₁ tk₁ hJ F₁ N₁
    refine IndJ.fin hJ F₁ N₁ _ ?_
    clear hJ F₁ N₁ lF1 lN1
    intro ta tb tc F1 N₁
    k_steps
    rw [hul]
    exact hret _ _ _ _ (by k_asm) (by k_asm) ⟨⟨_, rfl⟩, rfl⟩
end
end
section
section
theorem allLt_succ {a : Addr} : ∀ {l : Led}, AllLt a l → AllLt (a + 1) l
  | [], _ => trivial
  | _ :: _, h => ⟨Nat.lt_succ_of_lt h.1, allLt_succ h.2⟩
theorem with_led {h₀ h : Heap} {L : Addr} {led : Led} {C : Prop} (_N : News h₀ L h led) (P : Led → Prop) (a : ∀ led', (∀ p ∈ led, p ∈ led') → P led') (b : P led → C) : C := b (a led fun _ h => h)
noncomputable def costF (st : WS) (k : Nat) : Int := Int.fdiv ((st.b : Int) + (2 ^ k : Nat) * (ilF (2 ^ k) st.cnt (st.cnt.length - 2 ^ k) + st.nt)) (2 ^ k : Nat) + k * st.nt
theorem pow_nat (k : Nat) : (2 : Int) ^ ((k : Int)).toNat = ((2 ^ k : Nat) : Int) := by rw [Int.toNat_natCast]; simp
theorem pow_bd {k : Nat} (h : k ≤ 5) : 1 ≤ 2 ^ k ∧ 2 ^ k ≤ 32 := ⟨Nat.one_le_two_pow, by simpa using Nat.pow_le_pow_right (by decide : 0 < 2) h⟩
theorem five (i : Nat) (h : i < ([0, 1, 2, 3, 4] : List Int).length) : ([0, 1, 2, 3, 4] : List Int).getD i 0 = (i : Nat) := by
  match i, h with
  | 0, _ => rfl
  | 1, _ => rfl
  | 2, _ => rfl
  | 3, _ => rfl
  | 4, _ => rfl
theorem keep8 {h₀ h : Heap} {L : Addr} {a b1 b2 b3 b4 b5 b6 b7 b8 b : Addr × Obj} {l : Led} (N : News h₀ L h (a :: b1 :: b2 :: b3 :: b4 :: b5 :: b6 :: b7 :: b8 :: l)) (hb : b ∈ [b1, b2, b3, b4, b5, b6, b7, b8]) : News h₀ L h (a :: b :: l) := news_sub N fun p hp => by
  rcases List.mem_cons.mp hp with rfl | hp
  · exact .head _
  · rcases List.mem_cons.mp hp with rfl | hp
    · exact .tail _ (List.mem_append_left l (by simpa using hb) : p ∈ [b1, b2, b3, b4, b5, b6, b7, b8] ++ l)
    · exact .tail _ (.tail _ (.tail _ (.tail _ (.tail _ (.tail _ (.tail _ (.tail _ (.tail _ hp))))))))
set_option maxRecDepth 100000 in
theorem code137 {w : World} {h : Heap} (X : (KK w).In h) : CodeHd h 137 133 := by
  have e := X 137 _ rfl
  exact ⟨_, _, _, _, _, _, _, _, _, e, rfl, rfl, rfl, rfl, rfl, rfl, rfl, rfl, by decide⟩
set_option maxRecDepth 100000 in
theorem code151 {w : World} {h : Heap} (X : (KK w).In h) : CodeHd h 151 147 := by
  have e := X 151 _ rfl
  exact ⟨_, _, _, _, _, _, _, _, _, e, rfl, rfl, rfl, rfl, rfl, rfl, rfl, rfl, by decide⟩
set_option maxRecDepth 100000 in
set_option maxHeartbeats 8000000 in
theorem cheap_says (w : World) (x d D1 D2 : Addr) (us : List Value) (st : WS) (q1 q2 q3 q4 q5 tb tn : Tok) (v1 v2 v5 : Value) (low high : Nat) (news : Led) (hn : ∀ p ∈ news, p.1 ≠ 133) (i1 : (x, instObj 115 d) ∈ news) (i2 : (d, dictOf [WE w "raw" q1 v1, WE w "n" q2 v2, WE w "nt" q3 (.int (st.nt : Nat) tn), WE w "norm" q4 (.ref D2), WE w "is_simple" q5 v5] 5) ∈ news)
   (i3 : (D2, tupO [.ref D1, .int (st.b : Nat) tb]) ∈ news) (i4 : (D1, tupO us) ∈ news) (hus : IntsAre us st.cnt) (h3 : st.cnt.length ≤ 1000) (h4 : st.b ≤ 1000) (h5 : st.nt ≤ 1000) (hw1 : low ≤ 5) (hw2 : ∀ i, i < 5 → (costF st (i + 1) - costF st i < 0 ↔ i < low)) (hw3 : high ≤ 5) (hw4 : ∀ i, i < 5 → (0 < costF st (i + 1) - costF st i ↔ high ≤ i)) :
    Says w (.ref 138) [.ref x] [] 20 100 ((133, tabObj #[]) :: news) (fun v news' => ∃ (D : Addr) (t1 t2 : Tok) (ps : Array Value), v = .ref D ∧ (∀ p ∈ news, p.1 < D) ∧ news' = (D, tupO [.int (low : Nat) t1, .int (high : Nat) t2]) :: (133, tabObj ps) :: news) := by
  w_top off
  k_with_none
  k_with "law conj" => ((repeat (rename @LT.lt Nat _ _ _ ∧ _ => hq; first | exact hq.1 | exact hq.2.1 | exact hq.2.2.1 | exact hq.2.2.2.1 | exact hq.2.2.2.2.1 | exact hq.2.2.2.2.2.1 | exact hq.2.2.2.2.2.2.1 | exact hq.2.2.2.2.2.2.2.1 | exact hq.2.2.2.2.2.2.2.2.1 | exact hq.2.2.2.2.2.2.2.2.2.1 | exact hq.2.2.2.2.2.2.2.2.2.2.1 | exact hq.2.2.2.2.2.2.2.2.2.2.2.1 | clear hq)); done)
  k_with "law lt" => first | exact Nat.lt_succ_self _ | assumption | walk_at "law conj" | ((fail_if_success (with_reducible show _ < @OfNat.ofNat Nat _ _)); refine Nat.lt_succ_of_lt ?_; walk_at "law lt") | (refine' Nat.lt_trans ?la ?lb; (case lb => assumption); (case la => walk_at "law conj"))
  k_with "ne conj" => (rename @Ne Nat _ _ ∧ _ => hq; with_reducible first | exact hq.1 | exact hq.1.symm | exact hq.2 | exact hq.2.symm | exact hq.2.1 | exact hq.2.1.symm | exact hq.2.2 | exact hq.2.2.symm | exact hq.2.2.1 | exact hq.2.2.1.symm | exact hq.2.2.2 | exact hq.2.2.2.symm | exact hq.2.2.2.1 | exact hq.2.2.2.1.symm | exact hq.2.2.2.2 | exact hq.2.2.2.2.symm | exact hq.2.2.2.2.1 | exact hq.2.2.2.2.1.symm | exact hq.2.2.2.2.2 | exact hq.2.2.2.2.2.symm | exact hq.2.2.2.2.2.1 | exact hq.2.2.2.2.2.1.symm | exact hq.2.2.2.2.2.2 | exact hq.2.2.2.2.2.2.symm | exact hq.2.2.2.2.2.2.1 | exact hq.2.2.2.2.2.2.1.symm | exact hq.2.2.2.2.2.2.2 | exact hq.2.2.2.2.2.2.2.symm | exact hq.2.2.2.2.2.2.2.1 | exact hq.2.2.2.2.2.2.2.1.symm | exact hq.2.2.2.2.2.2.2.2 | exact hq.2.2.2.2.2.2.2.2.symm | exact hq.2.2.2.2.2.2.2.2.1 | exact hq.2.2.2.2.2.2.2.2.1.symm | exact hq.2.2.2.2.2.2.2.2.2 | exact hq.2.2.2.2.2.2.2.2.2.symm | (clear hq; walk_at "ne conj"))
  k_with "my ne" => (refine neN ?_; (try dsimp only); k_dflt (first | assumption | (refine Ne.symm ?_; assumption) | decide | (refine Nat.ne_of_lt ?_; walk_at "law lt") | (refine Nat.ne_of_gt ?_; walk_at "law lt") | omega))
  k_with "my room" => ((try simp only [depth_under_make, depth_under_kw, depth_in1, depth_deeper, depth_caller]); (try dsimp only [ktrTop]); (try simp only [Nat.add_assoc, Nat.reduceAdd]); first | decide | (refine' Nat.lt_of_le_of_lt ?le ?lt; (case lt => with_reducible assumption); (case le => exact Nat.add_le_add_left (Nat.le_of_ble_eq_true rfl) _)) | (refine' Nat.lt_of_le_of_lt ?le ?lt; (case lt => with_reducible assumption); (case le => exact Nat.le_add_right _ _)))
  k_with "my units" => ((try simp only [units_in1, units_deeper, Around.mark_units, units_caller]); (try dsimp only [ktrTop]); (try simp only [Nat.add_assoc, Nat.reduceAdd]); first | decide | (refine' Nat.lt_of_le_of_lt ?le ?lt; (case lt => with_reducible assumption); (case le => exact Nat.add_le_add_left (Nat.le_of_ble_eq_true rfl) _)) | (refine' Nat.lt_of_le_of_lt ?le ?lt; (case lt => with_reducible assumption); (case le => exact Nat.le_add_right _ _)))
  k_with "my all" => exact below_ne (by assumption)
  k_with "my all" => assumption
  k_with "my all" => exact below_ne (ktn_ltOf (by first | assumption | (simp only [*]; done)))
  k_with "my use" => ((case B => k_asm); (case F => k_asm); (case X => k_asm); (case N => k_asm); (case T => k_asm); (case k => first | exact rfl | assumption); (case d => ktr_room); (case u => ktr_units))
  k_with "my fit" => first | omega | (simp only [List.length_append, List.length_cons, List.length_nil, List.length_map, List.length_take]; omega)
  k_with "my len" => (try simp only [List.length_append, List.length_cons, List.length_nil, Nat.zero_add, Nat.reduceAdd, Nat.cast_ofNat, Int.natCast_add])
  k_with "call builtin:len" => (k_here; (with_reducible show wpAny _ _ (call (Value.builtin "len") [Value.ref _]) _ _ _); k_dflt (refine' len_l ?N ?m ?z ?_; (case N => k_asm); (case m => k_mem); (case z => walk_at "my fit")); walk_at "my len")
  k_with "call builtin:len" => (k_here; (with_reducible show wpAny _ _ (call (Value.builtin "len") [Value.str _ _]) _ _ _); k_dflt (refine' len_TX ?z ?_; (case z => walk_at "my fit")); walk_at "my len")
  k_with "call builtin:list.append" => (k_here; (with_reducible show wpAny _ _ (call (Value.builtin _) [Value.ref _, _]) _ _ _); k_dflt (refine' append_l ?F ?N ?U ?z ?_; (case F => k_asm); (case N => k_asm); (case U => k_upd); (case z => walk_at "my fit"); k_whole); intro _ _ _; (try k_sweep))
  k_with "eval ListComp" => (k_here; k_dflt (refine LCg.ListComp_U (F₀ := by k_asm) (by with_unfolding_all rfl) (by decide) (by rfl) (by decide) (by rfl) ?_))
  k_with "CompSrc" => (refine Hold.intro ?_)
  k_with "call ref" => (refine Hold.intro ?_)
  k_with "pyIter ref" => (refine Hold.intro ?_)
  k_with "exec While Compare cons nil" => (refine Hold.intro ?_)
  k_with "call builtin:str.split" => (refine Hold.intro ?_)
  k_with "call builtin:str.find" => (refine Hold.intro ?_)
  k_with "truthy str" => (k_here; (with_reducible show wpAny _ _ (truthy (Value.str (TX _) _)) _ _ _); k_dflt (refine' truthy_TX ?z ?_; (case z => walk_at "my fit")))
  k_with "delItem ref int" => (k_here; k_dflt (refine' del_l ?F ?N ?e ?U ?f ?k ?l ?z ?_; (case F => k_asm); (case N => k_asm); (case k => exact rfl); (case e => kl_lit); (case U => k_upd); (case f => rfl); (case l => decide); (case z => walk_at "my fit"); k_whole); intro _ _ _; (try k_sweep))
  k_with "exec For Name Name cons nil" => (k_here; k_dflt (refine' For_invVF ?F ?k1 ?k2 ?_; (case F => k_asm); (case k1 => exact rfl); (case k2 => exact rfl)))
  k_with "exec For Name Call cons nil" => (k_here; k_dflt (refine' For_invVF ?F ?k1 ?k2 ?_; (case F => k_asm); (case k1 => exact rfl); (case k2 => exact rfl)))
  k_with "par enter" => (refine' code_def ?k1 ?k2 ?k3 ?k4 ?k5 ?kA ?kF ?kK ?k6 ?k7 ?k8 ?k9 ?kB ?_ ?c2 ?c3 ?c4 ?c5; (case kA => exact rfl); (case kF => exact rfl); (case kK => assumption); (case k1 => k_asm); (case k2 => k_asm); (case k3 => k_asm); (case k4 => k_asm); (case k5 => k_asm); (case k6 => k_is); (case k7 => k_is); (case k8 => ktr_room); (case k9 => (refine' kp_binds ?kx ?ke; (case kx => k_in); (case ke => exact fun _ => rfl))); (case c5 => decide); (case kB => exact locs rfl); (case c2 => exact rfl); (case c3 => exact rfl); (case c4 => exact rfl); k_whole; intro g9 L9 h9 G9 F9 N9 B9 X9 T9; (try dsimp only); (try k_lift B9); (try k_fold))
  k_with "call type:tuple" => (k_here; (with_reducible show wpAny _ _ (call (Value.type _) [Value.ref _]) _ _ _); k_dflt (refine' kde_tupleOf ?k1 ?k2 ?k3 ?k4 ?k5 ?_; (case k1 => k_asm); (case k2 => k_asm); (case k3 => exact News.isList (by k_asm) (by k_mem)); (case k4 => (simp only [List.size_toArray]; omega)); (case k5 => exact List.toList_toArray); k_whole); intro D9 h9 F9 N9 l9; (try k_lt l9); (try k_sweep))
  k_with "cel enter" => (refine' code_defC ?k1 ?k2 ?k3 ?k4 ?k5 ?kA ?kF ?kK ?k6 ?k7 ?k8 ?k9 ?kB ?kD ?_ ?c2 ?c3 ?c4; (case kA => exact rfl); (case kF => exact rfl); (case kK => assumption); (case k1 => k_asm); (case k2 => k_asm); (case k3 => k_asm); (case k4 => k_asm); (case k5 => k_asm); (case k6 => k_is); (case k7 => k_is); (case k8 => ktr_room); (case k9 => exact BindsTo.of_eq rfl); (case kB => exact rfl); (case kD => decide +kernel); (case c2 => exact rfl); (case c3 => exact rfl); (case c4 => exact rfl); k_whole; intro g9 L9 h9 tk9 cells9 G9 F9 N9 Y9 B9 X9 T9 l9; (try k_lt l9); k_cells Y9; (try simp only [List.cons_append, List.nil_append] at N9); (try dsimp only); (try k_lift B9); (try k_fold))
  k_with "lam enter" => (refine' kla_code ?k1 ?k2 ?k3 ?k4 ?k5 ?kA ?kF ?kK ?k6 ?k7 ?k8 ?k9 ?kB ?_ ?c2 ?c3 ?c4 ?c5; (case kA => exact rfl); (case kF => exact rfl); (case kK => assumption); (case k1 => k_asm); (case k2 => k_asm); (case k3 => k_asm); (case k4 => k_asm); (case k5 => k_asm); (case k6 => k_mem); (case k7 => exact codeRec_news (by k_asm) (by k_mem) (by assumption) (by assumption)); (case k8 => ktr_room); (case k9 => exact rfl); (case c5 => decide); (case kB => exact locs rfl); (case c2 => exact rfl); (case c3 => exact rfl); (case c4 => exact rfl); k_whole; intro g9 L9 h9 G9 F9 N9 B9 X9 T9; (try dsimp only); (try k_lift B9); (try k_fold))
  unfold Says KK PR
  k_fill
  intro dp un gd cn cs a ccd cl outer A₀ base h₀ L m s p loose mean mg mb Q E B F X N T hk hd hu hret
  refine wpAny_call ?_
  k_dflt (walk_at "cel enter")
  rename Frag.In _ _ => hX
  have hC := code137 hX
  rename _ ∧ AllLt _ news => hl1
  have hL1 := allLt_succ hl1.2
  have hL2 := allLt_succ hL1
  k_steps
  refine Hold.out ?_
  rename_i f1 c1 oc1 vs1 t1' ct1 ha tka da1 da2 la1 la2 hb oC dC f2 c2 oc2 vs2 t2' ct2 hc tkc db1 db2 lb1 lb2 hdd lp he lc hf Fx Nx
  refine with_led Nx (fun led => ∀ (k : Nat) (t : Tok), k ≤ 5 → Says w (.ref f1) [.int (k : Nat) t] [] 3 30 led (fun v nx => (∃ t', v = .int (costF st k) t') ∧ nx = led)) ?_ ?_
  · rename Below _ _ _ _ => B2
    rename Top _ _ _ _ _ _ => T2
    clear B2 T2 Fx Nx hC hX
    rename Fr _ _ _ _ => FG2
    clear FG2 hret hd hu hk T X F B N E Q
    intro led hs
    have mf1 := hs _ (.tail _ (.tail _ (.tail _ (.head _))))
    have mc1 := hs _ (.tail _ (.tail _ (.tail _ (.tail _ (.head _)))))
    have mL := hs _ (.tail _ (.tail _ (.tail _ (.tail _ (.tail _ (.tail _ (.head _)))))))
    have mi1 := hs _ (.tail _ (.tail _ (.tail _ (.tail _ (.tail _ (.tail _ (.tail _ (.tail _ i1))))))))
    have mi2 := hs _ (.tail _ (.tail _ (.tail _ (.tail _ (.tail _ (.tail _ (.tail _ (.tail _ i2))))))))
    have mi3 := hs _ (.tail _ (.tail _ (.tail _ (.tail _ (.tail _ (.tail _ (.tail _ (.tail _ i3))))))))
    have mi4 := hs _ (.tail _ (.tail _ (.tail _ (.tail _ (.tail _ (.tail _ (.tail _ (.tail _ i4))))))))
    clear hs i1 i2 i3 i4 hn
    intro k t hk5
    unfold Says KK PR
    k_fill
    intro dp un gd cn cs a ccd cl outer A₀ base h₀ L m s p loose mean mg mb Q E B F X N T hk hd hu hret
    refine wpAny_call ?_
    k_dflt (walk_at "lam enter")
    rename Frag.In _ _ => hX2
    have hC2 := code137 hX2
    have hpk := pow_bd hk5
    k_steps
    refine Hold.out ?_
    rw [pow_nat k]
    k_dflt (refine' says_use (indent_says w x d D1 D2 us st q1 q2 q3 q4 q5 tb tn _ v1 v2 v5 (2 ^ k) led mi1 mi2 mi3 mi4 hus hpk.1 hpk.2 h3 h4 h5) ?B ?F ?X ?N ?T ?k ?d ?u ?_; walk_at "my use")
    rintro v news' h' tk' F' N' ⟨⟨ti, rfl⟩, rfl⟩
    have hpz : (1 : Int) ≤ 2 ^ ((k : Int)).toNat ∧ (2 : Int) ^ ((k : Int)).toNat ≤ 32 := by rw [pow_nat k]; omega
    k_sweep
    k_steps
    rw [pow_nat k]
    exact hret _ _ _ _ (by k_asm) (by k_asm) ⟨⟨_, rfl⟩, rfl⟩
  · intro hcost
    refine with_led Nx (fun led => (∀ (k : Nat) (t : Tok), k ≤ 5 → Says w (.ref f1) [.int (k : Nat) t] [] 3 30 led (fun v nx => (∃ t', v = .int (costF st k) t') ∧ nx = led)) → ∀ (k : Nat) (t : Tok), k ≤ 4 → Says w (.ref f2) [.int (k : Nat) t] [] 6 40 led (fun v nx => (∃ t', v = .int (costF st (k + 1) - costF st k) t') ∧ nx = led)) ?_ ?_
    · rename Below _ _ _ _ => B2
      rename Top _ _ _ _ _ _ => T2
      clear hcost B2 T2 Fx Nx hC hX
      rename Fr _ _ _ _ => FG2
      clear FG2 hret hd hu hk T X F B N E Q
      intro led hs
      have mf2 := hs _ (.tail _ (.head _))
      have mc2 := hs _ (.tail _ (.tail _ (.head _)))
      have mf1 := hs _ (.tail _ (.tail _ (.tail _ (.head _))))
      have mL := hs _ (.tail _ (.tail _ (.tail _ (.tail _ (.tail _ (.head _))))))
      clear hs i1 i2 i3 i4 hn
      intro hcost k t hk4
      unfold Says KK PR
      k_fill
      intro dp un gd cn cs a ccd cl outer A₀ base h₀ L m s p loose mean mg mb Q E B F X N T hk hd hu hret
      refine wpAny_call ?_
      k_dflt (walk_at "lam enter")
      rename Frag.In _ _ => hX2
      have hC2 := code137 hX2
      k_steps
      refine Hold.out ?_
      k_dflt (refine' says_use (hcost (k + 1) _ (by omega)) ?B ?F ?X ?N ?T ?k ?d ?u ?_; walk_at "my use")
      rintro v news' h' tk' F' N' ⟨⟨ti, rfl⟩, rfl⟩
      k_sweep
      k_steps
      refine Hold.out ?_
      k_dflt (refine' says_use (hcost k _ (by omega)) ?B ?F ?X ?N ?T ?k ?d ?u ?_; walk_at "my use")
      rintro v news' h' tk' F' N' ⟨⟨tj, rfl⟩, rfl⟩
      k_sweep
      k_steps
      exact hret _ _ _ _ (by k_asm) (by k_asm) ⟨⟨_, rfl⟩, rfl⟩
    · intro hmore
      replace hmore := hmore hcost
      k_dflt (refine' says_use (leftK_says w lp 0 _ [0, 1, 2, 3, 4] 0 _ low f2 _ _ _ _ (fun i => costF st (i + 1) - costF st i) _ (.head _) (.tail _ (.head _)) (.cons _ _ (.cons _ _ (.cons _ _ (.cons _ _ (.cons _ _ .nil))))) (by decide) hw1 ?key hw2) ?B ?F ?X ?N ?T ?k ?d ?u ?_; walk_at "my use")
      case key =>
        intro i hi t
        rw [five i hi]
        exact hmore i t (by simp at hi; omega)
      rintro v news' h' tk' F' N' ⟨⟨ti, rfl⟩, rfl⟩
      k_sweep
      k_steps
      refine Hold.out ?_
      k_dflt (refine' says_use (rightK_says w lp 0 _ [0, 1, 2, 3, 4] 0 _ high f2 _ _ _ _ (fun i => costF st (i + 1) - costF st i) _ (.head _) (.tail _ (.head _)) (.cons _ _ (.cons _ _ (.cons _ _ (.cons _ _ (.cons _ _ .nil))))) (by decide) hw3 ?key hw4) ?B ?F ?X ?N ?T ?k ?d ?u ?_; walk_at "my use")
      case key =>
        intro i hi t
        rw [five i hi]
        exact hmore i t (by simp at hi; omega)
      rintro v news' h' tk' F' N' ⟨⟨tj, rfl⟩, rfl⟩
      k_sweep
      k_steps
      rename News h₀ L _ _ => lN4
      rename @LT.lt Nat _ lp _ ∧ _ => hDD
      refine hret _ _ _ _ (by k_asm) (keep8 (b := (133, tabObj _)) lN4 (by k_mem)) ⟨_, _, _, _, rfl, ktn_ltOf hDD.2.2.2.2.2.2.2.2, rfl⟩
end
end
section
section
theorem behind_walk (gs : List Int) (place : Nat) (h : place < gs.length) : List.take (min ((place : Int) + 2).toNat gs.length - ((place : Int) + 1).toNat) (List.drop ((place : Int) + 1).toNat gs) = behindF gs place := by
  have e1 : ((place : Int) + 2).toNat = place + 2 := by omega
  have e2 : ((place : Int) + 1).toNat = place + 1 := by omega
  rw [e1, e2]
  unfold behindF
  by_cases hp : place + 1 < gs.length
  · rw [show min (place + 2) gs.length - (place + 1) = 1 by omega]
  · rw [List.drop_of_length_le (by omega)]; simp
theorem take_walk (gs : List Int) (i n : Nat) : List.take (min ((i : Int) + 1 + (n : Int)).toNat (List.take (gs.length - 1) gs).length - ((i : Int) + 1).toNat) (List.drop ((i : Int) + 1).toNat (List.take (gs.length - 1) gs)) = ((othF gs).drop (i + 1)).take n := by
  have e1 : ((i : Int) + 1 + (n : Int)).toNat = i + 1 + n := by omega
  have e2 : ((i : Int) + 1).toNat = i + 1 := by omega
  rw [e1, e2]
  show List.take (min (i + 1 + n) (othF gs).length - (i + 1)) (List.drop (i + 1) (othF gs)) = _
  by_cases h : i + 1 + n ≤ (othF gs).length
  · rw [Nat.min_eq_left h, show i + 1 + n - (i + 1) = n by omega]
  · rw [Nat.min_eq_right (by omega), List.take_of_length_le (by rw [List.length_drop]; omega), List.take_of_length_le (by rw [List.length_drop]; omega)]
theorem most_step {gs : List Int} {place : Nat} {size : Int} {i : Nat} (h1 : Int.fmod ((List.take (gs.length - 1) gs).getD ((i : Int)).toNat 0) size = Int.fmod (gs.getD place 0) size) (h2 : ((othF gs).drop (i + 1)).take (behindF gs place).length = behindF gs place) :
    mostG gs place size (i + 1) = if Int.fdiv ((List.take (gs.length - 1) gs).getD ((i : Int)).toNat 0) size > mostG gs place size i then Int.fdiv ((List.take (gs.length - 1) gs).getD ((i : Int)).toNat 0) size else mostG gs place size i := by
  rw [Int.toNat_natCast] at h1 ⊢
  rw [mostG, if_pos ⟨h1, h2⟩]
  show max _ (Int.fdiv ((List.take (gs.length - 1) gs).getD i 0) size) = _
  split <;> omega
theorem most_stay {gs : List Int} {place : Nat} {size : Int} {i : Nat} (h : ¬ (Int.fmod ((List.take (gs.length - 1) gs).getD ((i : Int)).toNat 0) size = Int.fmod (gs.getD place 0) size ∧ ((othF gs).drop (i + 1)).take (behindF gs place).length = behindF gs place)) : mostG gs place size (i + 1) = mostG gs place size i := by
  rw [Int.toNat_natCast] at h
  exact if_neg h
theorem drop2 {h₀ h : Heap} {L : Addr} {a b : Addr × Obj} {l : Led} (N : News h₀ L h (a :: b :: l)) : News h₀ L h l := news_sub N fun p hp => .tail _ (.tail _ hp)
section
variable {prog : Program} {w : World} {A : Around} {E : Value → Shared → Prop} {s : Shared} {h₀ : Heap} {L : Addr} {news : Led}
theorem item_l {value slice : Expr} {D : Addr} {us : List Value} {c : Nat} {zs : List Int} {i : Int} {u : Tok} {Q : Value → Shared → Prop} (N : News h₀ L s.heap news) (hm : (D, listOf us.toArray c) ∈ news) (hi : IntsAre us zs) (h0 : 0 ≤ i) (h1 : i < (zs.length : Int)) (hz : zs.length ≤ 1000) (h : ∀ t', Q (.int (zs.getD i.toNat 0) t') s)
    (hs : subscripted slice false (.ref D) (.int i u) = operate [.ref D, .int i u] (getItem (.ref D) (.int i u)) := by with_unfolding_all rfl) :
    wpAny (model prog w) A (subscriptTail value slice (.ref D) (.int i u)) Q E s := by
  have hlt : i.toNat < zs.length := by omega
  refine hide fun G₉ hG₉ => ?_
  obtain ⟨t', e⟩ := hi.get i.toNat (zs.getD i.toNat 0) (getD_at _ hlt)
  refine hG₉ ?_
  clear hG₉ G₉
  have hl := News.isList N hm
  exact tail_any hl.typeIs slot_list_getitem.lookup (wpAny_getItem_list hl h0 (by omega) (x := .int _ t') (by simpa using e) (h t')) hs
end
set_option maxRecDepth 100000 in
set_option maxHeartbeats 8000000 in
theorem most_says (w : World) (l : Addr) (nn : Nat) (vs : List Value) (gs : List Int) (place : Nat) (size : Int) (tS tp : Tok) (news : Led) (hm : (l, listOf vs.toArray nn) ∈ news) (hi : IntsAre vs gs) (hg : ∀ g ∈ gs, 0 ≤ g ∧ g < 20) (hs : 1 ≤ size) (hs2 : size ≤ 32) (hlen : gs.length ≤ 7) (hp : place < gs.length) :
    Says w (.ref 159) [.ref l, .int (place : Nat) tp, .int size tS] [] 1 100 news (fun v news' => (∃ t, v = .int (mostG gs place size (gs.length - 1)) t) ∧ news' = news) := by
  w_top off
  k_with_none
  k_with "law conj" => ((repeat (rename @LT.lt Nat _ _ _ ∧ _ => hq; first | exact hq.1 | exact hq.2.1 | exact hq.2.2.1 | exact hq.2.2.2.1 | exact hq.2.2.2.2.1 | exact hq.2.2.2.2.2.1 | exact hq.2.2.2.2.2.2.1 | exact hq.2.2.2.2.2.2.2.1 | exact hq.2.2.2.2.2.2.2.2.1 | exact hq.2.2.2.2.2.2.2.2.2.1 | exact hq.2.2.2.2.2.2.2.2.2.2.1 | exact hq.2.2.2.2.2.2.2.2.2.2.2.1 | clear hq)); done)
  k_with "law lt" => first | exact Nat.lt_succ_self _ | assumption | walk_at "law conj" | ((fail_if_success (with_reducible show _ < @OfNat.ofNat Nat _ _)); refine Nat.lt_succ_of_lt ?_; walk_at "law lt") | (refine' Nat.lt_trans ?la ?lb; (case lb => assumption); (case la => walk_at "law conj"))
  k_with "ne conj" => (rename @Ne Nat _ _ ∧ _ => hq; with_reducible first | exact hq.1 | exact hq.1.symm | exact hq.2 | exact hq.2.symm | exact hq.2.1 | exact hq.2.1.symm | exact hq.2.2 | exact hq.2.2.symm | exact hq.2.2.1 | exact hq.2.2.1.symm | exact hq.2.2.2 | exact hq.2.2.2.symm | exact hq.2.2.2.1 | exact hq.2.2.2.1.symm | exact hq.2.2.2.2 | exact hq.2.2.2.2.symm | exact hq.2.2.2.2.1 | exact hq.2.2.2.2.1.symm | exact hq.2.2.2.2.2 | exact hq.2.2.2.2.2.symm | exact hq.2.2.2.2.2.1 | exact hq.2.2.2.2.2.1.symm | exact hq.2.2.2.2.2.2 | exact hq.2.2.2.2.2.2.symm | exact hq.2.2.2.2.2.2.1 | exact hq.2.2.2.2.2.2.1.symm | exact hq.2.2.2.2.2.2.2 | exact hq.2.2.2.2.2.2.2.symm | exact hq.2.2.2.2.2.2.2.1 | exact hq.2.2.2.2.2.2.2.1.symm | exact hq.2.2.2.2.2.2.2.2 | exact hq.2.2.2.2.2.2.2.2.symm | exact hq.2.2.2.2.2.2.2.2.1 | exact hq.2.2.2.2.2.2.2.2.1.symm | exact hq.2.2.2.2.2.2.2.2.2 | exact hq.2.2.2.2.2.2.2.2.2.symm | (clear hq; walk_at "ne conj"))
  k_with "my ne" => (refine neN ?_; (try dsimp only); k_dflt (first | assumption | (refine Ne.symm ?_; assumption) | decide | (refine Nat.ne_of_lt ?_; walk_at "law lt") | (refine Nat.ne_of_gt ?_; walk_at "law lt") | omega))
  k_with "my room" => ((try simp only [depth_under_make, depth_under_kw, depth_in1, depth_deeper, depth_caller]); (try dsimp only [ktrTop]); (try simp only [Nat.add_assoc, Nat.reduceAdd]); first | decide | (refine' Nat.lt_of_le_of_lt ?le ?lt; (case lt => with_reducible assumption); (case le => exact Nat.add_le_add_left (Nat.le_of_ble_eq_true rfl) _)) | (refine' Nat.lt_of_le_of_lt ?le ?lt; (case lt => with_reducible assumption); (case le => exact Nat.le_add_right _ _)))
  k_with "my units" => ((try simp only [units_in1, units_deeper, Around.mark_units, units_caller]); (try dsimp only [ktrTop]); (try simp only [Nat.add_assoc, Nat.reduceAdd]); first | decide | (refine' Nat.lt_of_le_of_lt ?le ?lt; (case lt => with_reducible assumption); (case le => exact Nat.add_le_add_left (Nat.le_of_ble_eq_true rfl) _)) | (refine' Nat.lt_of_le_of_lt ?le ?lt; (case lt => with_reducible assumption); (case le => exact Nat.le_add_right _ _)))
  k_with "my all" => exact below_ne (by assumption)
  k_with "my all" => assumption
  k_with "my all" => exact below_ne (ktn_ltOf (by first | assumption | (simp only [*]; done)))
  k_with "my use" => ((case B => k_asm); (case F => k_asm); (case X => k_asm); (case N => k_asm); (case T => k_asm); (case k => first | exact rfl | assumption); (case d => ktr_room); (case u => ktr_units))
  k_with "my fit" => first | omega | (simp only [List.length_append, List.length_cons, List.length_nil, List.length_map, List.length_take]; omega)
  k_with "my len" => (try simp only [List.length_append, List.length_cons, List.length_nil, Nat.zero_add, Nat.reduceAdd, Nat.cast_ofNat, Int.natCast_add])
  k_with "call builtin:len" => (k_here; (with_reducible show wpAny _ _ (call (Value.builtin "len") [Value.ref _]) _ _ _); k_dflt (refine' len_l ?N ?m ?z ?_; (case N => k_asm); (case m => k_mem); (case z => walk_at "my fit")); walk_at "my len")
  k_with "call builtin:len" => (k_here; (with_reducible show wpAny _ _ (call (Value.builtin "len") [Value.str _ _]) _ _ _); k_dflt (refine' len_TX ?z ?_; (case z => walk_at "my fit")); walk_at "my len")
  k_with "call builtin:list.append" => (k_here; (with_reducible show wpAny _ _ (call (Value.builtin _) [Value.ref _, _]) _ _ _); k_dflt (refine' append_l ?F ?N ?U ?z ?_; (case F => k_asm); (case N => k_asm); (case U => k_upd); (case z => walk_at "my fit"); k_whole); intro _ _ _; (try k_sweep))
  k_with "eval ListComp" => (k_here; k_dflt (refine LCg.ListComp_U (F₀ := by k_asm) (by with_unfolding_all rfl) (by decide) (by rfl) (by decide) (by rfl) ?_))
  k_with "CompSrc" => (refine Hold.intro ?_)
  k_with "call ref" => (refine Hold.intro ?_)
  k_with "pyIter ref" => (refine Hold.intro ?_)
  k_with "exec While Compare cons nil" => (refine Hold.intro ?_)
  k_with "call builtin:str.split" => (refine Hold.intro ?_)
  k_with "call builtin:str.find" => (refine Hold.intro ?_)
  k_with "truthy str" => (k_here; (with_reducible show wpAny _ _ (truthy (Value.str (TX _) _)) _ _ _); k_dflt (refine' truthy_TX ?z ?_; (case z => walk_at "my fit")))
  k_with "delItem ref int" => (k_here; k_dflt (refine' del_l ?F ?N ?e ?U ?f ?k ?l ?z ?_; (case F => k_asm); (case N => k_asm); (case k => exact rfl); (case e => kl_lit); (case U => k_upd); (case f => rfl); (case l => decide); (case z => walk_at "my fit"); k_whole); intro _ _ _; (try k_sweep))
  k_with "exec For Name Name cons nil" => (k_here; k_dflt (refine' For_invVF ?F ?k1 ?k2 ?_; (case F => k_asm); (case k1 => exact rfl); (case k2 => exact rfl)))
  k_with "exec For Name Call cons nil" => (k_here; k_dflt (refine' For_invVF ?F ?k1 ?k2 ?_; (case F => k_asm); (case k1 => exact rfl); (case k2 => exact rfl)))
  k_with "par enter" => (refine' code_def ?k1 ?k2 ?k3 ?k4 ?k5 ?kA ?kF ?kK ?k6 ?k7 ?k8 ?k9 ?kB ?_ ?c2 ?c3 ?c4 ?c5; (case kA => exact rfl); (case kF => exact rfl); (case kK => assumption); (case k1 => k_asm); (case k2 => k_asm); (case k3 => k_asm); (case k4 => k_asm); (case k5 => k_asm); (case k6 => k_is); (case k7 => k_is); (case k8 => ktr_room); (case k9 => (refine' kp_binds ?kx ?ke; (case kx => k_in); (case ke => exact fun _ => rfl))); (case c5 => decide); (case kB => exact locs rfl); (case c2 => exact rfl); (case c3 => exact rfl); (case c4 => exact rfl); k_whole; intro g9 L9 h9 G9 F9 N9 B9 X9 T9; (try dsimp only); (try k_lift B9); (try k_fold))
  k_with "call type:tuple" => (k_here; (with_reducible show wpAny _ _ (call (Value.type _) [Value.ref _]) _ _ _); k_dflt (refine' kde_tupleOf ?k1 ?k2 ?k3 ?k4 ?k5 ?_; (case k1 => k_asm); (case k2 => k_asm); (case k3 => exact News.isList (by k_asm) (by k_mem)); (case k4 => (simp only [List.size_toArray]; omega)); (case k5 => exact List.toList_toArray); k_whole); intro D9 h9 F9 N9 l9; (try k_lt l9); (try k_sweep))
  k_with "cel enter" => (refine' code_defC ?k1 ?k2 ?k3 ?k4 ?k5 ?kA ?kF ?kK ?k6 ?k7 ?k8 ?k9 ?kB ?kD ?_ ?c2 ?c3 ?c4; (case kA => exact rfl); (case kF => exact rfl); (case kK => assumption); (case k1 => k_asm); (case k2 => k_asm); (case k3 => k_asm); (case k4 => k_asm); (case k5 => k_asm); (case k6 => k_is); (case k7 => k_is); (case k8 => ktr_room); (case k9 => exact BindsTo.of_eq rfl); (case kB => exact rfl); (case kD => decide +kernel); (case c2 => exact rfl); (case c3 => exact rfl); (case c4 => exact rfl); k_whole; intro g9 L9 h9 tk9 cells9 G9 F9 N9 Y9 B9 X9 T9 l9; (try k_lt l9); k_cells Y9; (try simp only [List.cons_append, List.nil_append] at N9); (try dsimp only); (try k_lift B9); (try k_fold))
  k_with "lam enter" => (refine' kla_code ?k1 ?k2 ?k3 ?k4 ?k5 ?kA ?kF ?kK ?k6 ?k7 ?k8 ?k9 ?kB ?_ ?c2 ?c3 ?c4 ?c5; (case kA => exact rfl); (case kF => exact rfl); (case kK => assumption); (case k1 => k_asm); (case k2 => k_asm); (case k3 => k_asm); (case k4 => k_asm); (case k5 => k_asm); (case k6 => k_mem); (case k7 => exact codeRec_news (by k_asm) (by k_mem) (by assumption) (by assumption)); (case k8 => ktr_room); (case k9 => exact rfl); (case c5 => decide); (case kB => exact locs rfl); (case c2 => exact rfl); (case c3 => exact rfl); (case c4 => exact rfl); k_whole; intro g9 L9 h9 G9 F9 N9 B9 X9 T9; (try dsimp only); (try k_lift B9); (try k_fold))
  k_with "my mem" => with_reducible assumption
  k_with "compareOp Eq ref ref" => (refine Hold.intro ?_)
  k_with "subscriptTail Name Slice ref ref" => (refine Hold.intro ?_)
  k_with "eval Name" => (with_reducible refine gen_tok (fun tk9 => ?_))
  k_with "execs cons" => (with_reducible refine gen_tok (fun tk9 => ?_))
  k_with "eval Constant int" => (with_reducible refine gen_tok (fun tk9 => ?_))
  k_with "eval Call" => (with_reducible refine gen_tok (fun tk9 => ?_))
  k_with "exec If" => (with_reducible refine gen_tok (fun tk9 => ?_))
  k_with "ite" => (with_reducible refine gen_tok (fun tk9 => ?_))
  unfold Says KK PR
  k_fill
  intro dp un gd cn cs a ccd cl outer A₀ base h₀ L m s p loose mean mg mb Q E B F X N T hk hd hu hret
  refine wpAny_call ?_
  k_dflt (walk_at "par enter")
  have hul := hi.length
  k_steps
  refine Hold.out ?_
  refine' kmk_slice_ints ?xF ?xN ?xl ?xp ?xq ?xi ?xm ?xc ?_ ?xs ?xt ?xz
  case xF => k_asm
  case xN => k_asm
  case xp => kmk_part
  case xq => kmk_part
  case xl => exact News.isList (by k_asm) hm
  case xi => exact hi
  case xm => exact kmk_run hi (by omega) (by omega)
  case xc => kmk_len
  case xs => with_unfolding_all rfl
  case xt => kmk_pure
  case xz => kmk_size
  intro D1 ws1 hq1 F1q N1q lq1 hI' hC' hL'; (try simp only [Int.reduceNeg, Int.neg_neg, Int.reduceToNat] at hI' hC' hL'); (try k_lt lq1); (try k_sweep)
  k_steps
  refine Hold.out ?_
  rename IntsAre vs gs => hi
  refine' kmk_slice_ints ?yF ?yN ?yl ?yp ?yq ?yi ?ym ?yc ?_ ?ys ?yt ?yz
  case yF => k_asm
  case yN => k_asm
  case yp => kmk_part
  case yq => kmk_part
  case yl => exact News.isList (by k_asm) (.tail _ hm)
  case yi => exact hi
  case ym => exact kmk_upto_neg hi (by decide)
  case yc => kmk_len
  case ys => with_unfolding_all rfl
  case yt => kmk_pure
  case yz => kmk_size
  intro D2 ws2 h2 F2 N2 l2 hI2 hC2 hL2; (try simp only [Int.reduceNeg, Int.neg_neg, Int.reduceToNat] at hI2 hC2 hL2); (try k_lt l2); (try k_sweep)
  k_steps
  refine Hold.out ?_
  rename IntsAre _ (List.take (min _ _ - _) _) => hI1
  rename List.length _ = min (min _ _ - _) _ => hC1
  rw [behind_walk gs place hp] at hI1 hC1
  clear hC1
  rename List.length _ ≤ List.length _ => hx
  clear hx
  try (rename List.length _ ≤ List.length _ => hx; clear hx)
  rename IsRange _ _ _ _ _ _ _ _ => hrg
  rename Fr _ _ _ _ => lF1
  rename News _ _ _ _ => lN1
  rename_i hq2 hq3 hq4 Fq Nq hq5 tkq t1q u1q v1q aq
  have hlq : (List.take (gs.length - 1) gs).length = gs.length - 1 := by rw [List.length_take]; omega
  have hln : ws2.length = gs.length - 1 := by rw [hI2.length, List.length_take]; omega
  have hl1 := hI1.length
  have hbl := behind_len gs place
  clear hC2 aq Fq Nq
  with_unfolding_all refine loop_range (n := gs.length - 1) (fun i m₁ nx => nx = (D2, listOf ws2.toArray 0) :: (D1, listOf ws1.toArray 0) :: news ∧ m₁ (Str.ofString "gaps") = some (Value.ref l) ∧ m₁ (Str.ofString "place") = some (Value.int (place : Nat) tp) ∧ m₁ (Str.ofString "size") = some (Value.int size tS) ∧ m₁ (Str.ofString "behind") = some (Value.ref D1) ∧ m₁ (Str.ofString "others") = some (Value.ref D2) ∧ ∃ t, m₁ (Str.ofString "most") = some (Value.int (mostG gs place size i) t)) rfl hrg ?_ ?_ lF1 lN1 ⟨rfl, by rfl, by rfl, by rfl, by rfl, by rfl, ⟨_, by rfl⟩⟩ ?_ ?_
  · exact small_one (by omega) (by omega) (by omega) (by omega)
  · rw [rangeSize_nat]; omega
  · rintro i t m₁ nx h₁ tk₁ oI hin hlt hoff hz1 F₁ N₁
    refine hide fun G₉ hG₉ => ?_
    obtain ⟨rfl, e1, e2, e3, e4, e5, ⟨ta, e6⟩⟩ := hz1
    refine hG₉ ?_
    clear hG₉ G₉
    have F1 := fr_k6 (Str.ofString "gaps") (Str.ofString "place") (Str.ofString "size") (Str.ofString "behind") (Str.ofString "others") (Str.ofString "most") (by exact e1) (by exact e2) (by exact e3) (by exact e4) (by exact e5) (by exact e6) F₁
    clear F₁ lF1 lN1 e1 e2 e3 e4 e5 e6
    rw [Int.zero_add] at F1
    refine gen_Q fun Q₉ hQ₉ => ?_
    k_steps
    rename IntsAre vs gs => hi
    k_dflt (refine' item_l ?yN (.tail _ (.tail _ (.tail _ hm))) hi ?ya ?yb ?yc ?_; (case yN => k_asm); (case ya => omega); (case yb => omega); (case yc => omega); k_whole)
    intro t'
    rw [Int.toNat_natCast]
    k_sweep
    iterate 6 walk1
    · k_steps
      refine Hold.out ?_
      refine' kmk_slice_ints ?zF ?zN ?zl ?zp ?zq ?zi ?zm ?zc ?_ ?zs ?zt ?zz
      case zF => k_asm
      case zN => k_asm
      case zp => kmk_part
      case zq => kmk_part
      case zl => exact News.isList (by k_asm) (.tail _ (.head _))
      case zi => exact hI2
      case zm => exact kmk_run hI2 (by omega) (by omega)
      case zc => kmk_len
      case zs => with_unfolding_all rfl
      case zt => kmk_pure
      case zz => kmk_size
      intro D3 ws3 h3 F3 N3 l3 hI3 hC3 hL3; clear hC3 hL3; (try simp only [Int.reduceNeg, Int.neg_neg, Int.reduceToNat] at hI3); (try k_lt l3); (try k_sweep)
      k_steps
      refine Hold.out ?_
      rename Int.fmod _ size = Int.fmod _ size => hrest
      rw [take_walk, hl1] at hI3
      refine ke_eq_ints (News.isList (by k_asm) (.head _)) (News.isList (by k_asm) (.tail _ (.tail _ (.tail _ (.head _))))) hI3 hI1 ?hun ?_
      case hun => ktr_units
      by_cases hc : ((othF gs).drop (i + 1)).take (behindF gs place).length = behindF gs place
      · rw [decide_eq_true hc]
        k_steps
        rename Fr _ _ _ _ => lF2
        rename News _ _ _ _ => lN2
        refine hQ₉ _ _ ?_
        refine turn_next ((D2, listOf ws2.toArray 0) :: (D1, listOf ws1.toArray 0) :: news) lF2 lN2 (by k_mem) (fun p hp => .tail _ (.tail _ hp)) hoff ⟨rfl, by rfl, by rfl, by rfl, by rfl, by rfl, ⟨_, by rw [most_step hrest hc]; rfl⟩⟩
      · rw [decide_eq_false hc]
        k_steps
        rename Fr _ _ _ _ => lF2
        rename News _ _ _ _ => lN2
        refine hQ₉ _ _ ?_
        refine turn_next ((D2, listOf ws2.toArray 0) :: (D1, listOf ws1.toArray 0) :: news) lF2 lN2 (by k_mem) (fun p hp => .tail _ (.tail _ hp)) hoff ⟨rfl, by rfl, by rfl, by rfl, by rfl, by rfl, ⟨_, by rw [most_stay (fun h => hc h.2)]; rfl⟩⟩
    · rename Int.fmod _ size ≠ Int.fmod _ size => hrest
      k_steps
      rename Fr _ _ _ _ => lF2
      rename News _ _ _ _ => lN2
      refine hQ₉ _ _ ?_
      refine turn_next ((D2, listOf ws2.toArray 0) :: (D1, listOf ws1.toArray 0) :: news) lF2 lN2 (by k_mem) (fun p hp => .tail _ hp) hoff ⟨rfl, by rfl, by rfl, by rfl, by rfl, by rfl, ⟨_, by rw [most_stay (fun h => hrest h.1)]; rfl⟩⟩
  · rintro m₁ nx h₁ tk₁ hz2 F₁ N₁
    refine hide fun G₉ hG₉ => ?_
    obtain ⟨rfl, e1, e2, e3, e4, e5, ⟨ta, e6⟩⟩ := hz2
    refine hG₉ ?_
    clear hG₉ G₉
    have F1 := fr_know (Str.ofString "most") (by exact e6) F₁
    clear F₁ lF1 lN1 e1 e2 e3 e4 e5 e6
    k_steps
    exact hret _ _ _ _ (by k_asm) (drop2 (by k_asm)) ⟨⟨_, rfl⟩, rfl⟩
end
end
section
set_option maxRecDepth 100000
section
section
variable {prog : Program} {w : World} {A : Around} {E : Value → Shared → Prop} {s : Shared}
theorem add_TX {a b : List Nat} {t u : Tok} {Q : Value → Shared → Prop} (hz : a.length + b.length ≤ 2 ^ 20) (h : ∀ t' tk, Q (.str (TX (a ++ b)) t') { s with toks := tk }) : wpAny (model prog w) A (binaryOp .Add (.str (TX a) t) (.str (TX b) u)) Q E s := by
  refine PyProof.Rows.add_str (fun t' tk => ?_) ?_
  · rw [TX_app]; exact h t' tk
  · rw [TX_len, TX_len, sizeLine_eq]; lia
theorem add_dots {b : List Nat} {t u : Tok} {Q : Value → Shared → Prop} (hz : b.length ≤ 2 ^ 19) (h : ∀ t' tk, Q (.str (TX ([46, 46, 46] ++ b)) t') { s with toks := tk }) : wpAny (model prog w) A (binaryOp .Add (.str (Str.ofString "...") t) (.str (TX b) u)) Q E s := by
  rw [dots_TX]
  exact add_TX (by simp; lia) h
end
theorem sigF_len {size : Int} (hs : 1 ≤ size) {gs : List Int} (hg : ∀ g ∈ gs, 0 ≤ g ∧ g < 60) : (sigF size gs).length ≤ 60 * gs.length := by
  unfold sigF; rw [List.length_map]; exact octF_len hs hg
end
end
section
local macro_rules | `(tactic| walk_at "par enter") => `(tactic| (refine' code_def ?k1 ?k2 ?k3 ?k4 ?k5 ?kA ?kF ?kK ?k6 ?k7 ?k8 ?k9 ?kB ?_ ?c2 ?c3 ?c4 ?c5; (case kA => exact rfl); (case kF => exact rfl); (case kK => assumption); (case k1 => k_asm); (case k2 => k_asm); (case k3 => k_asm); (case k4 => k_asm); (case k5 => k_asm); (case k6 => k_is); (case k7 => k_is); (case k8 => ktr_room); (case k9 => (refine' kp_binds ?kx ?ke; (case kx => k_in); (case ke => exact fun _ => rfl))); (case c5 => decide); (case kB => exact locs rfl); (case c2 => exact rfl); (case c3 => exact rfl); (case c4 => exact rfl); k_whole; intro g' L' h' FG' F' N' B' X' T'; (try dsimp only); (try k_lift B'); (try k_fold)))
local macro_rules | `(tactic| walk_at "call type:tuple") => `(tactic| (k_here; (with_reducible show wpAny _ _ (call (Value.type _) [Value.ref _]) _ _ _); k_dflt (refine' kde_tupleOf ?k1 ?k2 ?k3 ?k4 ?k5 ?_; (case k1 => k_asm); (case k2 => k_asm); (case k3 => exact News.isList (by k_asm) (by k_mem)); (case k4 => (simp only [List.size_toArray]; omega)); (case k5 => exact List.toList_toArray); k_whole); intro D' h' F' N' l1; (try k_lt l1); (try k_sweep)))
local macro_rules | `(tactic| walk_at "cel enter") => `(tactic| (refine' code_defC ?k1 ?k2 ?k3 ?k4 ?k5 ?kA ?kF ?kK ?k6 ?k7 ?k8 ?k9 ?kB ?kD ?_ ?c2 ?c3 ?c4; (case kA => exact rfl); (case kF => exact rfl); (case kK => assumption); (case k1 => k_asm); (case k2 => k_asm); (case k3 => k_asm); (case k4 => k_asm); (case k5 => k_asm); (case k6 => k_is); (case k7 => k_is); (case k8 => ktr_room); (case k9 => exact BindsTo.of_eq rfl); (case kB => exact rfl); (case kD => decide +kernel); (case c2 => exact rfl); (case c3 => exact rfl); (case c4 => exact rfl); k_whole; intro g' L' h' tk' cells' FG' F' N' Y' B' X' T' l1; (try k_lt l1); k_cells Y'; (try simp only [List.cons_append, List.nil_append] at N'); (try dsimp only); (try k_lift B'); (try k_fold)))
local macro_rules | `(tactic| walk_at "lam enter") => `(tactic| (refine' kla_code ?k1 ?k2 ?k3 ?k4 ?k5 ?kA ?kF ?kK ?k6 ?k7 ?k8 ?k9 ?kB ?_ ?c2 ?c3 ?c4 ?c5; (case kA => exact rfl); (case kF => exact rfl); (case kK => assumption); (case k1 => k_asm); (case k2 => k_asm); (case k3 => k_asm); (case k4 => k_asm); (case k5 => k_asm); (case k6 => k_mem); (case k7 => exact codeRec_news (by k_asm) (by k_mem) (by assumption) (by assumption)); (case k8 => ktr_room); (case k9 => exact rfl); (case c5 => decide); (case kB => exact locs rfl); (case c2 => exact rfl); (case c3 => exact rfl); (case c4 => exact rfl); k_whole; intro g' L' h' FG' F' N' B' X' T'; (try dsimp only); (try k_lift B'); (try k_fold)))
theorem sigF_app (size : Int) (a b : List Int) : sigF size (a ++ b) = sigF size a ++ sigF size b := by simp [sigF, octF]
theorem sigF_split (size : Int) (gs : List Int) : sigF size gs = sigF size (othF gs) ++ sigF size (gs.drop (gs.length - 1)) := by
  rw [← sigF_app, othF, List.take_append_drop]
theorem range_at (n i : Nat) (h : i < n) : (rangeKs 0 n).getD i 0 = (i : Nat) := by
  rw [List.getD_eq_getElem?_getD, rangeKs, List.getElem?_map, List.getElem?_range h]
  simp
noncomputable abbrev qF : Str := (envOfC (Str.ofString "_law_found") { kind := .function, names := [], isGenerator := false, isCoroutine := false } 0 152 (.ref 151)).qual ++ Str.ofString "<lambda>"
/-- the ledger behind a first call of _law_found: the table of the codes of its two lambdas -/
noncomputable def FTab (news news' : Led) : Prop := ∃ (c1 : Addr) (oc1 : Obj) (vs1 : Array Value) (t1 : Tok) (c2 : Addr) (oc2 : Obj) (vs2 : Array Value) (t2 : Tok), oc1.data = .fields vs1 ∧ vs1[1]? = some (.str qF t1) ∧ oc2.data = .fields vs2 ∧ vs2[1]? = some (.str qF t2) ∧
  news' = (147, tabObj (#[] ++ #[rawInt 159, rawInt 12, .ref c1] ++ #[rawInt 160, rawInt 12, .ref c2])) :: (c1, oc1) :: (c2, oc2) :: news
theorem keep3 {h₀ h : Heap} {L : Addr} {a1 a2 a3 a4 a5 a6 a7 b1 b2 b3 b4 b5 b6 b7 : Addr × Obj} {l : Led} (N : News h₀ L h (a1 :: a2 :: a3 :: a4 :: a5 :: a6 :: a7 :: b1 :: b2 :: b3 :: b4 :: b5 :: b6 :: b7 :: l)) : News h₀ L h (b7 :: a5 :: a3 :: l) := news_sub N fun p hp => by
  rcases List.mem_cons.mp hp with rfl | hp
  · simp
  · rcases List.mem_cons.mp hp with rfl | hp
    · simp
    · rcases List.mem_cons.mp hp with rfl | hp
      · simp
      · simp [hp]
noncomputable def lackF (gs : List Int) (place : Nat) (size rest : Int) (i : Nat) : Int := if hasF (sigF size (((i : Int) * size + rest) :: behindF gs place)) (sigF size (othF gs)) then 0 else 1
theorem sigF_mem {size : Int} (hs : 1 ≤ size) (hs2 : size ≤ 32) : ∀ {gs : List Int}, (∀ g ∈ gs, 0 ≤ g ∧ g < 60) → ∀ c ∈ sigF size gs, c ≠ 46 ∧ c < 128 := by
  intro gs hg c hc
  rw [sigF_code] at hc
  obtain ⟨p, hp, hc⟩ := List.mem_flatMap.mp hc
  obtain ⟨g, hgm, rfl⟩ := List.mem_map.mp hp
  obtain ⟨c1, c2⟩ := fmod_bd (g := g) hs
  rcases List.mem_append.mp hc with hc | hc
  · rw [List.eq_of_mem_replicate hc]; decide
  · rw [List.mem_singleton.mp hc]; unfold cutF; dsimp only; omega
theorem sigF_ne (size : Int) (g : Int) (gs : List Int) : sigF size (g :: gs) ≠ [] := by
  rw [sigF_code]; simp [codeC, gapC]
set_option maxRecDepth 100000 in
set_option maxHeartbeats 8000000 in
theorem found_new (w : World) (l : Addr) (nn : Nat) (vs : List Value) (gs : List Int) (place : Nat) (size : Int) (tS tp : Tok) (news : Led) (hn : ∀ p ∈ news, p.1 ≠ 147) (hm : (l, listOf vs.toArray nn) ∈ news) (hi : IntsAre vs gs) (hg : ∀ g ∈ gs, 0 ≤ g ∧ g < 20) (hs : 1 ≤ size) (hs2 : size ≤ 32) (hlen : gs.length ≤ 7) (hp : place < gs.length) :
    Says w (.ref 152) [.ref l, .int (place : Nat) tp, .int size tS] [] 20 140 ((147, tabObj #[]) :: news) (fun v news' => (∃ t, v = .int (mostG gs place size (gs.length - 1)) t) ∧ FTab news news') := by
  w_top off
  k_with_none
  k_with "my all" => exact below_ne (by assumption)
  k_with "my all" => assumption
  k_with "my all" => exact below_ne (ktn_ltOf (by first | assumption | (simp only [*]; done)))
  k_with "my use" => ((case B => k_asm); (case F => k_asm); (case X => k_asm); (case N => k_asm); (case T => k_asm); (case k => first | exact rfl | assumption); (case d => ktr_room); (case u => ktr_units))
  k_with "my fit" => first | omega | (simp only [List.length_append, List.length_cons, List.length_nil, List.length_map, List.length_take]; omega)
  k_with "my len" => (try simp only [List.length_append, List.length_cons, List.length_nil, Nat.zero_add, Nat.reduceAdd, Nat.cast_ofNat, Int.natCast_add])
  k_with "call builtin:len" => (k_here; (with_reducible show wpAny _ _ (call (Value.builtin "len") [Value.ref _]) _ _ _); k_dflt (refine' len_l ?N ?m ?z ?_; (case N => k_asm); (case m => k_mem); (case z => walk_at "my fit")); walk_at "my len")
  k_with "call builtin:len" => (k_here; (with_reducible show wpAny _ _ (call (Value.builtin "len") [Value.str _ _]) _ _ _); k_dflt (refine' len_TX ?z ?_; (case z => walk_at "my fit")); walk_at "my len")
  k_with "call builtin:list.append" => (k_here; (with_reducible show wpAny _ _ (call (Value.builtin _) [Value.ref _, _]) _ _ _); k_dflt (refine' append_l ?F ?N ?U ?z ?_; (case F => k_asm); (case N => k_asm); (case U => k_upd); (case z => walk_at "my fit"); k_whole); intro _ _ _; (try k_sweep))
  k_with "eval ListComp" => (k_here; k_dflt (refine LCg.ListComp_U (F₀ := by k_asm) (by with_unfolding_all rfl) (by decide) (by rfl) (by decide) (by rfl) ?_))
  k_with "CompSrc" => (refine Hold.intro ?_)
  k_with "call ref" => (refine Hold.intro ?_)
  k_with "pyIter ref" => (refine Hold.intro ?_)
  k_with "exec While Compare cons nil" => (refine Hold.intro ?_)
  k_with "call builtin:str.split" => (refine Hold.intro ?_)
  k_with "call builtin:str.find" => (refine Hold.intro ?_)
  k_with "truthy str" => (k_here; (with_reducible show wpAny _ _ (truthy (Value.str (TX _) _)) _ _ _); k_dflt (refine' truthy_TX ?z ?_; (case z => walk_at "my fit")))
  k_with "delItem ref int" => (k_here; k_dflt (refine' del_l ?F ?N ?e ?U ?f ?k ?l ?z ?_; (case F => k_asm); (case N => k_asm); (case k => exact rfl); (case e => kl_lit); (case U => k_upd); (case f => rfl); (case l => decide); (case z => walk_at "my fit"); k_whole); intro _ _ _; (try k_sweep))
  k_with "exec For Name Name cons nil" => (k_here; k_dflt (refine' For_invVF ?F ?k1 ?k2 ?_; (case F => k_asm); (case k1 => exact rfl); (case k2 => exact rfl)))
  k_with "exec For Name Call cons nil" => (k_here; k_dflt (refine' For_invVF ?F ?k1 ?k2 ?_; (case F => k_asm); (case k1 => exact rfl); (case k2 => exact rfl)))
  k_with "my mem" => (show (_ : Addr × Obj) ∈ (_ : List (Addr × Obj)); with_reducible assumption)
  k_with "binaryOp Add str str" => (k_here; (with_reducible show wpAny _ _ (binaryOp Operator.Add (Value.str _ _) (Value.str _ _)) _ _ _); first | ((refine add_dots ?zda ?_; (case zda => walk_at "my fit")); intro _ _; (try k_sweep)) | ((refine add_TX ?zda ?_; (case zda => walk_at "my fit")); intro _ _; (try k_sweep)))
  k_with "subscriptTail Name Slice ref ref" => (refine Hold.intro ?_)
  unfold Says KK PR
  k_fill
  intro dp un gd cn cs a ccd cl outer A₀ base h₀ L m s p loose mean mg mb Q E B F X N T hk hd hu hret
  refine wpAny_call ?_
  k_dflt (walk_at "cel enter")
  rename Frag.In _ _ => hX
  have hC := code151 hX
  have hul := hi.length
  have hg60 : ∀ g ∈ gs, 0 ≤ g ∧ g < 60 := fun g h => ⟨(hg g h).1, by have := (hg g h).2; omega⟩
  rename _ ∧ AllLt _ news => hl1
  rename_i o1 o2 o3 o4 o5 o6 dd1 dd2 dd3 dd4 dd5 dd6 NN0
  have dZ : o6.data = Data.cell (some (Value.int size tS)) := dd6
  have hL1 := allLt_succ hl1.2
  have hL2 := allLt_succ hL1
  have hL3 := allLt_succ hL2
  have hL4 := allLt_succ hL3
  have hL5 := allLt_succ hL4
  have hL6 := allLt_succ hL5
  k_steps
  refine Hold.out ?_
  rename IntsAre vs gs => hi
  k_dflt (refine' says_use (signs_says w l nn vs gs size tS _ ?hmA hi hg60 hs hs2 hlen) ?B ?F ?X ?N ?T ?k ?d ?u ?_; walk_at "my use"; (case hmA => k_mem))
  rintro v news' h' tk' F' N' ⟨tA, rfl, rfl⟩
  k_sweep
  k_steps
  rename IntsAre vs gs => hi
  refine Hold.out ?_
  refine' kmk_slice_ints ?xF ?xN ?xl ?xp ?xq ?xi ?xm ?xc ?_ ?xs ?xt ?xz
  case xF => k_asm
  case xN => k_asm
  case xp => kmk_part
  case xq => kmk_part
  case xl => (refine' News.isList ?xlN ?xlM; (case xlN => k_asm); (case xlM => k_mem))
  case xi => exact hi
  case xm => exact kmk_run hi (by omega) (by omega)
  case xc => kmk_len
  case xs => with_unfolding_all rfl
  case xt => kmk_pure
  case xz => kmk_size
  intro D1 ws1 hq1 F1q N1q lq1 hI1 hC1 hL1'; (try simp only [Int.reduceNeg, Int.neg_neg, Int.reduceToNat] at hI1 hC1); clear hC1 hL1'; (try k_lt lq1); (try k_sweep)
  rw [behind_walk gs place hp] at hI1
  k_steps
  refine Hold.out ?_
  rename IntsAre vs gs => hi
  refine' kmk_slice_ints ?yF ?yN ?yl ?yp ?yq ?yi ?ym ?yc ?_ ?ys ?yt ?yz
  case yF => k_asm
  case yN => k_asm
  case yp => kmk_part
  case yq => kmk_part
  case yl => (refine' News.isList ?ylN ?ylM; (case ylN => k_asm); (case ylM => k_mem))
  case yi => exact hi
  case ym => exact kmk_from_neg hi (by decide)
  case yc => kmk_len
  case ys => with_unfolding_all rfl
  case yt => kmk_pure
  case yz => kmk_size
  intro D2 ws2 hq2 F2q N2q lq2 hI2 hC2 hL2'; (try simp only [Int.reduceNeg, Int.neg_neg, Int.reduceToNat] at hI2 hC2); clear hC2 hL2'; (try k_lt lq2); (try k_sweep)
  have hsl := sigF_len hs hg60
  have hg60b : ∀ g ∈ gs.drop (gs.length - 1), 0 ≤ g ∧ g < 60 := fun g h => hg60 g (List.mem_of_mem_drop h)
  have hsl2 := sigF_len hs hg60b
  have hdl : (List.drop (gs.length - 1) gs).length = 1 := by rw [List.length_drop]; omega
  k_steps
  refine Hold.out ?_
  k_dflt (refine' says_use (signs_says w D2 0 ws2 (gs.drop (gs.length - 1)) size tS _ ?hmB hI2 hg60b hs hs2 (by rw [List.length_drop]; omega)) ?B ?F ?X ?N ?T ?k ?d ?u ?_; walk_at "my use"; (case hmB => k_mem))
  rintro v news' h' tk' F' N' ⟨tB, rfl, rfl⟩
  k_sweep
  k_steps
  rename IsRange _ _ _ _ _ _ _ _ => hrg
  rename_i oS' oS tkS tR hA2 oR dR hA3 oB dB tE tkE hA4 oE dE f1 c1 oc1 vs1 t1' ct1 hA5 tkA5 da1 da2 la1 la2 hA6 oK dK f2 c2 oc2 vs2 t2' ct2 hA7 tkA7 db1 db2 lb1 lb2 hA8 Fx Nx hA9 tkA9 ta9 ua9 va9 Fy Ny aq
  clear Fx Nx aq
  have hNN : ∃ NN : Nat, (NN : Int) = Int.fdiv 20 size + 1 ∧ NN ≤ 21 := by
    obtain ⟨a, b⟩ := fdiv_bd (g := 20) (B := 21) (by decide) (by decide) hs
    have c : Int.fdiv 20 size ≤ 20 := by omega
    exact ⟨(Int.fdiv 20 size + 1).toNat, by omega, by omega⟩
  obtain ⟨NN, hN1, hN2⟩ := hNN
  with_unfolding_all refine kll_range (n := NN) rfl Fy Ny hrg (small_one (by omega) (by omega) (by omega) (by omega)) (by rw [rangeSize_nat]; omega) (by omega) ?_
  intro DP wsP cP hP tkP FP NP lP hIP
  (try k_lt lP); (try k_sweep)
  k_steps
  refine Hold.out ?_
  rw [Int.toNat_natCast] at dR
  have hNs : ∀ i : Nat, i < NN → 0 ≤ (i : Int) * size ∧ (i : Int) * size ≤ 20 := fun i h => by
    refine ⟨Int.mul_nonneg (by omega) (by omega), ?_⟩
    have h1 : (i : Int) ≤ Int.fdiv 20 size := by omega
    rw [Int.fdiv_eq_ediv_of_nonneg _ (by omega)] at h1
    exact Int.mul_le_of_le_ediv (by omega) h1
  obtain ⟨hr1, hr2⟩ := fmod_bd (g := gs.getD place 0) hs
  generalize hre : Int.fmod (gs.getD place 0) size = rest at dR hr1 hr2
  refine with_led NP (fun led => ∀ (i : Nat) (t : Tok), i < NN → Says w (.ref f1) [.int (i : Nat) t] [] 4 24 led (fun v nx => (∃ t', v = .str (TX (dotsF (sigF size (((i : Int) * size + rest) :: behindF gs place)) (sigF size (gs.drop (gs.length - 1))))) t') ∧ nx = led)) ?_ ?_
  · rename Below _ _ _ _ => B2
    rename Top _ _ _ _ _ _ => T2
    clear B2 T2 FP NP hC hX
    rename Fr _ _ _ _ => FG2
    clear FG2 hret hd hu hk T X F B N E Q
    intro led hs'
    have mf1 := hs' (f1, _) (by k_mem)
    have mc1 := hs' (c1, oc1) (by k_mem)
    have mZ := hs' (_, o6) (by k_mem)
    have mR := hs' (_, oR) (by k_mem)
    have mE := hs' (_, oE) (by k_mem)
    have mB := hs' (_, oB) (by k_mem)
    have mD1 := hs' (D1, _) (by k_mem)
    clear hs' hm hn
    intro i t hiN
    obtain ⟨hi1, hi2⟩ := hNs i hiN
    unfold Says KK PR
    k_fill
    intro dp un gd cn cs a ccd cl outer A₀ base h₀ L m s p loose mean mg mb Q E B F X N T hk hd hu hret
    refine wpAny_call ?_
    k_dflt (walk_at "lam enter")
    rename Frag.In _ _ => hX2
    have hC2 := code151 hX2
    have hbl := behind_len gs place
    have hl1' := hI1.length
    k_steps
    have hg60c : ∀ g ∈ [(i : Int) * size + rest] ++ behindF gs place, 0 ≤ g ∧ g < 60 := fun g h => by
      rcases List.mem_append.mp h with h | h
      · rw [List.mem_singleton.mp h]; omega
      · exact hg60 g (List.mem_of_mem_drop (List.mem_of_mem_take h))
    have hsl3 := sigF_len hs hg60c
    have hsl4 : ([(i : Int) * size + rest] ++ behindF gs place).length ≤ 2 := by simp; omega
    refine Hold.out ?_
    rename IntsAre _ (_ ++ behindF gs place) => hI3
    k_dflt (refine' says_use (signs_says w _ 0 _ _ size tS _ ?hmC hI3 hg60c hs hs2 (by omega)) ?B ?F ?X ?N ?T ?k ?d ?u ?_; walk_at "my use"; (case hmC => k_mem))
    rintro v news' h' tk' F' N' ⟨tC, rfl, rfl⟩
    k_sweep
    k_steps
    rw [List.append_assoc]
    exact hret _ _ _ _ (by k_asm) (drop2 (by k_asm)) ⟨⟨_, rfl⟩, rfl⟩
  · intro hasked
    have hsplit := sigF_split size gs
    rw [hsplit] at oS
    refine with_led NP (fun led => (∀ (i : Nat) (t : Tok), i < NN → Says w (.ref f1) [.int (i : Nat) t] [] 4 24 led (fun v nx => (∃ t', v = .str (TX (dotsF (sigF size (((i : Int) * size + rest) :: behindF gs place)) (sigF size (gs.drop (gs.length - 1))))) t') ∧ nx = led)) →
      ∀ (i : Nat) (t : Tok), i < NN → Says w (.ref f2) [.int (i : Nat) t] [] 6 40 led (fun v nx => (∃ t', v = .int (lackF gs place size rest i) t') ∧ nx = led)) ?_ ?_
    · rename Below _ _ _ _ => B2
      rename Top _ _ _ _ _ _ => T2
      clear hasked B2 T2 FP NP hC hX
      rename Fr _ _ _ _ => FG2
      clear FG2 hret hd hu hk T X F B N E Q
      intro led hs'
      have mf2 := hs' (f2, _) (by k_mem)
      have mc2 := hs' (c2, oc2) (by k_mem)
      have mf1 := hs' (f1, _) (by k_mem)
      have mK := hs' (_, oK) (by k_mem)
      have mS := hs' (_, oS') (by k_mem)
      clear hs' hm hn
      intro hasked i t hiN
      obtain ⟨hi1, hi2⟩ := hNs i hiN
      unfold Says KK PR
      k_fill
      intro dp un gd cn cs a ccd cl outer A₀ base h₀ L m s p loose mean mg mb Q E B F X N T hk hd hu hret
      refine wpAny_call ?_
      k_dflt (walk_at "lam enter")
      rename Frag.In _ _ => hX2
      have hC2 := code151 hX2
      k_steps
      refine Hold.out ?_
      k_dflt (refine' says_use (hasked i _ hiN) ?B ?F ?X ?N ?T ?k ?d ?u ?_; walk_at "my use")
      rintro v news' h' tk' F' N' ⟨⟨tC, rfl⟩, rfl⟩
      k_sweep
      k_steps
      refine Hold.out ?_
      have hg60c : ∀ g ∈ ((i : Int) * size + rest) :: behindF gs place, 0 ≤ g ∧ g < 60 := fun g h => by
        rcases List.mem_cons.mp h with h | h
        · rw [h]; omega
        · exact hg60 g (List.mem_of_mem_drop (List.mem_of_mem_take h))
      have hg60o : ∀ g ∈ othF gs, 0 ≤ g ∧ g < 60 := fun g h => hg60 g (List.mem_of_mem_take h)
      have hbl := behind_len gs place
      have hsl3 := sigF_len hs hg60c
      have hsl5 := sigF_len hs hg60o
      have hol : (othF gs).length ≤ 7 := by unfold othF; rw [List.length_take]; omega
      rw [List.length_cons] at hsl3
      have hlne : sigF size (gs.drop (gs.length - 1)) ≠ [] := by
        obtain ⟨g, hgl⟩ : ∃ g, gs.drop (gs.length - 1) = [g] := List.length_eq_one_iff.mp hdl
        rw [hgl]; exact sigF_ne _ _ _
      k_dflt (refine' says_use (match_says w (sigF size (((i : Int) * size + rest) :: behindF gs place)) (sigF size (gs.drop (gs.length - 1))) (sigF size (othF gs)) _ _ _ (fun c h => (sigF_mem hs hs2 hg60c c h).1) (fun c h => (sigF_mem hs hs2 hg60b c h).1) ?hdd (by omega) (by omega) (by omega) (sigF_ne _ _ _) hlne) ?B ?F ?X ?N ?T ?k ?d ?u ?_; walk_at "my use")
      case hdd =>
        intro c hc
        unfold dotsF at hc
        rcases List.mem_append.mp hc with hc | hc
        · simp at hc; omega
        · rcases List.mem_append.mp hc with hc | hc
          · exact (sigF_mem hs hs2 hg60c c hc).2
          · rcases List.mem_append.mp hc with hc | hc
            · simp at hc; omega
            · exact (sigF_mem hs hs2 hg60b c hc).2
      rintro v news' h' tk' F' N' ⟨rfl, rfl⟩
      have hlf : lackF gs place size rest i = if hasF (sigF size (((i : Int) * size + rest) :: behindF gs place)) (sigF size (othF gs)) then 0 else 1 := rfl
      cases hH : hasF (sigF size (((i : Int) * size + rest) :: behindF gs place)) (sigF size (othF gs)) with
      | true =>
        rw [hH] at hlf
        k_sweep
        k_steps
        exact hret _ _ _ _ (by k_asm) (by k_asm) ⟨⟨_, by rw [hlf]; rfl⟩, rfl⟩
      | false =>
        rw [hH] at hlf
        k_sweep
        k_steps
        exact hret _ _ _ _ (by k_asm) (by k_asm) ⟨⟨_, by rw [hlf]; rfl⟩, rfl⟩
    · intro hlacks
      replace hlacks := hlacks hasked
      obtain ⟨mb1, mb2⟩ := most_bd (place := place) hs hg (gs.length - 1)
      have hrr : (((mostG gs place size (gs.length - 1)) + 1).toNat : Int) = mostG gs place size (gs.length - 1) + 1 := by omega
      k_dflt (refine' says_use (leftK_says w DP cP wsP (rangeKs 0 NN) 1 _ ((mostG gs place size (gs.length - 1)) + 1).toNat f2 _ _ _ _ (lackF gs place size rest) _ (.head _) (.tail _ (.head _)) hIP (by rw [rangeKs_length]; omega) (by rw [rangeKs_length]; omega) ?key ?hpp) ?B ?F ?X ?N ?T ?k ?d ?u ?_; walk_at "my use")
      case key =>
        intro i hi t
        rw [rangeKs_length] at hi
        rw [range_at NN i hi]
        exact hlacks i t hi
      case hpp =>
        intro i hi
        have h := found_iff (place := place) hs hs2 hg i
        rw [hre] at h
        unfold lackF
        by_cases hH : hasF (sigF size (((i : Int) * size + rest) :: behindF gs place)) (sigF size (othF gs)) = true
        · rw [if_pos hH]
          have := h.mp hH
          omega
        · rw [if_neg hH]
          have : ¬ (i : Int) ≤ mostG gs place size (gs.length - 1) := fun x => hH (h.mpr x)
          omega
      rintro v news' h' tk' F' N' ⟨⟨ti, rfl⟩, rfl⟩
      rw [hrr]
      k_sweep
      k_steps
      rw [Int.add_sub_cancel]
      rename News h₀ L _ _ => lN4
      refine hret _ _ _ _ (by k_asm) (keep3 lN4) ⟨⟨_, rfl⟩, c1, oc1, vs1, t1', c2, oc2, vs2, t2', da1, da2, db1, db2, rfl⟩
theorem keepH {h₀ h : Heap} {L : Addr} {a1 a2 a3 a4 a5 b1 b2 b3 b4 b5 b6 : Addr × Obj} {l : Led} (N : News h₀ L h (a1 :: a2 :: a3 :: a4 :: a5 :: b1 :: b2 :: b3 :: b4 :: b5 :: b6 :: l)) : News h₀ L h l := news_sub N fun p hp => by simp [hp]
set_option maxRecDepth 100000 in
set_option maxHeartbeats 8000000 in
theorem found_hit (w : World) (c1 c2 : Addr) (oc1 oc2 : Obj) (vs1 vs2 : Array Value) (t1' t2' : Tok) (da1 : oc1.data = .fields vs1) (da2 : vs1[1]? = some (.str qF t1')) (db1 : oc2.data = .fields vs2) (db2 : vs2[1]? = some (.str qF t2')) (l : Addr) (nn : Nat) (vs : List Value) (gs : List Int) (place : Nat) (size : Int) (tS tp : Tok) (news : Led) (hm : (l, listOf vs.toArray nn) ∈ news) (hi : IntsAre vs gs) (hg : ∀ g ∈ gs, 0 ≤ g ∧ g < 20) (hs : 1 ≤ size) (hs2 : size ≤ 32) (hlen : gs.length ≤ 7) (hp : place < gs.length) :
    Says w (.ref 152) [.ref l, .int (place : Nat) tp, .int size tS] [] 20 140 ((147, tabObj (#[] ++ #[rawInt 159, rawInt 12, .ref c1] ++ #[rawInt 160, rawInt 12, .ref c2])) :: (c1, oc1) :: (c2, oc2) :: news) (fun v news' => (∃ t, v = .int (mostG gs place size (gs.length - 1)) t) ∧ FTab news news') := by
  w_top off
  k_with_none
  k_with "my all" => exact below_ne (by assumption)
  k_with "my all" => assumption
  k_with "my all" => exact below_ne (ktn_ltOf (by first | assumption | (simp only [*]; done)))
  k_with "my use" => ((case B => k_asm); (case F => k_asm); (case X => k_asm); (case N => k_asm); (case T => k_asm); (case k => first | exact rfl | assumption); (case d => ktr_room); (case u => ktr_units))
  k_with "my fit" => first | omega | (simp only [List.length_append, List.length_cons, List.length_nil, List.length_map, List.length_take]; omega)
  k_with "my len" => (try simp only [List.length_append, List.length_cons, List.length_nil, Nat.zero_add, Nat.reduceAdd, Nat.cast_ofNat, Int.natCast_add])
  k_with "call builtin:len" => (k_here; (with_reducible show wpAny _ _ (call (Value.builtin "len") [Value.ref _]) _ _ _); k_dflt (refine' len_l ?N ?m ?z ?_; (case N => k_asm); (case m => k_mem); (case z => walk_at "my fit")); walk_at "my len")
  k_with "call builtin:len" => (k_here; (with_reducible show wpAny _ _ (call (Value.builtin "len") [Value.str _ _]) _ _ _); k_dflt (refine' len_TX ?z ?_; (case z => walk_at "my fit")); walk_at "my len")
  k_with "call builtin:list.append" => (k_here; (with_reducible show wpAny _ _ (call (Value.builtin _) [Value.ref _, _]) _ _ _); k_dflt (refine' append_l ?F ?N ?U ?z ?_; (case F => k_asm); (case N => k_asm); (case U => k_upd); (case z => walk_at "my fit"); k_whole); intro _ _ _; (try k_sweep))
  k_with "eval ListComp" => (k_here; k_dflt (refine LCg.ListComp_U (F₀ := by k_asm) (by with_unfolding_all rfl) (by decide) (by rfl) (by decide) (by rfl) ?_))
  k_with "CompSrc" => (refine Hold.intro ?_)
  k_with "call ref" => (refine Hold.intro ?_)
  k_with "pyIter ref" => (refine Hold.intro ?_)
  k_with "exec While Compare cons nil" => (refine Hold.intro ?_)
  k_with "call builtin:str.split" => (refine Hold.intro ?_)
  k_with "call builtin:str.find" => (refine Hold.intro ?_)
  k_with "truthy str" => (k_here; (with_reducible show wpAny _ _ (truthy (Value.str (TX _) _)) _ _ _); k_dflt (refine' truthy_TX ?z ?_; (case z => walk_at "my fit")))
  k_with "delItem ref int" => (k_here; k_dflt (refine' del_l ?F ?N ?e ?U ?f ?k ?l ?z ?_; (case F => k_asm); (case N => k_asm); (case k => exact rfl); (case e => kl_lit); (case U => k_upd); (case f => rfl); (case l => decide); (case z => walk_at "my fit"); k_whole); intro _ _ _; (try k_sweep))
  k_with "exec For Name Name cons nil" => (k_here; k_dflt (refine' For_invVF ?F ?k1 ?k2 ?_; (case F => k_asm); (case k1 => exact rfl); (case k2 => exact rfl)))
  k_with "exec For Name Call cons nil" => (k_here; k_dflt (refine' For_invVF ?F ?k1 ?k2 ?_; (case F => k_asm); (case k1 => exact rfl); (case k2 => exact rfl)))
  k_with "my mem" => (show (_ : Addr × Obj) ∈ (_ : List (Addr × Obj)); with_reducible assumption)
  k_with "binaryOp Add str str" => (k_here; (with_reducible show wpAny _ _ (binaryOp Operator.Add (Value.str _ _) (Value.str _ _)) _ _ _); first | ((refine add_dots ?zda ?_; (case zda => walk_at "my fit")); intro _ _; (try k_sweep)) | ((refine add_TX ?zda ?_; (case zda => walk_at "my fit")); intro _ _; (try k_sweep)))
  k_with "subscriptTail Name Slice ref ref" => (refine Hold.intro ?_)
  unfold Says KK PR
  k_fill
  intro dp un gd cn cs a ccd cl outer A₀ base h₀ L m s p loose mean mg mb Q E B F X N T hk hd hu hret
  refine wpAny_call ?_
  k_dflt (walk_at "cel enter")
  rename Frag.In _ _ => hX
  have hC := code151 hX
  have hul := hi.length
  have hg60 : ∀ g ∈ gs, 0 ≤ g ∧ g < 60 := fun g h => ⟨(hg g h).1, by have := (hg g h).2; omega⟩
  rename _ ∧ _ ∧ _ ∧ AllLt _ news => hl1
  rename_i o1 o2 o3 o4 o5 o6 dd1 dd2 dd3 dd4 dd5 dd6 NN0
  have dZ : o6.data = Data.cell (some (Value.int size tS)) := dd6
  have hL1 := allLt_succ hl1.2.2.2
  have hL2 := allLt_succ hL1
  have hL3 := allLt_succ hL2
  have hL4 := allLt_succ hL3
  have hL5 := allLt_succ hL4
  have hL6 := allLt_succ hL5
  k_steps
  refine Hold.out ?_
  rename IntsAre vs gs => hi
  k_dflt (refine' says_use (signs_says w l nn vs gs size tS _ ?hmA hi hg60 hs hs2 hlen) ?B ?F ?X ?N ?T ?k ?d ?u ?_; walk_at "my use"; (case hmA => k_mem))
  rintro v news' h' tk' F' N' ⟨tA, rfl, rfl⟩
  k_sweep
  k_steps
  rename IntsAre vs gs => hi
  refine Hold.out ?_
  refine' kmk_slice_ints ?xF ?xN ?xl ?xp ?xq ?xi ?xm ?xc ?_ ?xs ?xt ?xz
  case xF => k_asm
  case xN => k_asm
  case xp => kmk_part
  case xq => kmk_part
  case xl => (refine' News.isList ?xlN ?xlM; (case xlN => k_asm); (case xlM => k_mem))
  case xi => exact hi
  case xm => exact kmk_run hi (by omega) (by omega)
  case xc => kmk_len
  case xs => with_unfolding_all rfl
  case xt => kmk_pure
  case xz => kmk_size
  intro D1 ws1 hq1 F1q N1q lq1 hI1 hC1 hL1'; (try simp only [Int.reduceNeg, Int.neg_neg, Int.reduceToNat] at hI1 hC1); clear hC1 hL1'; (try k_lt lq1); (try k_sweep)
  rw [behind_walk gs place hp] at hI1
  k_steps
  refine Hold.out ?_
  rename IntsAre vs gs => hi
  refine' kmk_slice_ints ?yF ?yN ?yl ?yp ?yq ?yi ?ym ?yc ?_ ?ys ?yt ?yz
  case yF => k_asm
  case yN => k_asm
  case yp => kmk_part
  case yq => kmk_part
  case yl => (refine' News.isList ?ylN ?ylM; (case ylN => k_asm); (case ylM => k_mem))
  case yi => exact hi
  case ym => exact kmk_from_neg hi (by decide)
  case yc => kmk_len
  case ys => with_unfolding_all rfl
  case yt => kmk_pure
  case yz => kmk_size
  intro D2 ws2 hq2 F2q N2q lq2 hI2 hC2 hL2'; (try simp only [Int.reduceNeg, Int.neg_neg, Int.reduceToNat] at hI2 hC2); clear hC2 hL2'; (try k_lt lq2); (try k_sweep)
  have hsl := sigF_len hs hg60
  have hg60b : ∀ g ∈ gs.drop (gs.length - 1), 0 ≤ g ∧ g < 60 := fun g h => hg60 g (List.mem_of_mem_drop h)
  have hsl2 := sigF_len hs hg60b
  have hdl : (List.drop (gs.length - 1) gs).length = 1 := by rw [List.length_drop]; omega
  k_steps
  refine Hold.out ?_
  k_dflt (refine' says_use (signs_says w D2 0 ws2 (gs.drop (gs.length - 1)) size tS _ ?hmB hI2 hg60b hs hs2 (by rw [List.length_drop]; omega)) ?B ?F ?X ?N ?T ?k ?d ?u ?_; walk_at "my use"; (case hmB => k_mem))
  rintro v news' h' tk' F' N' ⟨tB, rfl, rfl⟩
  k_sweep
  k_steps
  rename IsRange _ _ _ _ _ _ _ _ => hrg
  rename_i oS' oS tkS tR hA2 oR dR hA3 oB dB tE tkE hA4 oE dE f1 ct1 hA5 tkA5 la1 hA6 oK dK f2 ct2 hA7 tkA7 lb1 hA8 Fx Nx hA9 tkA9 ta9 ua9 va9 Fy Ny aq
  clear Fx Nx aq
  have hNN : ∃ NN : Nat, (NN : Int) = Int.fdiv 20 size + 1 ∧ NN ≤ 21 := by
    obtain ⟨a, b⟩ := fdiv_bd (g := 20) (B := 21) (by decide) (by decide) hs
    have c : Int.fdiv 20 size ≤ 20 := by omega
    exact ⟨(Int.fdiv 20 size + 1).toNat, by omega, by omega⟩
  obtain ⟨NN, hN1, hN2⟩ := hNN
  with_unfolding_all refine kll_range (n := NN) rfl Fy Ny hrg (small_one (by omega) (by omega) (by omega) (by omega)) (by rw [rangeSize_nat]; omega) (by omega) ?_
  intro DP wsP cP hP tkP FP NP lP hIP
  (try k_lt lP); (try k_sweep)
  k_steps
  refine Hold.out ?_
  rw [Int.toNat_natCast] at dR
  have hNs : ∀ i : Nat, i < NN → 0 ≤ (i : Int) * size ∧ (i : Int) * size ≤ 20 := fun i h => by
    refine ⟨Int.mul_nonneg (by omega) (by omega), ?_⟩
    have h1 : (i : Int) ≤ Int.fdiv 20 size := by omega
    rw [Int.fdiv_eq_ediv_of_nonneg _ (by omega)] at h1
    exact Int.mul_le_of_le_ediv (by omega) h1
  obtain ⟨hr1, hr2⟩ := fmod_bd (g := gs.getD place 0) hs
  generalize hre : Int.fmod (gs.getD place 0) size = rest at dR hr1 hr2
  refine with_led NP (fun led => ∀ (i : Nat) (t : Tok), i < NN → Says w (.ref f1) [.int (i : Nat) t] [] 4 24 led (fun v nx => (∃ t', v = .str (TX (dotsF (sigF size (((i : Int) * size + rest) :: behindF gs place)) (sigF size (gs.drop (gs.length - 1))))) t') ∧ nx = led)) ?_ ?_
  · rename Below _ _ _ _ => B2
    rename Top _ _ _ _ _ _ => T2
    clear B2 T2 FP NP hC hX
    rename Fr _ _ _ _ => FG2
    clear FG2 hret hd hu hk T X F B N E Q
    intro led hs'
    have mf1 := hs' (f1, _) (by k_mem)
    have mc1 := hs' (c1, oc1) (by k_mem)
    have mZ := hs' (_, o6) (by k_mem)
    have mR := hs' (_, oR) (by k_mem)
    have mE := hs' (_, oE) (by k_mem)
    have mB := hs' (_, oB) (by k_mem)
    have mD1 := hs' (D1, _) (by k_mem)
    clear hs' hm
    intro i t hiN
    obtain ⟨hi1, hi2⟩ := hNs i hiN
    unfold Says KK PR
    k_fill
    intro dp un gd cn cs a ccd cl outer A₀ base h₀ L m s p loose mean mg mb Q E B F X N T hk hd hu hret
    refine wpAny_call ?_
    k_dflt (walk_at "lam enter")
    rename Frag.In _ _ => hX2
    have hC2 := code151 hX2
    have hbl := behind_len gs place
    have hl1' := hI1.length
    k_steps
    have hg60c : ∀ g ∈ [(i : Int) * size + rest] ++ behindF gs place, 0 ≤ g ∧ g < 60 := fun g h => by
      rcases List.mem_append.mp h with h | h
      · rw [List.mem_singleton.mp h]; omega
      · exact hg60 g (List.mem_of_mem_drop (List.mem_of_mem_take h))
    have hsl3 := sigF_len hs hg60c
    have hsl4 : ([(i : Int) * size + rest] ++ behindF gs place).length ≤ 2 := by simp; omega
    refine Hold.out ?_
    rename IntsAre _ (_ ++ behindF gs place) => hI3
    k_dflt (refine' says_use (signs_says w _ 0 _ _ size tS _ ?hmC hI3 hg60c hs hs2 (by omega)) ?B ?F ?X ?N ?T ?k ?d ?u ?_; walk_at "my use"; (case hmC => k_mem))
    rintro v news' h' tk' F' N' ⟨tC, rfl, rfl⟩
    k_sweep
    k_steps
    rw [List.append_assoc]
    exact hret _ _ _ _ (by k_asm) (drop2 (by k_asm)) ⟨⟨_, rfl⟩, rfl⟩
  · intro hasked
    have hsplit := sigF_split size gs
    rw [hsplit] at oS
    refine with_led NP (fun led => (∀ (i : Nat) (t : Tok), i < NN → Says w (.ref f1) [.int (i : Nat) t] [] 4 24 led (fun v nx => (∃ t', v = .str (TX (dotsF (sigF size (((i : Int) * size + rest) :: behindF gs place)) (sigF size (gs.drop (gs.length - 1))))) t') ∧ nx = led)) →
      ∀ (i : Nat) (t : Tok), i < NN → Says w (.ref f2) [.int (i : Nat) t] [] 6 40 led (fun v nx => (∃ t', v = .int (lackF gs place size rest i) t') ∧ nx = led)) ?_ ?_
    · rename Below _ _ _ _ => B2
      rename Top _ _ _ _ _ _ => T2
      clear hasked B2 T2 FP NP hC hX
      rename Fr _ _ _ _ => FG2
      clear FG2 hret hd hu hk T X F B N E Q
      intro led hs'
      have mf2 := hs' (f2, _) (by k_mem)
      have mc2 := hs' (c2, oc2) (by k_mem)
      have mf1 := hs' (f1, _) (by k_mem)
      have mK := hs' (_, oK) (by k_mem)
      have mS := hs' (_, oS') (by k_mem)
      clear hs' hm
      intro hasked i t hiN
      obtain ⟨hi1, hi2⟩ := hNs i hiN
      unfold Says KK PR
      k_fill
      intro dp un gd cn cs a ccd cl outer A₀ base h₀ L m s p loose mean mg mb Q E B F X N T hk hd hu hret
      refine wpAny_call ?_
      k_dflt (walk_at "lam enter")
      rename Frag.In _ _ => hX2
      have hC2 := code151 hX2
      k_steps
      refine Hold.out ?_
      k_dflt (refine' says_use (hasked i _ hiN) ?B ?F ?X ?N ?T ?k ?d ?u ?_; walk_at "my use")
      rintro v news' h' tk' F' N' ⟨⟨tC, rfl⟩, rfl⟩
      k_sweep
      k_steps
      refine Hold.out ?_
      have hg60c : ∀ g ∈ ((i : Int) * size + rest) :: behindF gs place, 0 ≤ g ∧ g < 60 := fun g h => by
        rcases List.mem_cons.mp h with h | h
        · rw [h]; omega
        · exact hg60 g (List.mem_of_mem_drop (List.mem_of_mem_take h))
      have hg60o : ∀ g ∈ othF gs, 0 ≤ g ∧ g < 60 := fun g h => hg60 g (List.mem_of_mem_take h)
      have hbl := behind_len gs place
      have hsl3 := sigF_len hs hg60c
      have hsl5 := sigF_len hs hg60o
      have hol : (othF gs).length ≤ 7 := by unfold othF; rw [List.length_take]; omega
      rw [List.length_cons] at hsl3
      have hlne : sigF size (gs.drop (gs.length - 1)) ≠ [] := by
        obtain ⟨g, hgl⟩ : ∃ g, gs.drop (gs.length - 1) = [g] := List.length_eq_one_iff.mp hdl
        rw [hgl]; exact sigF_ne _ _ _
      k_dflt (refine' says_use (match_says w (sigF size (((i : Int) * size + rest) :: behindF gs place)) (sigF size (gs.drop (gs.length - 1))) (sigF size (othF gs)) _ _ _ (fun c h => (sigF_mem hs hs2 hg60c c h).1) (fun c h => (sigF_mem hs hs2 hg60b c h).1) ?hdd (by omega) (by omega) (by omega) (sigF_ne _ _ _) hlne) ?B ?F ?X ?N ?T ?k ?d ?u ?_; walk_at "my use")
      case hdd =>
        intro c hc
        unfold dotsF at hc
        rcases List.mem_append.mp hc with hc | hc
        · simp at hc; omega
        · rcases List.mem_append.mp hc with hc | hc
          · exact (sigF_mem hs hs2 hg60c c hc).2
          · rcases List.mem_append.mp hc with hc | hc
            · simp at hc; omega
            · exact (sigF_mem hs hs2 hg60b c hc).2
      rintro v news' h' tk' F' N' ⟨rfl, rfl⟩
      have hlf : lackF gs place size rest i = if hasF (sigF size (((i : Int) * size + rest) :: behindF gs place)) (sigF size (othF gs)) then 0 else 1 := rfl
      cases hH : hasF (sigF size (((i : Int) * size + rest) :: behindF gs place)) (sigF size (othF gs)) with
      | true =>
        rw [hH] at hlf
        k_sweep
        k_steps
        exact hret _ _ _ _ (by k_asm) (by k_asm) ⟨⟨_, by rw [hlf]; rfl⟩, rfl⟩
      | false =>
        rw [hH] at hlf
        k_sweep
        k_steps
        exact hret _ _ _ _ (by k_asm) (by k_asm) ⟨⟨_, by rw [hlf]; rfl⟩, rfl⟩
    · intro hlacks
      replace hlacks := hlacks hasked
      obtain ⟨mb1, mb2⟩ := most_bd (place := place) hs hg (gs.length - 1)
      have hrr : (((mostG gs place size (gs.length - 1)) + 1).toNat : Int) = mostG gs place size (gs.length - 1) + 1 := by omega
      k_dflt (refine' says_use (leftK_says w DP cP wsP (rangeKs 0 NN) 1 _ ((mostG gs place size (gs.length - 1)) + 1).toNat f2 _ _ _ _ (lackF gs place size rest) _ (.head _) (.tail _ (.head _)) hIP (by rw [rangeKs_length]; omega) (by rw [rangeKs_length]; omega) ?key ?hpp) ?B ?F ?X ?N ?T ?k ?d ?u ?_; walk_at "my use")
      case key =>
        intro i hi t
        rw [rangeKs_length] at hi
        rw [range_at NN i hi]
        exact hlacks i t hi
      case hpp =>
        intro i hi
        have h := found_iff (place := place) hs hs2 hg i
        rw [hre] at h
        unfold lackF
        by_cases hH : hasF (sigF size (((i : Int) * size + rest) :: behindF gs place)) (sigF size (othF gs)) = true
        · rw [if_pos hH]
          have := h.mp hH
          omega
        · rw [if_neg hH]
          have : ¬ (i : Int) ≤ mostG gs place size (gs.length - 1) := fun x => hH (h.mpr x)
          omega
      rintro v news' h' tk' F' N' ⟨⟨ti, rfl⟩, rfl⟩
      rw [hrr]
      k_sweep
      k_steps
      rw [Int.add_sub_cancel]
      rename News h₀ L _ _ => lN4
      refine hret _ _ _ _ (by k_asm) (keepH lN4) ⟨⟨_, rfl⟩, c1, oc1, vs1, t1', c2, oc2, vs2, t2', da1, da2, db1, db2, rfl⟩
end
end
section
set_option maxRecDepth 100000
section
theorem blank_mul : ∀ k : Nat, k < 20 → Txt.mul (Str.ofString " ") (k : Int) = TX (List.replicate k 32) := by decide +kernel
theorem tab_TX : Str.ofString "\t" = TX [9] := by decide +kernel
theorem xtab_TX : Str.ofString "x \t" = TX [120, 32, 9] := by decide +kernel
section
variable {prog : Program} {w : World} {A : Around} {E : Value → Shared → Prop} {s : Shared}
theorem mul_bl {n : Int} {t u : Tok} {Q : Value → Shared → Prop} (h0 : 0 ≤ n) (h1 : n < 20) (h : ∀ t' k, Q (.str (TX (List.replicate n.toNat 32)) t') { s with toks := k }) : wpAny (model prog w) A (binaryOp .Mult (.str (Str.ofString " ") t) (.int n u)) Q E s := by
  refine SB.mul (mulOk_of 16 1048576 (by decide +kernel) (by lia) (by lia) (by decide) (by decide)) fun t' k => ?_
  have e := blank_mul n.toNat (by lia)
  rw [Int.toNat_of_nonneg h0] at e
  rw [e]; exact h t' k
theorem add_tab {a : List Nat} {t u : Tok} {Q : Value → Shared → Prop} (hz : a.length ≤ 2 ^ 19) (h : ∀ t' tk, Q (.str (TX (a ++ [9])) t') { s with toks := tk }) : wpAny (model prog w) A (binaryOp .Add (.str (TX a) t) (.str (Str.ofString "\t") u)) Q E s := by
  rw [tab_TX]
  exact add_TX (by simp; lia) h
theorem add_xtab {a : List Nat} {t u : Tok} {Q : Value → Shared → Prop} (hz : a.length ≤ 2 ^ 19) (h : ∀ t' tk, Q (.str (TX (a ++ [120, 32, 9])) t') { s with toks := tk }) : wpAny (model prog w) A (binaryOp .Add (.str (TX a) t) (.str (Str.ofString "x \t") u)) Q E s := by
  rw [xtab_TX]
  exact add_TX (by simp; lia) h
end
/-- the lead of a gap -/
noncomputable def leadC (g : Int) : List Nat := List.replicate g.toNat 32 ++ [9]
noncomputable def leadF (gs : List Int) : List Nat := gs.flatMap leadC
theorem leadF_len : ∀ {gs : List Int}, (∀ g ∈ gs, 0 ≤ g ∧ g < 20) → (leadF gs).length ≤ 20 * gs.length := by
  intro gs
  induction gs with
  | nil => intro _; simp [leadF]
  | cons g r ih =>
    intro h
    have h1 := ih fun x hx => h x (.tail _ hx)
    have h2 := h g (.head _)
    simp only [leadF, List.flatMap_cons, List.length_append, leadC, List.length_replicate, List.length_cons, List.length_nil] at h1 ⊢
    lia
theorem leadF_mem {gs : List Int} : ∀ c ∈ leadF gs, c = 32 ∨ c = 9 := by
  intro c hc
  simp only [leadF, List.mem_flatMap, leadC] at hc
  obtain ⟨g, _, h⟩ := hc
  rcases List.mem_append.mp h with h | h
  · exact .inl (List.mem_replicate.mp h).2
  · exact .inr (List.mem_singleton.mp h)
end
end
section
section
/-! the tab counts of the lead -/
noncomputable def runF (s : WS) (l : List Nat) : WS := l.foldl stepW s
theorem run_blanks : ∀ (n : Nat) (s : WS), runF s (List.replicate n 32) = ⟨s.nt, s.b + n, s.cnt⟩
  | 0, s => rfl
  | n + 1, s => by
    have e : runF s (List.replicate (n + 1) 32) = runF (stepW s 32) (List.replicate n 32) := rfl
    rw [e, run_blanks n]
    have h : stepW s 32 = ⟨s.nt, s.b + 1, s.cnt⟩ := by unfold stepW; rw [if_pos rfl]
    rw [h]
    show WS.mk _ _ _ = _
    rw [show s.b + 1 + n = s.b + (n + 1) by lia]
theorem run_app (s : WS) (a b : List Nat) : runF s (a ++ b) = runF (runF s a) b := List.foldl_append ..
theorem run_gap (n : Nat) (cnt : List Int) (g : Int) : runF ⟨n, 0, cnt⟩ (leadC g) = ⟨n + 1, 0, bumpF cnt g.toNat⟩ := by
  unfold leadC
  rw [run_app, run_blanks]
  show stepW _ 9 = _
  unfold stepW
  rw [if_neg (by decide)]
  simp
noncomputable def cntF (c : List Int) (gs : List Int) : List Int := gs.foldl (fun c g => bumpF c g.toNat) c
theorem run_lead : ∀ (gs : List Int) (n : Nat) (c : List Int), runF ⟨n, 0, c⟩ (leadF gs) = ⟨n + gs.length, 0, cntF c gs⟩
  | [], n, c => rfl
  | g :: gs, n, c => by
    have e : leadF (g :: gs) = leadC g ++ leadF gs := rfl
    rw [e, run_app, run_gap, run_lead gs]
    simp only [List.length_cons, cntF, List.foldl_cons]
    rw [show n + 1 + gs.length = n + (gs.length + 1) by lia]
theorem lead_run (gs : List Int) : runW (leadF gs) = ⟨gs.length, 0, cntF [] gs⟩ := by
  have := run_lead gs 0 []
  rw [Nat.zero_add] at this
  exact this
theorem bump_getD (cnt : List Int) (b i : Nat) : (bumpF cnt b).getD i 0 = cnt.getD i 0 + if i = b then 1 else 0 := by
  unfold bumpF
  dsimp only
  have key : ∀ c : List Int, b < c.length → (c.set b (c.getD b 0 + 1)).getD i 0 = c.getD i 0 + if i = b then 1 else 0 := by
    intro c hb
    by_cases h : i = b
    · subst h
      rw [if_pos rfl]
      simp [List.getD_eq_getElem?_getD, hb]
    · rw [if_neg h, Int.add_zero]
      simp [List.getD_eq_getElem?_getD, List.getElem?_set, Ne.symm h]
  by_cases hb : cnt.length ≤ b
  · rw [if_pos hb, key _ (by simp; lia)]
    congr 1
    by_cases hi : i < cnt.length
    · simp [List.getD_eq_getElem?_getD, List.getElem?_append_left hi]
    · rw [List.getD_eq_getElem?_getD, List.getD_eq_getElem?_getD, List.getElem?_append_right (by lia), List.getElem?_eq_none (l := cnt) (by lia), List.getElem?_replicate]
      split <;> rfl
  · rw [if_neg hb, key _ (by lia)]
theorem ilF_over {ts : Nat} {cnt : List Int} : ∀ {n : Nat}, cnt.length - ts ≤ n → ilF ts cnt n = ilF ts cnt (cnt.length - ts)
  | 0, h => by rw [show cnt.length - ts = 0 by lia]
  | n + 1, h => by
    by_cases e : cnt.length - ts = n + 1
    · rw [e]
    · rw [← ilF_over (n := n) (by lia)]
      simp only [ilF]
      rw [List.getD_eq_getElem?_getD, List.getElem?_eq_none (by lia)]
      simp
theorem ilF_bump {ts : Nat} (cnt : List Int) (b : Nat) : ∀ n, ilF ts (bumpF cnt b) n = ilF ts cnt n + if ts ≤ b ∧ b < ts + n then Int.fdiv b ts else 0
  | 0 => by simp only [ilF]; rw [if_neg (by lia)]; rfl
  | n + 1 => by
    simp only [ilF]
    rw [ilF_bump cnt b n, bump_getD, Int.mul_add]
    by_cases h1 : ts ≤ b ∧ b < ts + n
    · rw [if_pos h1, if_neg (by lia), if_pos (by lia)]; lia
    · rw [if_neg h1]
      by_cases h2 : ts + n = b
      · rw [if_pos h2, if_pos (by lia), ← h2]
        simp
        lia
      · rw [if_neg h2, if_neg (by lia)]; lia
noncomputable def sumQ (ts : Int) (gs : List Int) : Int := (gs.map fun g => Int.fdiv g ts).sum
theorem ilF_cnt {ts : Nat} (h1 : 1 ≤ ts) : ∀ (gs : List Int) (c : List Int), (∀ g ∈ gs, 0 ≤ g) → ilF ts (cntF c gs) ((cntF c gs).length - ts) = ilF ts c (c.length - ts) + sumQ ts gs
  | [], c, _ => by simp [cntF, sumQ]
  | g :: gs, c, h => by
    have e : cntF c (g :: gs) = cntF (bumpF c g.toNat) gs := rfl
    have hg := h g (.head _)
    rw [e, ilF_cnt h1 gs _ fun x hx => h x (.tail _ hx), ilF_bump]
    have hl := bumpF_len c g.toNat
    rw [ilF_over (cnt := c) (by omega)]
    have e2 : sumQ ts (g :: gs) = Int.fdiv g ts + sumQ ts gs := by simp [sumQ]
    rw [e2]
    by_cases h2 : ts ≤ g.toNat ∧ g.toNat < ts + ((bumpF c g.toNat).length - ts)
    · rw [if_pos h2, Int.toNat_of_nonneg hg]; lia
    · rw [if_neg h2]
      have h3 : g < ts := by lia
      rw [Int.fdiv_eq_ediv_of_nonneg _ (by lia), Int.ediv_eq_zero_of_lt hg h3]; lia
theorem lead_ilF {ts : Nat} (h1 : 1 ≤ ts) (gs : List Int) (h : ∀ g ∈ gs, 0 ≤ g) : ilF ts (runW (leadF gs)).cnt ((runW (leadF gs)).cnt.length - ts) = sumQ ts gs := by
  rw [lead_run]
  show ilF ts (cntF [] gs) ((cntF [] gs).length - ts) = _
  rw [ilF_cnt h1 gs [] h]
  simp [ilF]
theorem sum_add_one : ∀ l : List Int, (l.map fun x => x + 1).sum = l.sum + l.length
  | [] => rfl
  | x :: l => by simp only [List.map_cons, List.sum_cons, List.length_cons, sum_add_one l]; lia
theorem octF_length {size : Int} : ∀ gs : List Int, (∀ g ∈ gs, 0 ≤ Int.fdiv g size) → ((octF size gs).length : Int) = sumQ size gs + gs.length
  | [], _ => rfl
  | g :: gs, h => by
    have e : octF size (g :: gs) = (List.replicate (Int.fdiv g size).toNat 65 ++ [Int.fmod g size]) ++ octF size gs := rfl
    have e2 : sumQ size (g :: gs) = Int.fdiv g size + sumQ size gs := by simp [sumQ]
    have ih := octF_length gs fun x hx => h x (.tail _ hx)
    have h0 := h g (.head _)
    rw [e, e2]
    simp only [List.length_append, List.length_replicate, List.length_cons, List.length_nil]
    omega
/-- the bits of a code by 2 ** k -/
noncomputable def bitsF (gs : List Int) (k : Nat) : Int := ((octF (2 ^ k : Nat) gs).length : Int) + k * gs.length
theorem cost_bits {gs : List Int} (h : ∀ g ∈ gs, 0 ≤ g) (k : Nat) : costF (runW (leadF gs)) k = bitsF gs k := by
  have hp : 1 ≤ 2 ^ k := Nat.one_le_two_pow
  unfold costF bitsF
  rw [lead_ilF hp gs h, octF_length gs fun g hg => by rw [Int.fdiv_eq_ediv_of_nonneg _ (by lia)]; exact Int.ediv_nonneg (h g hg) (by lia)]
  rw [lead_run]
  simp only [Int.natCast_zero, Int.zero_add]
  have hp2 : (1 : Int) ≤ (2 ^ k : Nat) := by exact_mod_cast hp
  generalize ((2 ^ k : Nat) : Int) = P at hp2 ⊢
  rw [Int.fdiv_eq_ediv_of_nonneg _ (by lia), Int.mul_ediv_cancel_left _ (by lia)]
/-- what the next power costs more -/
noncomputable def moreF (gs : List Int) (k : Nat) : Int := bitsF gs (k + 1) - bitsF gs k
theorem conv1 (g : Int) (h : 0 ≤ g) (P : Int) (hP : 1 ≤ P) : Int.fdiv g (P * 2) - Int.fdiv g P ≤ Int.fdiv g (P * 2 * 2) - Int.fdiv g (P * 2) := by
  rw [Int.fdiv_eq_ediv_of_nonneg _ (by lia), Int.fdiv_eq_ediv_of_nonneg _ (by lia), Int.fdiv_eq_ediv_of_nonneg _ (by lia)]
  rw [← Int.ediv_ediv_of_nonneg (show (0 : Int) ≤ P * 2 by lia), ← Int.ediv_ediv_of_nonneg (show (0 : Int) ≤ P by lia)]
  have := Int.ediv_nonneg h (show (0 : Int) ≤ P by lia)
  lia
theorem conv {gs : List Int} (P : Int) (hP : 1 ≤ P) (h : ∀ g ∈ gs, 0 ≤ g) : sumQ (P * 2) gs - sumQ P gs ≤ sumQ (P * 2 * 2) gs - sumQ (P * 2) gs := by
  induction gs with
  | nil => simp [sumQ]
  | cons g gs ih =>
    have := ih fun x hx => h x (.tail _ hx)
    have := conv1 g (h g (.head _)) P hP
    simp only [sumQ, List.map_cons, List.sum_cons] at *
    omega
theorem more_mono1 {gs : List Int} (h : ∀ g ∈ gs, 0 ≤ g) (k : Nat) : moreF gs k ≤ moreF gs (k + 1) := by
  have hp : (1 : Int) ≤ (2 ^ k : Nat) := by exact_mod_cast Nat.one_le_two_pow
  have ho : ∀ j, ((octF (2 ^ j : Nat) gs).length : Int) = sumQ (2 ^ j : Nat) gs + gs.length := fun j => octF_length gs fun g hg => by
    rw [Int.fdiv_eq_ediv_of_nonneg _ (Int.natCast_nonneg _)]; exact Int.ediv_nonneg (h g hg) (Int.natCast_nonneg _)
  have e1 : ((2 ^ (k + 1) : Nat) : Int) = (2 ^ k : Nat) * 2 := by rw [Nat.pow_succ]; simp
  have e2 : ((2 ^ (k + 1 + 1) : Nat) : Int) = (2 ^ k : Nat) * 2 * 2 := by rw [Nat.pow_succ, Nat.pow_succ]; simp
  have := conv _ hp h
  unfold moreF bitsF
  rw [ho, ho, ho, e1, e2]
  have q1 : ((k + 1 + 1 : Nat) : Int) * gs.length = k * gs.length + gs.length + gs.length := by push_cast; rw [Int.add_mul, Int.add_mul]; lia
  have q2 : ((k + 1 : Nat) : Int) * gs.length = k * gs.length + gs.length := by push_cast; rw [Int.add_mul]; lia
  rw [q1, q2]
  lia
theorem more_mono {gs : List Int} (h : ∀ g ∈ gs, 0 ≤ g) {i j : Nat} (hij : i ≤ j) : moreF gs i ≤ moreF gs j := by
  induction hij with
  | refl => exact Int.le_refl _
  | step _ ih => exact Int.le_trans ih (more_mono1 h _)
/-- the place where a rising row of answers turns -/
theorem turn_at (p : Nat → Prop) [DecidablePred p] (hp : ∀ i j, i ≤ j → p i → p j) : ∀ n : Nat, ∃ r, r ≤ n ∧ ∀ i, i < n → (p i ↔ r ≤ i)
  | 0 => ⟨0, by lia, fun i hi => by lia⟩
  | n + 1 => by
    obtain ⟨r, h1, h2⟩ := turn_at p hp n
    by_cases hr : r < n
    · refine ⟨r, by lia, fun i hi => ?_⟩
      by_cases e : i = n
      · subst e
        exact ⟨fun _ => by lia, fun _ => hp r i (by lia) ((h2 r hr).mpr (Nat.le_refl _))⟩
      · exact h2 i (by lia)
    · by_cases hn : p n
      · refine ⟨n, by lia, fun i hi => ?_⟩
        by_cases e : i = n
        · subst e; exact ⟨fun _ => Nat.le_refl _, fun _ => hn⟩
        · rw [h2 i (by lia)]; lia
      · refine ⟨n + 1, by lia, fun i hi => ?_⟩
        by_cases e : i = n
        · subst e; exact ⟨fun h => absurd h hn, fun h => by lia⟩
        · rw [h2 i (by lia)]; lia
/-- from low to high the bits are fewest -/
structure Best (gs : List Int) (low high : Nat) : Prop where
  l5 : low ≤ 5
  h5 : high ≤ 5
  le : low ≤ high
  lo : ∀ i, i < 5 → (moreF gs i < 0 ↔ i < low)
  hi : ∀ i, i < 5 → (0 < moreF gs i ↔ high ≤ i)
theorem best_is {gs : List Int} (h : ∀ g ∈ gs, 0 ≤ g) : ∃ low high, Best gs low high := by
  obtain ⟨low, a1, a2⟩ := turn_at (fun i => ¬ moreF gs i < 0) (fun i j hij hi => by have := more_mono h hij; lia) 5
  obtain ⟨high, b1, b2⟩ := turn_at (fun i => 0 < moreF gs i) (fun i j hij hi => by have := more_mono h hij; lia) 5
  refine ⟨low, high, a1, b1, ?_, ?_, b2⟩
  · by_cases hc : low ≤ high
    · exact hc
    · have q1 := a2 high (by lia)
      have q2 := b2 high (by lia)
      lia
  · intro i hi
    have := a2 i hi
    lia
theorem best_min {gs : List Int} {low high : Nat} (B : Best gs low high) {k : Nat} (hk : k < 6) : (∀ j, j < 6 → bitsF gs k ≤ bitsF gs j) ↔ low ≤ k ∧ k ≤ high := by
  have m : ∀ i, bitsF gs (i + 1) = bitsF gs i + moreF gs i := fun i => by unfold moreF; lia
  have q1 := B.l5; have q2 := B.h5; have q3 := B.le
  have flat : ∀ n, low + n ≤ high → bitsF gs (low + n) = bitsF gs low := by
    intro n
    induction n with
    | zero => intro _; rfl
    | succ n ih =>
      intro hn
      have a := ih (by lia); have b := m (low + n); have c := B.lo (low + n) (by lia); have d := B.hi (low + n) (by lia)
      rw [← Nat.add_assoc]; lia
  have down : ∀ n j, j + n = low → bitsF gs low + n ≤ bitsF gs j := by
    intro n
    induction n with
    | zero => intro j hj; rw [← hj]; simp
    | succ n ih =>
      intro j hj
      have a := ih (j + 1) (by lia); have b := m j; have c := B.lo j (by lia)
      lia
  have up : ∀ n, high + n ≤ 5 → bitsF gs high + n ≤ bitsF gs (high + n) := by
    intro n
    induction n with
    | zero => intro _; simp
    | succ n ih =>
      intro hn
      have a := ih (by lia); have b := m (high + n); have c := B.hi (high + n) (by lia)
      rw [← Nat.add_assoc]; lia
  have top : bitsF gs high = bitsF gs low := by
    have := flat (high - low) (by lia)
    rwa [Nat.add_sub_cancel' q3] at this
  clear m
  constructor
  · intro h
    have g := h low (by lia)
    constructor
    · by_cases hc : low ≤ k
      · exact hc
      · have := down (low - k) k (by lia); lia
    · by_cases hc : k ≤ high
      · exact hc
      · have := up (k - high) (by lia)
        rw [show high + (k - high) = k by lia] at this; lia
  · rintro ⟨hl, hh⟩ j hj
    have g := flat (k - low) (by lia)
    rw [Nat.add_sub_cancel' hl] at g
    rw [g]
    by_cases h1 : j < low
    · have := down (low - j) j (by lia); lia
    · by_cases h2 : j ≤ high
      · have := flat (j - low) (by lia)
        rw [Nat.add_sub_cancel' (by lia)] at this; lia
      · have := up (j - high) (by lia)
        rw [show high + (j - high) = j by lia] at this; lia
theorem best_low {gs : List Int} {low high : Nat} (B : Best gs low high) (h : moreF gs 0 < 0) : 1 ≤ low := by
  have := B.lo 0 (by decide); lia
theorem more_zero {dr : List Int} (hd : dr.length ≤ 3) (hb : ∀ g ∈ dr, 0 ≤ g) : moreF (dr ++ [9, 2, 5, 2]) 0 < 0 := by
  have ho : ∀ j, ((octF (2 ^ j : Nat) (dr ++ [9, 2, 5, 2])).length : Int) = sumQ (2 ^ j : Nat) (dr ++ [9, 2, 5, 2]) + (dr ++ [9, 2, 5, 2]).length := fun j => octF_length _ fun g hg => by
    rw [Int.fdiv_eq_ediv_of_nonneg _ (Int.natCast_nonneg _)]
    refine Int.ediv_nonneg ?_ (Int.natCast_nonneg _)
    rcases List.mem_append.mp hg with hg | hg
    · exact hb g hg
    · simp only [List.mem_cons, List.not_mem_nil, or_false] at hg; lia
  have hs : ∀ (ts : Int) (l : List Int), sumQ ts (l ++ [9, 2, 5, 2]) = sumQ ts l + sumQ ts [9, 2, 5, 2] := by intro ts l; simp [sumQ]
  have hq : ∀ l : List Int, (∀ g ∈ l, 0 ≤ g) → sumQ 2 l ≤ sumQ 1 l := by
    intro l
    induction l with
    | nil => intro _; simp [sumQ]
    | cons g l ih =>
      intro hl
      have h1 := ih fun x hx => hl x (.tail _ hx)
      have h2 := hl g (.head _)
      simp only [sumQ, List.map_cons, List.sum_cons] at h1 ⊢
      rw [Int.fdiv_eq_ediv_of_nonneg g (by decide), Int.fdiv_eq_ediv_of_nonneg g (by decide)]
      lia
  have h1 := hq dr hb
  unfold moreF bitsF
  rw [ho, ho, hs, hs]
  have e1 : ((2 ^ (0 + 1) : Nat) : Int) = 2 := rfl
  have e0 : ((2 ^ 0 : Nat) : Int) = 1 := rfl
  rw [e1, e0]
  have q2 : sumQ 2 [9, 2, 5, 2] = 8 := by decide
  have q1 : sumQ 1 [9, 2, 5, 2] = 18 := by decide
  rw [q1, q2]
  simp only [List.length_append, List.length_cons, List.length_nil]
  lia
/-! the numbers read -/
/-- 64 + 64 ** 2 + .. + 64 ** q -/
noncomputable def powS : Nat → Int
  | 0 => 0
  | q + 1 => powS q + 64 ^ (q + 1)
theorem powS_shift : ∀ q, powS (q + 1) = powS q * 64 + 64
  | 0 => by decide
  | q + 1 => by
    have h := powS_shift q
    have e : powS (q + 1 + 1) = powS (q + 1) + 64 ^ (q + 1 + 1) := rfl
    have e2 : powS (q + 1) = powS q + 64 ^ (q + 1) := rfl
    have e3 : (64 : Int) ^ (q + 1 + 1) = 64 ^ (q + 1) * 64 := Int.pow_succ ..
    rw [e, h, e3]
    rw [h] at e2
    lia
theorem powS_v : ∀ q, powS q = vW q * 64
  | 0 => by decide
  | q + 1 => by
    rw [powS_shift, powS_v q]
    simp only [vW]
    lia
theorem powS_lt : ∀ q, powS q + 64 ≤ 64 ^ (q + 1)
  | 0 => by decide
  | q + 1 => by
    have h := powS_lt q
    rw [powS_shift, Int.pow_succ]
    lia
theorem powS_nn : ∀ q, 0 ≤ powS q
  | 0 => by decide
  | q + 1 => by
    have h := powS_nn q
    rw [powS_shift]; lia
theorem powS_le : ∀ q, 1 ≤ q → 64 ^ q ≤ powS q
  | q + 1, _ => by
    have h := powS_nn q
    have e : powS (q + 1) = powS q + 64 ^ (q + 1) := rfl
    lia
theorem pow_mono : ∀ {a b : Nat}, a ≤ b → (64 : Int) ^ a ≤ 64 ^ b := fun {a b} h => by
  have := Nat.pow_le_pow_right (by decide : 0 < 64) h
  exact_mod_cast this
theorem pow_pos64 (a : Nat) : (0 : Int) < 64 ^ a := Int.pow_pos (by decide)
theorem numF_pow (size g : Int) : numF size g = powS (Int.fdiv g size).toNat + Int.fmod g size := by unfold numF; rw [powS_v]
noncomputable def powL : List Int := (List.range 11).map fun i => (64 : Int) ^ (i + 1)
theorem powL_at {i : Nat} {z : Int} (h : powL[i]? = some z) : i < 11 ∧ z = 64 ^ (i + 1) := by
  unfold powL at h
  rw [List.getElem?_map] at h
  obtain ⟨j, hj, rfl⟩ := Option.map_eq_some_iff.mp h
  have hi : i < 11 := by
    by_cases hi : i < 11
    · exact hi
    · rw [List.getElem?_eq_none (by simp; lia)] at hj; cases hj
  rw [List.getElem?_range hi] at hj
  cases hj
  exact ⟨hi, rfl⟩
theorem num_place {size g : Int} (hs : 1 ≤ size) (hs2 : size ≤ 32) (i : Nat) (z : Int) (h : powL[i]? = some z) : numF size g < z ↔ (Int.fdiv g size).toNat ≤ i := by
  obtain ⟨hi, rfl⟩ := powL_at h
  obtain ⟨c1, c2⟩ := fmod_bd (g := g) hs
  rw [numF_pow]
  generalize (Int.fdiv g size).toNat = q
  have h1 := powS_lt q
  constructor
  · intro hl
    by_cases hq : q ≤ i
    · exact hq
    · have h2 := powS_le q (by lia)
      have h3 := pow_mono (show i + 1 ≤ q by lia)
      lia
  · intro hq
    have h3 := pow_mono (show q + 1 ≤ i + 1 by lia)
    lia
theorem num_rest {size g : Int} (hs : 1 ≤ size) (hs2 : size ≤ 32) : Int.fmod (numF size g) 64 = Int.fmod g size := by
  obtain ⟨c1, c2⟩ := fmod_bd (g := g) hs
  unfold numF
  rw [Int.fmod_eq_emod_of_nonneg _ (by decide)]
  lia
theorem num_back {size g : Int} (hs : 1 ≤ size) (hs2 : size ≤ 32) (hg : 0 ≤ g) : ((Int.fdiv g size).toNat : Int) * size + Int.fmod (numF size g) 64 = g := by
  rw [num_rest hs hs2]
  obtain ⟨a1, a2⟩ := fdiv_bd hg (Int.lt_succ g) hs
  rw [Int.toNat_of_nonneg a1, Int.mul_comm]
  exact Int.mul_fdiv_add_fmod g size
end
end
section
set_option maxRecDepth 100000
section
section
variable {prog : Program} {w : World} {A : Around} {E : Value → Shared → Prop} {s : Shared} {env : Env} {h₀ : Heap} {x : Str} {px : Pos} {body : List Stmt} {Q : Flow → Shared → Prop}
theorem letGo_name {I : Value} {v : Value} {Q' : Unit → Shared → Prop} {s' : Shared} {E : Value → Shared → Prop} (h : Q' () s') : wpAny (model prog w) A (letOwnedTupleGo (.Name x px) I v) Q' E s' := by
  unfold letOwnedTupleGo
  exact wpAny_pure h
/-- what an iterator holds that is no code object: no text in its second place -/
noncomputable def NoText (o : Obj) : Prop := ∀ vs, o.data = .fields vs → ∀ x t, vs[1]? ≠ some (.str x t)
/-- as loop_walks, with a name (of a cell, too) that is stored by the walk itself -/
theorem loopC_walks {n : Nat} {P : Nat → Value → Prop} {St : Nat → Heap → Prop} {m₀ : Str → Option Value} {news : Led} (src : Led) (o₀ : Obj) (J : Nat → (Str → Option Value) → Led → Prop)
    (W : Walks prog w A s.heap.objs.size (s.heap.objs.size :: src.map (·.1)) [s.heap.objs.size] n P St)
    (hsrc : ∀ i m nx, J i m nx → ∀ q ∈ src, q ∈ nx)
    (hob : ∀ i h, St i h → ∃ o, h.get? s.heap.objs.size = some o ∧ NoText o)
    (hst : St 0 (s.heap.push o₀)) (F : Fr h₀ env.locals s.heap m₀) (N : News h₀ env.locals s.heap news) (hj : J 0 m₀ news)
    (turn : ∀ i v m₁ news₁ h tk oI, NoText oI → i < n → P i v → (∀ p ∈ news, p.1 < s.heap.objs.size) → (∀ p ∈ news₁, p.1 ≠ s.heap.objs.size) → J i m₁ news₁ → Fr h₀ env.locals h m₁ → News h₀ env.locals h ((s.heap.objs.size, oI) :: news₁) →
      wpAny (model prog w) A (assign (.Name x px) env v) (fun _ s₃ => wpAny (model prog w) A (execs body env) (TurnP h₀ env.locals s.heap.objs.size oI (J (i + 1)) { s with heap := h, toks := tk } Q) E s₃) E { s with heap := h, toks := tk })
    (done : ∀ m₁ news₁ h tk, J n m₁ news₁ → Fr h₀ env.locals h m₁ → News h₀ env.locals h news₁ → Q .next { s with heap := h, toks := tk }) :
    TurnsAt prog w A h₀ env (.Name x px) body Q E (.ref s.heap.objs.size) { s with heap := s.heap.push o₀ } := by
  have hI0 : h₀.get? s.heap.objs.size = none := next_is_new F
  refine ⟨s.heap.objs.size, s.heap.objs.size :: src.map (·.1), [s.heap.objs.size], n, _, _, St, m₀, news, J, rfl, KTurns.ofWalks W fun i v s Q E _ q => letGo_name q, ?_, ?_, ?_, hst, F.push _, (fun p hp => ⟨Heap.get?_push_of_some _ (N p hp).1, (N p hp).2⟩), hj, ?_, ?_⟩
  · intro hm
    rcases List.mem_cons.mp hm with e | hm
    · exact absurd F.ns.lt (e ▸ Nat.lt_irrefl _)
    · obtain ⟨q, hq, e⟩ := List.mem_map.mp hm
      exact (N q (hsrc _ _ _ hj q hq)).2.1 e
  · intro b hb
    rw [List.mem_singleton.mp hb]; exact hI0
  · intro p hp hI
    exact absurd (Heap.lt_size (N p hp).1) ((List.mem_singleton.mp hI) ▸ Nat.lt_irrefl _)
  · rintro i v m₁ news₁ hh' tk' own hin hP hJ hoff hown hget hall hst' F₁ N₁
    obtain ⟨oI, hoI, hno⟩ := hob _ _ hst'
    have hIown : (s.heap.objs.size, oI) ∈ own := hall _ (.head _) hI0 _ hoI
    have hoff' : ∀ p ∈ news₁, p.1 ≠ s.heap.objs.size := fun p hp e => hoff p hp (List.mem_singleton.mpr e)
    have N₂ : News h₀ env.locals hh' ((s.heap.objs.size, oI) :: news₁) := fun p hp => by
      rcases List.mem_cons.mp hp with rfl | hp
      · exact N₁ _ (List.mem_append_left _ hIown)
      · exact N₁ _ (List.mem_append_right _ hp)
    refine wpAny_mono (turn i v m₁ news₁ hh' tk' oI hno hin hP (fun p hp => Heap.lt_size (N p hp).1) hoff' hJ F₁ N₂) (fun _ s₃ h₃ => wpAny_mono h₃ (fun f s₂ p => ?_) fun _ _ e => e) fun _ _ e => e
    have fin : (∃ h' tk m' nx, s₂ = { s with heap := h', toks := tk } ∧ Fr h₀ env.locals h' m' ∧ News h₀ env.locals h' ((s.heap.objs.size, oI) :: nx) ∧ (∀ p ∈ nx, p.1 ≠ s.heap.objs.size) ∧ J (i + 1) m' nx) → LoopStepU h₀ env.locals [s.heap.objs.size] own (J (i + 1)) { s with heap := hh', toks := tk' } .next s₂ := by
      rintro ⟨h', tk, m', nx, e, F', N', ha, hm⟩
      refine ⟨rfl, h', tk, m', nx, e, F', fun p hp => ?_, fun p hp hq => ha p hp (List.mem_singleton.mp hq), hm⟩
      rcases List.mem_append.mp hp with hp | hp
      · rcases List.mem_cons.mp (hown p hp) with e1 | e1
        · have e2 : p = (s.heap.objs.size, oI) := by
            have h4 := hget p hp
            rw [e1] at h4
            exact Prod.ext e1 (Option.some.inj (h4.symm.trans hoI))
          rw [e2]; exact N' _ (.head _)
        · obtain ⟨q, hq, e2⟩ := List.mem_map.mp e1
          have h4 := (N₂ q (.tail _ (hsrc _ _ _ hJ q hq))).1
          rw [e2] at h4
          have e3 : p = q := Prod.ext e2.symm (Option.some.inj ((hget p hp).symm.trans h4))
          rw [e3]; exact N' _ (.tail _ (hsrc _ _ _ hm q hq))
      · exact N' _ (.tail _ hp)
    cases f with
    | ret v => exact p
    | brk => exact p
    | next => exact fin p
    | cont => exact fin p
  · rintro h' tk m' news' F' N' _ hJ
    exact done m' news' h' tk hJ F' N'
theorem loopC_range {r : Addr} {a₀ b₀ : Int} {t₀ u₀ v₀ : Tok} {n : Nat} {m₀ : Str → Option Value} {news : Led} (J : Nat → (Str → Option Value) → Led → Prop)
    (hh : A.handled = none) (hr : IsRange s.heap r a₀ b₀ 1 t₀ u₀ v₀) (hsmall : Builtin.Range.small a₀ b₀ 1 = true) (hn : Builtin.Range.rangeSize a₀ b₀ 1 = (n : Int)) (F : Fr h₀ env.locals s.heap m₀) (N : News h₀ env.locals s.heap news) (hj : J 0 m₀ news)
    (turn : ∀ (i : Nat) (t : Tok) m₁ news₁ h tk oI, NoText oI → i < n → (∀ p ∈ news, p.1 < s.heap.objs.size) → (∀ p ∈ news₁, p.1 ≠ s.heap.objs.size) → J i m₁ news₁ → Fr h₀ env.locals h m₁ → News h₀ env.locals h ((s.heap.objs.size, oI) :: news₁) →
      wpAny (model prog w) A (assign (.Name x px) env (.int (a₀ + i) t)) (fun _ s₃ => wpAny (model prog w) A (execs body env) (TurnP h₀ env.locals s.heap.objs.size oI (J (i + 1)) { s with heap := h, toks := tk } Q) E s₃) E { s with heap := h, toks := tk })
    (done : ∀ m₁ news₁ h tk, J n m₁ news₁ → Fr h₀ env.locals h m₁ → News h₀ env.locals h news₁ → Q .next { s with heap := h, toks := tk }) :
    wpAny (model prog w) A (pyIter (.ref r)) (fun it s₂ => TurnsAt prog w A h₀ env (.Name x px) body Q E it s₂) E s := by
  refine wpAny_pyIter_range hr hsmall ?_
  have W : Walks prog w A s.heap.objs.size [s.heap.objs.size] [s.heap.objs.size] n (fun i v => i < n ∧ ∃ t, v = .int (a₀ + i * 1) t)
      (fun i h => IsRangeIter h s.heap.objs.size (a₀ + (i : Nat) * 1) ((n : Int) - (i : Nat)) 1) := (Walks.range hh _ a₀ 1 n).bound
  refine loopC_walks [] _ J W (fun _ _ _ _ q hq => nomatch hq) (fun i h hs => ⟨_, hs, fun vs e x t => by cases e; simp [rawInt]⟩) (by show IsRangeIter _ _ _ _ _; rw [hn]; simpa using Heap.get?_push_size _ rfl) F N hj ?_ done
  rintro i v m₁ news₁ h tk oI hno hi ⟨_, t, rfl⟩ hlt hoff hJ F₁ N₁
  rw [Int.mul_one]
  exact turn i t m₁ news₁ h tk oI hno hi hlt hoff hJ F₁ N₁
theorem loopC_tuple {l : Addr} {vs : List Value} {m₀ : Str → Option Value} {news : Led} (J : Nat → (Str → Option Value) → Led → Prop)
    (hh : A.handled = none) (hl : (l, tupO vs) ∈ news) (F : Fr h₀ env.locals s.heap m₀) (N : News h₀ env.locals s.heap news) (hj : J 0 m₀ news)
    (hsrc : ∀ i m nx, J i m nx → (l, tupO vs) ∈ nx)
    (turn : ∀ i v m₁ news₁ h tk oI, NoText oI → vs[i]? = some v → (∀ p ∈ news, p.1 < s.heap.objs.size) → (∀ p ∈ news₁, p.1 ≠ s.heap.objs.size) → J i m₁ news₁ → Fr h₀ env.locals h m₁ → News h₀ env.locals h ((s.heap.objs.size, oI) :: news₁) →
      wpAny (model prog w) A (assign (.Name x px) env v) (fun _ s₃ => wpAny (model prog w) A (execs body env) (TurnP h₀ env.locals s.heap.objs.size oI (J (i + 1)) { s with heap := h, toks := tk } Q) E s₃) E { s with heap := h, toks := tk })
    (done : ∀ m₁ news₁ h tk, J vs.length m₁ news₁ → Fr h₀ env.locals h m₁ → News h₀ env.locals h news₁ → Q .next { s with heap := h, toks := tk }) :
    wpAny (model prog w) A (pyIter (.ref l)) (fun it s₂ => TurnsAt prog w A h₀ env (.Name x px) body Q E it s₂) E s := by
  have hol : s.heap.get? l = some (tupO vs) := (N _ hl).1
  have hls : s.heap.IsTuple l vs.toArray := ⟨_, hol, rfl, 0, rfl⟩
  have hne : l ≠ s.heap.objs.size := Nat.ne_of_lt (Heap.lt_size hol)
  refine wpAny_pyIter_tuple hls ?_
  have W := Walks.tuple (prog := prog) (w := w) hh s.heap.objs.size l hne vs.toArray
  refine loopC_walks [(l, tupO vs)] _ J W (fun i m nx h q hq => by rw [List.mem_singleton.mp hq]; exact hsrc i m nx h) ?_ ⟨⟨_, Heap.get?_push_size _ rfl, rfl, rfl⟩, hls.at fun o e => Heap.get?_push_of_some _ e⟩ F N hj ?_ ?_
  · rintro i h ⟨⟨o, ho, _, hd⟩, _⟩
    refine ⟨o, ho, fun vs e x t => ?_⟩
    rw [hd] at e
    cases e
    simp [rawInt]
  · intro i v m₁ news₁ h tk oI hno hi hv hlt hoff hJ F₁ N₁
    exact turn i v m₁ news₁ h tk oI hno (by simpa using hv) hlt hoff hJ F₁ N₁
  · intro m₁ news₁ h tk hJ F₁ N₁
    exact done m₁ news₁ h tk (by simpa using hJ) F₁ N₁
end
end
section
noncomputable def CellO (o : Obj) : Prop := ∃ z, o.data = Data.cell z
theorem law_trim {h₀ h : Heap} {L : Addr} {a1 a2 a3 a4 b5 a6 b7 a8 b9 cU cP cB cS cG t1 t2 : Addr × Obj} (N : News h₀ L h [a1, a2, a3, a4, b5, a6, b7, a8, b9, cU, cP, cB, cS, cG, t2, t1]) : News h₀ L h [cS, a1, a2, a3, a4, a6, a8, cU, cP, cB, cG, t1, t2] := (nc N m12 (nc N m0 (nc N m1 (nc N m2 (nc N m3 (nc N m5 (nc N m7 (nc N m9 (nc N m10 (nc N m11 (nc N m13 (nc N m15 (nc N m14 nn)))))))))))))
end
section
theorem indent_law {ts : Nat} (h1 : 1 ≤ ts) {gs : List Int} (h : ∀ g ∈ gs, 0 ≤ g ∧ g < 20) : ((runW (leadF gs)).b : Int) + ts * (ilF ts (runW (leadF gs)).cnt ((runW (leadF gs)).cnt.length - ts) + (runW (leadF gs)).nt) = ts * (gs.map fun g => Int.fdiv g ts + 1).sum := by
  rw [lead_ilF h1 gs fun g hg => (h g hg).1, lead_run]
  have e : (gs.map fun g => Int.fdiv g ts + 1).sum = sumQ ts gs + gs.length := by
    have := sum_add_one (gs.map fun g => Int.fdiv g ts)
    rw [List.map_map, List.length_map] at this
    exact this
  rw [e]
  simp
theorem wholes_bd {ts : Int} (h1 : 1 ≤ ts) : ∀ {gs : List Int}, (∀ g ∈ gs, 0 ≤ g ∧ g < 20) → 0 ≤ (gs.map fun g => Int.fdiv g ts + 1).sum ∧ (gs.map fun g => Int.fdiv g ts + 1).sum ≤ 20 * gs.length := by
  intro gs
  induction gs with
  | nil => intro _; simp
  | cons g gs ih =>
    intro h
    have h2 := ih fun x hx => h x (.tail _ hx)
    have h3 := h g (.head _)
    have h4 := fdiv_bd h3.1 h3.2 h1
    simp only [List.map_cons, List.sum_cons, List.length_cons] at h2 ⊢
    omega
end
section
open PySem PySem.W PyProof.Rows LCg
section
variable {prog : Program} {w : World} {A : Around} {E : Value → Shared → Prop} {s : Shared} {env : Env} {h₀ : Heap} {x : Str}
/-- a comprehension with a test over ints; the ledger comes back as it was -/
theorem comp_test {L : Addr} {m : Str → Option Value} {ct elt : Expr} {scope : Scope} {cl : List (Str × Addr)} {S : Led → Prop} {P : Nat → Value → Prop} {Fin : List Value → Led → Prop} {n : Nat} {news : Led} (p : Nat → Bool) (z : Nat → Int)
    (turn : ∀ i v I oI C oC D m₂ ys h tk (E' : Value → Shared → Prop), i < n → P i v → NsObj oC m₂ → m₂ x = some v → Fr h₀ L h m → News h₀ L h ((I, oI) :: (C, oC) :: (D, lst ys) :: news) → Off3 I C D news → ((@Ne Nat I C) ∧ (@Ne Nat I D) ∧ (@Ne Nat C D)) →
      wpAny (model prog w) A (isTrue ct (compEnvC scope cl C env) (eval ct (compEnvC scope cl C env))) (fun ok s' => if ok = true then
        wpAny (model prog w) A (eval elt (compEnvC scope cl C env)) (CompEnd h₀ L m { s with heap := h, toks := tk } I oI C oC D (lst ys) S (fun y news' => p i = true ∧ (∃ t, y = .int (z i) t) ∧ news' = news)) E' s'
        else CompEnd h₀ L m { s with heap := h, toks := tk } I oI C oC D (lst ys) S (fun _ news' => p i = false ∧ news' = news) Value.none s') E' { s with heap := h, toks := tk })
    (fin : ∀ ys : List Value, IntsAre ys (((List.range n).filter p).map z) → Fin ys news) : LCt.CompRestT prog w A h₀ L m env ct elt x scope cl s S P Fin n 0 [] news := by
  have key : ∀ (j i : Nat) (ys : List Value), i + j = n → IntsAre ys (((List.range i).filter p).map z) → LCt.CompRestT prog w A h₀ L m env ct elt x scope cl s S P Fin j i ys news := by
    intro j
    induction j with
    | zero =>
      intro i ys hi hy
      have e : i = n := by omega
      exact LCt.CompRestT.zero (fin ys (e ▸ hy))
    | succ j ih =>
      intro i ys hi hy
      refine LCt.CompRestT.succ ?_
      intro v I oI C oC D m₂ h tk E' hv hC hx F N off ne
      have er : (List.range (i + 1)).filter p = (List.range i).filter p ++ [i].filter p := by rw [List.range_succ, List.filter_append]
      refine wpAny_mono (turn i v I oI C oC D m₂ ys h tk E' (by lia) hv hC hx F N off ne) (fun ok s₂ hq => ?_) fun _ _ e => e
      by_cases hok : ok = true
      · rw [if_pos hok] at hq ⊢
        refine wpAny_mono hq (fun y s₃ hr => ?_) fun _ _ e => e
        obtain ⟨h', tk', nw, e, F', N', off', hS, ⟨hp, ⟨t, rfl⟩, hn⟩⟩ := hr
        rw [hn] at N' off' hS
        refine ⟨h', tk', news, e, F', N', off', hS, ?_⟩
        refine ih (i + 1) _ (by lia) ?_
        rw [er, List.map_append]
        have e1 : [i].filter p = [i] := by simp [hp]
        rw [e1]
        exact hy.append (.cons _ _ .nil)
      · rw [if_neg hok] at hq ⊢
        obtain ⟨h', tk', nw, e, F', N', off', hS, ⟨hp, hn⟩⟩ := hq
        rw [hn] at N' off' hS
        refine ⟨h', tk', news, e, F', N', off', hS, ?_⟩
        refine ih (i + 1) _ (by lia) ?_
        rw [er, List.map_append]
        have e1 : [i].filter p = [] := by simp [hp]
        rw [e1, List.map_nil, List.append_nil]
        exact hy
  exact key n 0 [] (by lia) .nil
end
theorem pick_range : ∀ low, low < 6 → ∀ high, high < 6 → low ≤ high → ((List.range 6).filter fun k => decide (low ≤ k ∧ k ≤ high)).map (fun k : Nat => (k : Int)) = (List.range (high + 1 - low)).map fun i => ((low + i : Nat) : Int) := by decide
end
section
theorem law_turn {h₀ h : Heap} {L : Addr} {a1 a2 a3 a4 a5 a6 a7 a8 a9 a10 a11 a12 a13 t : Addr × Obj} (N : News h₀ L h [a1, a2, a3, a4, a5, a6, a7, a8, a9, a10, a11, a12, a13, t]) : News h₀ L h [t, a1, a2, a3, a4, a5, a6, a7, a8, a9, a10, a11, a12, a13] := (nc N m13 (nc N m0 (nc N m1 (nc N m2 (nc N m3 (nc N m4 (nc N m5 (nc N m6 (nc N m7 (nc N m8 (nc N m9 (nc N m10 (nc N m11 (nc N m12 nn))))))))))))))
end
end
section
set_option maxRecDepth 100000
section
theorem says_sub {w : World} {f : Value} {vs : List Value} {kw : List (Str × Value)} {D U : Nat} {news news0 : Led} {R : Value → Led → Prop} (C : Says w f vs kw D U news R) (hs : ∀ p ∈ news, p ∈ news0) : Says w f vs kw D U news0 R := by
  intro dp un gd cn cs a ccd cl outer A₀ base h₀ L m s p loose mean mg mb Q E B F X N T hk hd hu hret
  exact C dp un gd cn cs a ccd cl outer A₀ base h₀ L m s p loose mean mg mb Q E B F X (news_sub N hs) T hk hd hu hret
/-- the table of _law_found's codes, empty or filled -/
noncomputable def TabOk (oT : Obj) (c1 : Addr) (o1 : Obj) (c2 : Addr) (o2 : Obj) : Prop :=
  (oT = tabObj #[] ∧ c1 = 147 ∧ o1 = oT ∧ c2 = 147 ∧ o2 = oT) ∨
  ∃ (vs1 : Array Value) (t1 : Tok) (vs2 : Array Value) (t2 : Tok), o1.data = .fields vs1 ∧ vs1[1]? = some (.str qF t1) ∧ o2.data = .fields vs2 ∧ vs2[1]? = some (.str qF t2) ∧ oT = tabObj (#[] ++ #[rawInt 159, rawInt 12, .ref c1] ++ #[rawInt 160, rawInt 12, .ref c2])
theorem found_says (w : World) (oT : Obj) (c1 : Addr) (o1 : Obj) (c2 : Addr) (o2 : Obj) (hT : TabOk oT c1 o1 c2 o2) (l : Addr) (nn : Nat) (vs : List Value) (gs : List Int) (place : Nat) (size : Int) (tS tp : Tok) (news : Led) (hn : ∀ p ∈ news, p.1 ≠ 147) (hm : (l, listOf vs.toArray nn) ∈ news) (hi : IntsAre vs gs) (hg : ∀ g ∈ gs, 0 ≤ g ∧ g < 20) (hs : 1 ≤ size) (hs2 : size ≤ 32) (hlen : gs.length ≤ 7) (hp : place < gs.length) :
    Says w (.ref 152) [.ref l, .int (place : Nat) tp, .int size tS] [] 20 140 ((147, oT) :: (c1, o1) :: (c2, o2) :: news) (fun v news' => (∃ t, v = .int (mostG gs place size (gs.length - 1)) t) ∧ ∃ oT' c1' o1' c2' o2', TabOk oT' c1' o1' c2' o2' ∧ news' = (147, oT') :: (c1', o1') :: (c2', o2') :: news) := by
  have fin : ∀ (v : Value) (news' : Led), ((∃ t, v = .int (mostG gs place size (gs.length - 1)) t) ∧ FTab news news') → ((∃ t, v = .int (mostG gs place size (gs.length - 1)) t) ∧ ∃ oT' c1' o1' c2' o2', TabOk oT' c1' o1' c2' o2' ∧ news' = (147, oT') :: (c1', o1') :: (c2', o2') :: news) := by
    rintro v news' ⟨hv, c1, oc1, vs1, t1, c2, oc2, vs2, t2, a, b, c, d, rfl⟩
    exact ⟨hv, _, c1, oc1, c2, oc2, .inr ⟨vs1, t1, vs2, t2, a, b, c, d, rfl⟩, rfl⟩
  have wk : ∀ {n0 : Led}, Says w (.ref 152) [.ref l, .int (place : Nat) tp, .int size tS] [] 20 140 n0 (fun v news' => (∃ t, v = .int (mostG gs place size (gs.length - 1)) t) ∧ FTab news news') → Says w (.ref 152) [.ref l, .int (place : Nat) tp, .int size tS] [] 20 140 n0 (fun v news' => (∃ t, v = .int (mostG gs place size (gs.length - 1)) t) ∧ ∃ oT' c1' o1' c2' o2', TabOk oT' c1' o1' c2' o2' ∧ news' = (147, oT') :: (c1', o1') :: (c2', o2') :: news) := by
    intro n0 C dp un gd cn cs a ccd cl outer A₀ base h₀ L m s p loose mean mg mb Q E B F X N T hk hd hu hret
    exact C dp un gd cn cs a ccd cl outer A₀ base h₀ L m s p loose mean mg mb Q E B F X N T hk hd hu fun v news' h' tk' F' N' r => hret v news' h' tk' F' N' (fin v news' r)
  rcases hT with ⟨rfl, rfl, rfl, rfl, rfl⟩ | ⟨vs1, t1, vs2, t2, a, b, c, d, rfl⟩
  · refine says_sub (wk (found_new w l nn vs gs place size tS tp news hn hm hi hg hs hs2 hlen hp)) ?_
    intro p hp
    rcases List.mem_cons.mp hp with rfl | hp
    · exact .head _
    · exact .tail _ (.tail _ (.tail _ hp))
  · exact wk (found_hit w c1 c2 o1 o2 vs1 vs2 t1 t2 a b c d l nn vs gs place size tS tp news hm hi hg hs hs2 hlen hp)
theorem saysL_use {w : World} {f : Value} {vs : List Value} {D U : Nat} {news : Led} {R : Value → Led → Prop} (C : SaysL w f vs D U news R)
    {dp un : Nat} {gd : Option (List Code)} {cn : Str} {cs : Scope} {a : Addr} {ccd : Value} {cl : List (Str × Addr)} {A₀ : Around} {h₀ : Heap} {L : Addr} {m : Str → Option Value} {s : Shared} {p : Program} {loose : List Str} {mean : ExcName → Option Value} {mg mb : Str → Option Value} {Q E : Value → Shared → Prop}
    (B : Below A₀ h₀ [] h₀) (F : Fr h₀ L s.heap m) (X : (KK w).In h₀) (N : News h₀ L s.heap news) (T : Top p loose mean mg mb h₀) (hk : cs.kind = .function) (hd : dp + D < recursionLimit) (hu : un + U < cLine)
    (ret : ∀ v news' h' tk', Fr h₀ L h' m → News h₀ L h' news' → R v news' → Q v { s with heap := h', toks := tk' }) :
    wpAny (model PR w) (ktrTop dp un gd cn cs L a ccd cl []) (call f vs []) Q E s := C _ _ _ _ _ _ _ _ _ _ _ _ _ _ _ _ _ _ _ _ B F X N T hk hd hu ret
/-- two entries of a ledger, one a cell, one not -/
theorem cell_apart {h₀ h : Heap} {L : Addr} {news : Led} (N : News h₀ L h news) {c d : Addr} {o o' : Obj} (hc : (c, o) ∈ news) (hd : (d, o') ∈ news) (ho : CellO o) (ho' : ∀ z, o'.data ≠ Data.cell z) : @Ne Nat d c := by
  intro e
  have h1 := (N _ hc).1
  have h2 := (N _ hd).1
  dsimp only at h1 h2
  have e' : d = c := e
  rw [e', h1] at h2
  cases h2
  obtain ⟨z, hz⟩ := ho
  exact ho' z hz
theorem tab_noCell {oT o1 o2 : Obj} {c1 c2 : Addr} (h : TabOk oT c1 o1 c2 o2) : (∀ z, o1.data ≠ Data.cell z) ∧ (∀ z, o2.data ≠ Data.cell z) := by
  rcases h with ⟨rfl, rfl, rfl, rfl, rfl⟩ | ⟨vs1, t1, vs2, t2, a, b, c, d, rfl⟩
  · exact ⟨(fun z e => by cases e), (fun z e => by cases e)⟩
  · exact ⟨(fun z e => by rw [a] at e; cases e), (fun z e => by rw [c] at e; cases e)⟩
theorem min_iff {gs : List Int} {low high : Nat} (B : Best gs low high) {k : Nat} (hk : k < 6) {M : Int} (hM : M ∈ (List.range 6).map fun k => bitsF gs k) (hle : ∀ a, a ∈ ((List.range 6).map fun k => bitsF gs k) → M ≤ a) : bitsF gs k = M ↔ low ≤ k ∧ k ≤ high := by
  rw [← best_min B hk]
  obtain ⟨i, hi, rfl⟩ := List.mem_map.mp hM
  have hi6 : i < 6 := List.mem_range.mp hi
  have hle' : ∀ j, j < 6 → bitsF gs i ≤ bitsF gs j := fun j hj => hle _ (List.mem_map.mpr ⟨j, List.mem_range.mpr hj, rfl⟩)
  constructor
  · intro e j hj
    rw [e]; exact hle' j hj
  · intro h
    have := h i hi6
    have := hle' k hk
    lia
theorem range_pick (low n : Nat) : ((List.range n).map fun i => ((low + i : Nat) : Int)) = rangeKs (low : Nat) n := by
  unfold rangeKs
  apply List.map_congr_left
  intro i _
  push_cast; rfl
theorem bits_at {gs : List Int} {i : Nat} (hi : i < 6) : ((List.range 6).map fun k => bitsF gs k).getD ((i : Nat) : Int).toNat 0 = bitsF gs i := by
  rw [Int.toNat_natCast, List.getD_eq_getElem?_getD, List.getElem?_map, List.getElem?_range hi]; rfl
end
section
theorem law_trim2 {h₀ h : Heap} {L : Addr} {b1 b2 b3 u b4 b5 b6 b7 b8 b9 a1 a2 cU cP b10 cG t : Addr × Obj} (N : News h₀ L h [b1, b2, b3, u, b4, b5, b6, b7, b8, b9, a1, a2, cU, cP, b10, cG, t]) : News h₀ L h [cP, cU, a1, a2, cG, t, u] := (nc N m13 (nc N m12 (nc N m10 (nc N m11 (nc N m15 (nc N m16 (nc N m3 nn)))))))
end
section
theorem law_trim3 {h₀ h : Heap} {L : Addr} {aT aP cP cU aG b1 cG t u : Addr × Obj} (N : News h₀ L h [aT, aP, cP, cU, aG, b1, cG, t, u]) : News h₀ L h [cU, t, t, t, aT, aP, cP, aG, cG, u] := (nc N m3 (nc N m7 (nc N m7 (nc N m7 (nc N m0 (nc N m1 (nc N m2 (nc N m4 (nc N m6 (nc N m8 nn))))))))))
theorem tab_is {oT o1 o2 : Obj} {c1 c2 : Addr} (h : TabOk oT c1 o1 c2 o2) : ∃ ps, oT = tabObj ps := by
  rcases h with ⟨rfl, rfl, rfl, rfl, rfl⟩ | ⟨vs1, t1, vs2, t2, a, b, c, d, rfl⟩ <;> exact ⟨_, rfl⟩
/-- the inner loop's ledger, turned for _law_found -/
theorem law_turn2 {h₀ h : Heap} {L : Addr} {i2 i1 a t c d : Addr × Obj} {l : Led} (N : News h₀ L h (i2 :: i1 :: a :: t :: c :: d :: l)) : News h₀ L h (t :: c :: d :: i2 :: i1 :: a :: l) := (nc N m3 (nc N m4 (nc N m5 (nc N m0 (nc N m1 (nc N m2 (fun p hp => N p (.tail _ (.tail _ (.tail _ (.tail _ (.tail _ (.tail _ (hp))))))))))))))
theorem law_turn3 {h₀ h : Heap} {L : Addr} {t c d i2 i1 a : Addr × Obj} {l : Led} (N : News h₀ L h (t :: c :: d :: i2 :: i1 :: a :: l)) : News h₀ L h (i2 :: i1 :: a :: t :: c :: d :: l) := (nc N m3 (nc N m4 (nc N m5 (nc N m0 (nc N m1 (nc N m2 (fun p hp => N p (.tail _ (.tail _ (.tail _ (.tail _ (.tail _ (.tail _ (hp))))))))))))))
theorem unit_bd {low : Nat} (h1 : 1 ≤ low) (h5 : low ≤ 5) (S : Int) : ∀ u ∈ [((2 ^ low : Nat) : Int), 2 + Int.fmod S 8], 2 ≤ u ∧ u ≤ 32 := by
  intro u hu
  have hf := fmod_bd (g := S) (size := 8) (by decide)
  simp only [List.mem_cons, List.not_mem_nil, or_false] at hu
  rcases hu with rfl | rfl
  · have e : low = 1 ∨ low = 2 ∨ low = 3 ∨ low = 4 ∨ low = 5 := by lia
    rcases e with rfl | rfl | rfl | rfl | rfl <;> decide
  · lia
theorem pow_sum (q : Nat) : ((List.range q).map fun i => (64 : Int) ^ (i + 1)).sum = powS q := by
  induction q with
  | zero => rfl
  | succ q ih =>
    rw [List.range_succ, List.map_append, List.sum_append, ih]
    simp [powS]
end
section
theorem wh_bd {g u : Int} (h0 : 0 ≤ g) (h1 : g < 20) (hu : 2 ≤ u) : 0 ≤ Int.fdiv g u ∧ Int.fdiv g u ≤ 9 := by
  rw [Int.fdiv_eq_ediv_of_nonneg _ (by lia)]
  have h2 := Int.ediv_nonneg h0 (show 0 ≤ u by lia)
  refine ⟨h2, ?_⟩
  have h3 := Int.ediv_mul_le g (show u ≠ 0 by lia)
  by_cases h : g / u ≤ 9
  · exact h
  · have h4 : 10 * 2 ≤ g / u * u := Int.mul_le_mul (by lia) hu (by decide) (by omega)
    lia
end
section
theorem law_trim4 {h₀ h : Heap} {L : Addr} {n1 r1 r2 : Addr × Obj} {l : Led} (N : News h₀ L h (n1 :: r1 :: r2 :: l)) : News h₀ L h (r1 :: l) := (nc N m1 (fun p hp => N p (.tail _ (.tail _ (.tail _ (hp))))))
end
section
theorem law_trim5 {h₀ h : Heap} {L : Addr} {n1 r1 : Addr × Obj} {l : Led} (N : News h₀ L h (n1 :: r1 :: l)) : News h₀ L h (l) := (fun p hp => N p (.tail _ (.tail _ (hp))))
end
section
theorem tab_apart {h₀ h : Heap} {L : Addr} {news : Led} (N : News h₀ L h news) {I : Addr} {oI oT o1 o2 : Obj} {c1 c2 : Addr} (hI : (I, oI) ∈ news) (h1 : (c1, o1) ∈ news) (h2 : (c2, o2) ∈ news) (hT : TabOk oT c1 o1 c2 o2) (hno : NoText oI) (h147 : @Ne Nat 147 I) : @Ne Nat c1 I ∧ @Ne Nat c2 I := by
  rcases hT with ⟨rfl, rfl, rfl, rfl, rfl⟩ | ⟨vs1, t1, vs2, t2, a, b, c, d, rfl⟩
  · exact ⟨h147, h147⟩
  · constructor
    · intro e
      have e' : c1 = I := e
      have q1 := (N _ h1).1
      have q2 := (N _ hI).1
      rw [e', q2] at q1
      cases q1
      exact hno _ a _ _ b
    · intro e
      have e' : c2 = I := e
      have q1 := (N _ h2).1
      have q2 := (N _ hI).1
      rw [e', q2] at q1
      cases q1
      exact hno _ c _ _ d
end
end
section
local macro_rules | `(tactic| walk_at "law conj") => `(tactic| ((repeat (rename @LT.lt Nat _ _ _ ∧ _ => hq; first | exact hq.1 | exact hq.2.1 | exact hq.2.2.1 | exact hq.2.2.2.1 | exact hq.2.2.2.2.1 | exact hq.2.2.2.2.2.1 | exact hq.2.2.2.2.2.2.1 | exact hq.2.2.2.2.2.2.2.1 | exact hq.2.2.2.2.2.2.2.2.1 | exact hq.2.2.2.2.2.2.2.2.2.1 | exact hq.2.2.2.2.2.2.2.2.2.2.1 | exact hq.2.2.2.2.2.2.2.2.2.2.2.1 | clear hq)); done))
local macro_rules | `(tactic| walk_at "law lt") => `(tactic| first | exact Nat.lt_succ_self _ | assumption | walk_at "law conj" | ((fail_if_success (with_reducible show _ < @OfNat.ofNat Nat _ _)); refine Nat.lt_succ_of_lt ?_; walk_at "law lt") | (refine' Nat.lt_trans ?la ?lb; (case lb => assumption); (case la => walk_at "law conj")))
local macro_rules | `(tactic| k_ne) => `(tactic| (refine neN ?_; (try dsimp only); k_dflt (first | assumption | (refine Ne.symm ?_; assumption) | decide | (refine Nat.ne_of_lt ?_; walk_at "law lt") | (refine Nat.ne_of_gt ?_; walk_at "law lt") | omega)))
local macro_rules | `(tactic| ktr_room) => `(tactic| ((try simp only [depth_under_make, depth_under_kw, depth_in1, depth_deeper, depth_caller]); (try dsimp only [ktrTop]); (try simp only [Nat.add_assoc, Nat.reduceAdd]); first | decide | (refine' Nat.lt_of_le_of_lt ?le ?lt; (case lt => with_reducible assumption); (case le => exact Nat.add_le_add_left (Nat.le_of_ble_eq_true rfl) _)) | (refine' Nat.lt_of_le_of_lt ?le ?lt; (case lt => with_reducible assumption); (case le => exact Nat.le_add_right _ _))))
local macro_rules | `(tactic| ktr_units) => `(tactic| ((try simp only [units_in1, units_deeper, Around.mark_units, units_caller]); (try dsimp only [ktrTop]); (try simp only [Nat.add_assoc, Nat.reduceAdd]); first | decide | (refine' Nat.lt_of_le_of_lt ?le ?lt; (case lt => with_reducible assumption); (case le => exact Nat.add_le_add_left (Nat.le_of_ble_eq_true rfl) _)) | (refine' Nat.lt_of_le_of_lt ?le ?lt; (case lt => with_reducible assumption); (case le => exact Nat.le_add_right _ _))))
local macro_rules | `(tactic| k_all) => `(tactic| first | exact List.forall_mem_nil _ | (refine' List.forall_mem_cons.mpr ⟨?a9, ?b9⟩; (case a9 => k_ne); (case b9 => k_all)) | exact below_ne (by assumption) | assumption)
local macro_rules | `(tactic| walk_at "my use") => `(tactic| ((case B => k_asm); (case F => k_asm); (case X => k_asm); (case N => k_asm); (case T => k_asm); (case k => first | exact rfl | assumption); (case d => ktr_room); (case u => ktr_units)))
local macro_rules | `(tactic| walk_at "my fit") => `(tactic| first | omega | (simp only [List.length_append, List.length_cons, List.length_nil, List.length_map, List.length_take]; omega))
local macro_rules | `(tactic| walk_at "my len") => `(tactic| (try simp only [List.length_append, List.length_cons, List.length_nil, Nat.zero_add, Nat.reduceAdd, Nat.cast_ofNat, Int.natCast_add]))
local macro_rules | `(tactic| walk_at "call builtin:len") => `(tactic| (k_here; (with_reducible show wpAny _ _ (call (Value.builtin "len") [Value.ref _]) _ _ _); k_dflt (refine' len_l ?N ?m ?z ?_; (case N => k_asm); (case m => k_mem); (case z => walk_at "my fit")); walk_at "my len"))
local macro_rules | `(tactic| walk_at "call builtin:len") => `(tactic| (k_here; (with_reducible show wpAny _ _ (call (Value.builtin "len") [Value.str _ _]) _ _ _); k_dflt (refine' len_TX ?z ?_; (case z => walk_at "my fit")); walk_at "my len"))
local macro_rules | `(tactic| walk_at "call builtin:list.append") => `(tactic| (k_here; (with_reducible show wpAny _ _ (call (Value.builtin _) [Value.ref _, _]) _ _ _); k_dflt (refine' append_l ?F ?N ?U ?z ?_; (case F => k_asm); (case N => k_asm); (case U => k_upd); (case z => walk_at "my fit"); k_whole); intro h' F' N'; (try k_sweep)))
local macro_rules | `(tactic| walk_at "eval ListComp") => `(tactic| (k_here; k_dflt (refine LCg.ListComp_U (F₀ := by k_asm) (by with_unfolding_all rfl) (by decide) (by rfl) (by decide) (by rfl) ?_)))
local macro_rules | `(tactic| walk_at "CompSrc") => `(tactic| (refine Hold.intro ?_))
local macro_rules | `(tactic| walk_at "call ref") => `(tactic| (refine Hold.intro ?_))
local macro_rules | `(tactic| walk_at "pyIter ref") => `(tactic| (refine Hold.intro ?_))
local macro_rules | `(tactic| walk_at "exec While Compare cons nil") => `(tactic| (refine Hold.intro ?_))
local macro_rules | `(tactic| walk_at "call builtin:str.split") => `(tactic| (refine Hold.intro ?_))
local macro_rules | `(tactic| walk_at "call builtin:str.find") => `(tactic| (refine Hold.intro ?_))
local macro_rules | `(tactic| walk_at "truthy str") => `(tactic| (k_here; (with_reducible show wpAny _ _ (truthy (Value.str (TX _) _)) _ _ _); k_dflt (refine' truthy_TX ?z ?_; (case z => walk_at "my fit"))))
local macro_rules | `(tactic| walk_at "delItem ref int") => `(tactic| (k_here; k_dflt (refine' del_l ?F ?N ?e ?U ?f ?k ?l ?z ?_; (case F => k_asm); (case N => k_asm); (case k => exact rfl); (case e => kl_lit); (case U => k_upd); (case f => rfl); (case l => decide); (case z => walk_at "my fit"); k_whole); intro h' F' N'; (try k_sweep)))
local macro_rules | `(tactic| walk_at "exec For Name Name cons nil") => `(tactic| (k_here; k_dflt (refine' For_invVF ?F ?k1 ?k2 ?_; (case F => k_asm); (case k1 => exact rfl); (case k2 => exact rfl))))
local macro_rules | `(tactic| walk_at "exec For Name Call cons nil") => `(tactic| (k_here; k_dflt (refine' For_invVF ?F ?k1 ?k2 ?_; (case F => k_asm); (case k1 => exact rfl); (case k2 => exact rfl))))
local macro_rules | `(tactic| walk_at "par enter") => `(tactic| (refine' code_def ?k1 ?k2 ?k3 ?k4 ?k5 ?kA ?kF ?kK ?k6 ?k7 ?k8 ?k9 ?kB ?_ ?c2 ?c3 ?c4 ?c5; (case kA => exact rfl); (case kF => exact rfl); (case kK => assumption); (case k1 => k_asm); (case k2 => k_asm); (case k3 => k_asm); (case k4 => k_asm); (case k5 => k_asm); (case k6 => k_is); (case k7 => k_is); (case k8 => ktr_room); (case k9 => (refine' kp_binds ?kx ?ke; (case kx => k_in); (case ke => exact fun _ => rfl))); (case c5 => decide); (case kB => exact locs rfl); (case c2 => exact rfl); (case c3 => exact rfl); (case c4 => exact rfl); k_whole; intro g' L' h' FG' F' N' B' X' T'; (try dsimp only); (try k_lift B'); (try k_fold)))
local macro_rules | `(tactic| walk_at "call type:tuple") => `(tactic| (k_here; (with_reducible show wpAny _ _ (call (Value.type _) [Value.ref _]) _ _ _); k_dflt (refine' kde_tupleOf ?k1 ?k2 ?k3 ?k4 ?k5 ?_; (case k1 => k_asm); (case k2 => k_asm); (case k3 => exact News.isList (by k_asm) (by k_mem)); (case k4 => (simp only [List.size_toArray]; omega)); (case k5 => exact List.toList_toArray); k_whole); intro D' h' F' N' l1; (try k_lt l1); (try k_sweep)))
local macro_rules | `(tactic| walk_at "cel enter") => `(tactic| (refine' code_defC ?k1 ?k2 ?k3 ?k4 ?k5 ?kA ?kF ?kK ?k6 ?k7 ?k8 ?k9 ?kB ?kD ?_ ?c2 ?c3 ?c4; (case kA => exact rfl); (case kF => exact rfl); (case kK => assumption); (case k1 => k_asm); (case k2 => k_asm); (case k3 => k_asm); (case k4 => k_asm); (case k5 => k_asm); (case k6 => k_is); (case k7 => k_is); (case k8 => ktr_room); (case k9 => exact BindsTo.of_eq rfl); (case kB => exact rfl); (case kD => decide +kernel); (case c2 => exact rfl); (case c3 => exact rfl); (case c4 => exact rfl); k_whole; intro g' L' h' tk' cells' FG' F' N' Y' B' X' T' l1; (try k_lt l1); k_cells Y'; (try simp only [List.cons_append, List.nil_append] at N'); (try dsimp only); (try k_lift B'); (try k_fold)))
local macro_rules | `(tactic| walk_at "lam enter") => `(tactic| (refine' kla_code ?k1 ?k2 ?k3 ?k4 ?k5 ?kA ?kF ?kK ?k6 ?k7 ?k8 ?k9 ?kB ?_ ?c2 ?c3 ?c4 ?c5; (case kA => exact rfl); (case kF => exact rfl); (case kK => assumption); (case k1 => k_asm); (case k2 => k_asm); (case k3 => k_asm); (case k4 => k_asm); (case k5 => k_asm); (case k6 => k_mem); (case k7 => exact codeRec_news (by k_asm) (by k_mem) (by assumption) (by assumption)); (case k8 => ktr_room); (case k9 => exact rfl); (case c5 => decide); (case kB => exact locs rfl); (case c2 => exact rfl); (case c3 => exact rfl); (case c4 => exact rfl); k_whole; intro g' L' h' FG' F' N' B' X' T'; (try dsimp only); (try k_lift B'); (try k_fold)))
local macro_rules | `(tactic| k_mem) => `(tactic| (show (_ : Addr × Obj) ∈ (_ : List (Addr × Obj)); with_reducible assumption))
local macro_rules | `(tactic| walk_at "binaryOp Add str str") => `(tactic| (k_here; (with_reducible show wpAny _ _ (binaryOp Operator.Add (Value.str _ _) (Value.str _ _)) _ _ _); first | ((refine add_dots ?zda ?_; (case zda => walk_at "my fit")); intro t' tk'; (try k_sweep)) | ((refine add_TX ?zda ?_; (case zda => walk_at "my fit")); intro t' tk'; (try k_sweep))))
local macro_rules | `(tactic| walk_at "binaryOp Add ref ref") => `(tactic| (refine Hold.intro ?_))
local macro_rules | `(tactic| walk_at "binaryOp Mult str int") => `(tactic| (k_here; (with_reducible show wpAny _ _ (binaryOp Operator.Mult (Value.str _ _) (Value.int _ _)) _ _ _); (refine mul_bl ?zma ?zmb ?_; (case zma => omega); (case zmb => omega)); intro t' tk'; (try k_sweep)))
local macro_rules | `(tactic| walk_at "binaryOp Add str str") => `(tactic| (k_here; (with_reducible show wpAny _ _ (binaryOp Operator.Add (Value.str _ _) (Value.str _ _)) _ _ _); first | ((refine add_tab ?zda ?_; (case zda => (simp only [List.length_replicate]; omega))); intro t' tk'; (try k_sweep)) | ((refine add_xtab ?zda ?_; (case zda => walk_at "my fit")); intro t' tk'; (try k_sweep))))
local macro_rules | `(tactic| walk_at "law use") => `(tactic| ((case uB => k_asm); (case uF => k_asm); (case uX => k_asm); (case uN => k_asm); (case uT => k_asm); (case uk => first | exact rfl | assumption); (case ud => ktr_room); (case uu => ktr_units)))
local macro_rules | `(tactic| walk_at "exec For Name Call cons nil") => `(tactic| (refine Hold.intro ?_))
local macro_rules | `(tactic| walk_at "eval ListComp") => `(tactic| first | (k_here; (with_reducible show wpAny _ _ (eval (Expr.ListComp _ [⟨_, _, [], _⟩] _ _) _) _ _ _); k_dflt (refine LCg.ListComp_U (F₀ := by k_asm) (by with_unfolding_all rfl) (by decide) (by rfl) (by decide) (by rfl) ?_)) | (refine Hold.intro ?_))
local macro_rules | `(tactic| walk_at "CompSrcT") => `(tactic| (refine Hold.intro ?_))
local macro_rules | `(tactic| walk_at "call type:list") => `(tactic| (refine Hold.intro ?_))
local macro_rules | `(tactic| walk_at "compareOp NotEq ref ref") => `(tactic| (refine Hold.intro ?_))
local macro_rules | `(tactic| walk_at "call builtin:min") => `(tactic| (refine Hold.intro ?_))
local macro_rules | `(tactic| walk_at "exec For Name Tuple cons nil") => `(tactic| (refine Hold.intro ?_))
set_option maxRecDepth 100000 in
set_option maxHeartbeats 8000000 in
theorem law_holds : PySem.Challenge.rw_ty0043_01.Holds := hdq (by
  w_top off
  k_with_none
  k_go0
  all_goals try k_fold
  rename World => w
  rename Shared => s1
  (try k_unmd); k_fold
  k_steps
  refine Hold.out ?_
  rename IntsAre _ (List.take 3 _) => hIt
  rename List.length (List.take 3 _) = _ => hCt
  generalize hdr : List.take 3 _ = dr at hIt
  have hdl : dr.length ≤ 3 := by rw [← hdr, List.length_take]; omega
  clear hCt
  have hIl := hIt.length
  k_dflt (refine' LCg.CompSrc.ledger ?hh ?F ?N ?m ?z ?_; (case hh => rfl); (case F => k_asm); (case N => k_asm); (case m => k_mem); (case z => (rw [sizeLine_eq, List.size_toArray]; omega)))
  intro g
  refine comp_map (IntAt (dr.map fun x => Int.fmod x 20)) ?_ ?_
  · intro i v I oI C oC D m₂ ys h tk E' hin hv hC hx F N off ne
    obtain ⟨g, t, rfl, hgi⟩ := hIt.at i v (by simpa using hv)
    refine gen_Q fun QC hQC => ?_
    k_steps
    refine hQC _ _ ?_
    refine LCg.CompEnd.intro (by k_asm) (by k_asm) _ (fun p hp => hp) off (.inr ⟨_, by k_mem, rfl, _, rfl⟩) ⟨⟨Int.fmod g 20, _, by simp [hgi], rfl⟩, rfl⟩
  · intro ys hl hy
    have hId := intsAre_of (ys := ys) (zs := dr.map fun x => Int.fmod x 20) (by rw [List.length_map, hl, List.size_toArray]; exact hIl) hy
    generalize hdd : dr.map (fun x => Int.fmod x 20) = drawn at hId
    have hdl2 : drawn.length ≤ 3 := by rw [← hdd, List.length_map]; exact hdl
    k_steps
    refine Hold.out ?_
    refine' kmk_add_ints ?aF ?aN ?aa ?ab ?ai ?aj ?_ ?az
    case aF => k_asm
    case aN => k_asm
    case aa => (refine' News.isList ?aaN ?aaM; (case aaN => k_asm); (case aaM => k_mem))
    case ab => (refine' News.isList ?abN ?abM; (case abN => k_asm); (case abM => k_mem))
    case ai => exact hId
    case aj => exact .cons _ _ (.cons _ _ (.cons _ _ (.cons _ _ .nil)))
    case az => (simp only [List.length_cons, List.length_nil, sizeLine_eq]; omega)
    intro DG wsG hG FG NG lG hIG
    (try k_lt lG); (try k_sweep)
    generalize hgg : drawn ++ [9, 2, 5, 2] = gaps at hIG
    k_steps
    have hgl : gaps.length ≤ 7 := by rw [← hgg, List.length_append]; simp only [List.length_cons, List.length_nil]; omega
    have hgl4 : 4 ≤ gaps.length := by rw [← hgg, List.length_append]; simp only [List.length_cons, List.length_nil]; omega
    have hgb : ∀ g ∈ gaps, 0 ≤ g ∧ g < 20 := by
      intro g hgm
      rw [← hgg, ← hdd] at hgm
      rcases List.mem_append.mp hgm with hgm | hgm
      · obtain ⟨x, _, rfl⟩ := List.mem_map.mp hgm
        exact fmod_bd (by decide)
      · simp only [List.mem_cons, List.not_mem_nil, or_false] at hgm; omega
    have hGl := hIG.length
    refine Hold.out ?_
    k_dflt (refine' LCg.CompSrc.ledger ?hh2 ?F ?N ?m ?z ?_; (case hh2 => rfl); (case F => k_asm); (case N => k_asm); (case m => k_mem); (case z => (rw [sizeLine_eq, List.size_toArray]; omega)))
    intro g
    refine comp_map (StrAt (gaps.map fun g => TX (leadC g))) ?_ ?_
    · intro i v I oI C oC D m₂ ys h tk E' hin hv hC hx F N off ne
      obtain ⟨g, t, rfl, hgi⟩ := hIG.at i v (by simpa using hv)
      obtain ⟨hg0, hg1⟩ := hgb g (List.mem_of_getElem? hgi)
      refine gen_Q fun QC hQC => ?_
      k_steps
      refine hQC _ _ ?_
      refine LCg.CompEnd.intro (by k_asm) (by k_asm) _ (fun p hp => hp) off (.inr ⟨_, by k_mem, rfl, _, rfl⟩) ⟨⟨TX (leadC g), _, by simp [hgi], rfl⟩, rfl⟩
    · intro ysL hlL hyL
      have hLS := strsAre_of (ys := ysL) (zs := gaps.map fun g => TX (leadC g)) (by rw [List.length_map, hlL, List.size_toArray]; exact hIG.length) hyL
      k_steps
      rename Fr _ _ _ _ => lF
      rename News _ _ _ _ => lN
      have hll := leadF_len hgb
      refine join_list (News.isList lN (by k_mem)) hLS ?_ ?_
      · have e : (gaps.map fun g => TX (leadC g)).map Str.length = gaps.map fun g => (leadC g).length := by rw [List.map_map]; apply List.map_congr_left; intro o _; exact TX_len _
        have e2 : (gaps.map fun g => (leadC g).length).sum = (leadF gaps).length := by unfold leadF; rw [List.length_flatMap]
        rw [e, e2, TX_empty, TX_len]
        simp only [List.length_map, List.length_nil, Nat.mul_zero]
        omega
      intro t9 k9
      have e : (gaps.map fun g => TX (leadC g)) = (gaps.map leadC).map TX := by rw [List.map_map]; rfl
      have e2 : (gaps.map leadC).flatten = leadF gaps := by unfold leadF; rw [List.flatMap_def]
      rw [e, join_TX, e2]
      clear e e2
      k_steps
      refine Hold.out ?_
      k_dflt (refine' says_use (white_says w (leadF gaps) [32, 9] _ _ ?wh1 ?wh2 ?wh3 ?wh4) ?uB ?uF ?uX ?uN ?uT ?uk ?ud ?uu ?_; walk_at "law use")
      case wh1 => exact leadF_mem
      case wh2 => decide
      case wh3 => omega
      case wh4 => decide
      rintro v news' h' tk' F' N' ⟨x, d, D1, D2, us, q1, q2, q3, q4, q5, tb, tn, v1, v2, v5, rfl, hus, hd1, hd2, hd3, hd4, rfl⟩
      have hrun := lead_run gaps
      k_sweep
      k_steps
      refine Hold.out ?_
      rename Fr _ _ _ _ => lF
      rename News _ _ _ _ => lN
      k_lt hd1
      obtain ⟨DD, m0, oS, oB, oP, oU, oG, e1, e2, ⟨hcD1, hcD2, hcD3, hcD4, hcD5, hcD6, hcD7⟩, hc2, hc3, hS, hB, hP, hU, hG, lF2, lN2⟩ : ∃ (DD : Addr) (m0 : Str → Option Value) (oS oB oP oU oG : Obj), m0 (Str.ofString "lead") = some (.ref x) ∧ m0 (Str.ofString "drawn") = some (.ref DD) ∧ (@Ne Nat (s1.heap.objs.size + 1) DD ∧ @Ne Nat (s1.heap.objs.size + 1 + 1) DD ∧ @Ne Nat (s1.heap.objs.size + 1 + 1 + 1) DD ∧ @Ne Nat (s1.heap.objs.size + 1 + 1 + 1 + 1) DD ∧ @Ne Nat (s1.heap.objs.size + 1 + 1 + 1 + 1 + 1) DD ∧ @Ne Nat 147 DD ∧ @Ne Nat 133 DD) ∧ @LT.lt Nat _ DD DG ∧ @LT.lt Nat _ DG d ∧
        CellO oS ∧ CellO oB ∧ CellO oP ∧ CellO oU ∧ oG.data = Data.cell (some (.ref DG)) ∧ Fr _ _ _ m0 ∧ News _ _ _ [(s1.heap.objs.size + 1 + 1, oS), (D2, tupO [.ref D1, .int ((runW (leadF gaps)).b : Nat) tb]), (D1, tupO us), (x, instObj 115 d), (d, dictOf [WE w "raw" q1 v1, WE w "n" q2 v2, WE w "nt" q3 (.int ((runW (leadF gaps)).nt : Nat) tn), WE w "norm" q4 (.ref D2), WE w "is_simple" q5 v5] 5), (DG, listOf wsG.toArray 0), (DD, LCg.lst ys), (s1.heap.objs.size + 1 + 1 + 1 + 1 + 1, oU), (s1.heap.objs.size + 1 + 1 + 1 + 1, oP), (s1.heap.objs.size + 1 + 1 + 1, oB), (s1.heap.objs.size + 1, oG), (147, tabObj #[]), (133, tabObj #[])] := by
        refine ⟨_, _, _, _, _, _, _, ?e1, ?e2, ?c1, ?c2, ?c3, ?o1, ?o2, ?o3, ?o4, ?o5, lF, law_trim lN⟩
        case e1 => rfl
        case e2 => rfl
        case c1 =>
          repeat (rename @Ne Nat _ _ ∧ _ => hz; obtain ⟨_, _⟩ := hz)
          refine ⟨?_, ?_, ?_, ?_, ?_, ?_, ?_⟩ <;> first | with_reducible assumption | omega
        case c2 => omega
        case c3 => omega
        case o1 => exact ⟨_, by assumption⟩
        case o2 => exact ⟨_, by assumption⟩
        case o3 => exact ⟨_, by assumption⟩
        case o4 => exact ⟨_, by assumption⟩
        case o5 => assumption
      clear lF lN hd1
      k_dflt (refine' For_turns ?fF ?_ ?fs; (case fF => k_asm); (case fs => exact fun _ => rfl))
      k_steps
      refine Hold.out ?_
      rename IsRange _ _ _ _ _ _ _ _ => hrg
      rename Fr _ _ _ _ => lF1
      rename News _ _ _ _ => lN1
      obtain ⟨nw1, hnw1⟩ : ∃ nw1 : Led, nw1 = [(D2, tupO [.ref D1, .int ((runW (leadF gaps)).b : Nat) tb]), (D1, tupO us), (x, instObj 115 d), (d, dictOf [WE w "raw" q1 v1, WE w "n" q2 v2, WE w "nt" q3 (.int ((runW (leadF gaps)).nt : Nat) tn), WE w "norm" q4 (.ref D2), WE w "is_simple" q5 v5] 5), (DG, listOf wsG.toArray 0), (DD, LCg.lst ys), (s1.heap.objs.size + 1 + 1 + 1 + 1 + 1, oU), (s1.heap.objs.size + 1 + 1 + 1 + 1, oP), (s1.heap.objs.size + 1 + 1 + 1, oB), (s1.heap.objs.size + 1, oG), (147, tabObj #[]), (133, tabObj #[])] := ⟨_, rfl⟩
      have mD2 : (D2, tupO [.ref D1, .int ((runW (leadF gaps)).b : Nat) tb]) ∈ nw1 := by rw [hnw1]; exact Mine.m0
      have mD1 : (D1, tupO us) ∈ nw1 := by rw [hnw1]; exact m1
      have mx : (x, instObj 115 d) ∈ nw1 := by rw [hnw1]; exact m2
      have md : (d, dictOf [WE w "raw" q1 v1, WE w "n" q2 v2, WE w "nt" q3 (.int ((runW (leadF gaps)).nt : Nat) tn), WE w "norm" q4 (.ref D2), WE w "is_simple" q5 v5] 5) ∈ nw1 := by rw [hnw1]; exact m3
      have mDG : (DG, listOf wsG.toArray 0) ∈ nw1 := by rw [hnw1]; exact m4
      have mcG : (s1.heap.objs.size + 1, oG) ∈ nw1 := by rw [hnw1]; exact m9
      have hnS : ∀ p ∈ nw1, p.1 ≠ s1.heap.objs.size + 1 + 1 := by rw [hnw1]; k_all
      rw [← hnw1] at lN1
      with_unfolding_all refine loopC_range (n := 20) (fun i m₁ nx => (m₁ (Str.ofString "lead") = some (.ref x) ∧ m₁ (Str.ofString "drawn") = some (.ref DD)) ∧ ∃ oS, CellO oS ∧ nx = (s1.heap.objs.size + 1 + 1, oS) :: nw1) rfl hrg (small_one (by decide) (by decide) (by decide) (by decide)) (rangeSize_nat 1 21) lF1 lN1 ⟨⟨e1, e2⟩, oS, hS, rfl⟩ ?_ ?_
      · rintro i t m₁ news₁ h₁ tk₁ oI _ hi hlt hoff ⟨⟨e3, e4⟩, oT, ⟨zT, hT⟩, rfl⟩ F₁ N₁
        have F1 := fr_know (Str.ofString "lead") (by exact e3) (fr_know (Str.ofString "drawn") (by exact e4) F₁)
        clear F₁ e3 e4
        have hnI : ∀ p ∈ nw1, p.1 < _ := fun p hp => hlt p (.tail _ hp)
        k_lt hlt
        rw [show (1 : Int) + (i : Nat) = ((i + 1 : Nat) : Int) by omega]
        generalize hts : i + 1 = ts
        change Fr _ s1.heap.objs.size _ _ at F1
        change News _ s1.heap.objs.size _ _ at N₁
        refine gen_Q2 fun Q₉ hQ₉ => ?_
        k_steps
        refine Hold.out ?_
        have hrb := runW_bd (leadF gaps) (leadF gaps).length (Nat.le_refl _)
        rw [List.take_length] at hrb
        k_dflt (refine' says_use (indent_says w x d D1 D2 us (runW (leadF gaps)) q1 q2 q3 q4 q5 tb tn _ v1 v2 v5 ts _ ?im1 ?im2 ?im3 ?im4 hus ?ia ?ib ?ic ?id ?ie) ?uB ?uF ?uX ?uN ?uT ?uk ?ud ?uu ?_; walk_at "law use"; (case im1 => k_mem); (case im2 => k_mem); (case im3 => k_mem); (case im4 => k_mem))
        case ia => omega
        case ib => omega
        case ic => omega
        case id => omega
        case ie => omega
        rintro v news' h' tk' F' N' ⟨⟨tz, rfl⟩, rfl⟩
        k_steps
        refine Hold.out ?_
        k_dflt (refine' LCg.CompSrc.ledger ?hh3 ?F ?N ?m ?z ?_; (case hh3 => rfl); (case F => k_asm); (case N => k_asm); (case m => k_mem); (case z => (rw [sizeLine_eq, List.size_toArray]; omega)))
        intro g
        refine comp_map (IntAt (gaps.map fun g => Int.fdiv g ts + 1)) ?_ ?_
        · intro i v I oI C oC D m₂ ys h tk E' hin hv hC hx F N off ne
          obtain ⟨g, t, rfl, hgi⟩ := hIG.at i v (by simpa using hv)
          obtain ⟨hg0, hg1⟩ := hgb g (List.mem_of_getElem? hgi)
          refine gen_Q fun QC hQC => ?_
          k_steps
          refine hQC _ _ ?_
          refine LCg.CompEnd.intro (by k_asm) (by k_asm) _ (fun p hp => hp) off (.inr ⟨_, by k_mem, rfl, _, rfl⟩) ⟨⟨Int.fdiv g ts + 1, _, by simp [hgi], rfl⟩, rfl⟩
        · intro ysW hlW hyW
          have hIW := intsAre_of (ys := ysW) (zs := gaps.map fun g => Int.fdiv g ts + 1) (by rw [List.length_map, hlW, List.size_toArray]; exact hIG.length) hyW
          have hbW := wholes_bd (ts := ts) (by omega) hgb
          have hlw := indent_law (ts := ts) (by omega) hgb
          generalize (gaps.map fun g => Int.fdiv g ts + 1) = zsW at *
          k_steps
          · rename _ ≠ _ => hne
            exact absurd hlw hne
          · rename Fr _ _ _ _ => lF2
            rename News _ _ _ _ => lN2
            refine hQ₉ _ _ ?_
            refine turn_next _ lF2 lN2 (by k_mem) (fun p hp => .tail _ (.tail _ hp)) ?_ ⟨⟨by rfl, by rfl⟩, _, ⟨_, by assumption⟩, rfl⟩
            intro p hp
            rcases List.mem_cons.mp hp with rfl | hp
            · exact hoff (_, oT) (.head _)
            · exact hoff p (.tail _ hp)
      · subst hnw1
        clear mD2 mD1 mx md mDG mcG hnS
        rintro m₁ news₁ h₁ tk₁ ⟨⟨e3, e4⟩, oT, ⟨zT, hT⟩, rfl⟩ F₁ N₁
        have F1 := fr_know (Str.ofString "lead") (by exact e3) (fr_know (Str.ofString "drawn") (by exact e4) F₁)
        clear F₁ e3 e4
        change Fr _ s1.heap.objs.size _ _ at F1
        change News _ s1.heap.objs.size _ _ at N₁
        obtain ⟨zB, hB⟩ := hB
        obtain ⟨zP, hP⟩ := hP
        obtain ⟨zU, hU⟩ := hU
        k_steps
        refine Hold.out ?_
        rename IsRange _ _ _ _ _ _ _ _ => hrg2
        k_dflt (refine' LCg.CompSrc.range (n := 6) ?hh4 ?F ?N hrg2 ?sm ?rn ?z ?_; (case hh4 => rfl); (case F => k_asm); (case N => k_asm); (case sm => exact small_one (by decide) (by decide) (by decide) (by decide)); (case rn => exact rangeSize_nat 0 6); (case z => decide))
        intro g
        refine comp_map (IntAt ((List.range 6).map fun k => bitsF gaps k)) ?_ ?_
        · rintro i v I oI C oC D m₂ ys h tk E' hin ⟨t, rfl⟩ hC hx F N off ne
          rw [Int.zero_add] at hx
          refine gen_Q fun QC hQC => ?_
          k_steps
          refine Hold.out ?_
          rw [pow_nat]
          have hp1 := pow_bd (k := i) (by omega)
          k_dflt (refine' says_use (octets_says w DG 0 wsG gaps (2 ^ i : Nat) _ _ ?om hIG ?og ?oa ?ob hgl) ?uB ?uF ?uX ?uN ?uT ?uk ?ud ?uu ?_; walk_at "law use"; (case om => k_mem))
          case og => intro g hg; have := hgb g hg; omega
          case oa => omega
          case ob => omega
          rintro v news' h' tk' F' N' ⟨rO, usO, kO, rfl, rfl, husO, hltO⟩
          have hOl := husO.length
          have hO2 := octF_len (size := (2 ^ i : Nat)) (by omega) (gs := gaps) (fun g hg => by have := hgb g hg; omega)
          k_steps
          have hbe : bitsF gaps i = (usO.length : Int) + (i : Int) * (wsG.length : Int) := by unfold bitsF; rw [hOl, hGl]
          refine hQC _ _ ?_
          refine LCg.CompEnd.intro (by k_asm) (by k_asm) _ (fun p hp => ?_) off trivial ⟨⟨bitsF gaps i, _, by simp [hin], by rw [hbe]⟩, rfl⟩
          exact .tail _ hp
        · intro ysB hlB hyB
          have hIB := intsAre_of (ys := ysB) (zs := (List.range 6).map fun k => bitsF gaps k) (by rw [List.length_map, hlB]; rfl) hyB
          obtain ⟨low, high, hBest⟩ := best_is (gs := gaps) (fun g hg => (hgb g hg).1)
          have hl1 : 1 ≤ low := best_low hBest (by
            rw [← hgg]
            refine more_zero hdl2 fun g hg => ?_
            rw [← hdd] at hg
            obtain ⟨x, _, rfl⟩ := List.mem_map.mp hg
            exact (fmod_bd (by decide)).1)
          have hl5 := hBest.l5
          have hh5 := hBest.h5
          have hlh := hBest.le
          have hcost := cost_bits (gs := gaps) (fun g hg => (hgb g hg).1)
          have hrb := runW_bd (leadF gaps) (leadF gaps).length (Nat.le_refl _)
          rw [List.take_length] at hrb
          k_steps
          refine Hold.out ?_
          rename News _ _ _ _ => lNc
          k_dflt (refine' says_use (cheap_says w x d D1 D2 us (runW (leadF gaps)) q1 q2 q3 q4 q5 tb tn v1 v2 v5 low high _ ?cn ?cm1 ?cm2 ?cm3 ?cm4 hus ?ca ?cb ?cc hl5 ?cd hh5 ?ce) ?uB ?uF ?uX (law_turn lNc) ?uT ?uk ?ud ?uu ?_; (case uB => k_asm); (case uF => k_asm); (case uX => k_asm); (case uT => k_asm); (case uk => first | exact rfl | assumption); (case ud => ktr_room); (case uu => ktr_units); (case cm1 => k_mem); (case cm2 => k_mem); (case cm3 => k_mem); (case cm4 => k_mem))
          case cn => k_all
          case ca => omega
          case cb => omega
          case cc => omega
          case cd => intro i hi; rw [hcost, hcost]; exact hBest.lo i hi
          case ce => intro i hi; rw [hcost, hcost]; exact hBest.hi i hi
          rintro v news' h' tk' F' N' ⟨DT, t1, t2, ps3, rfl, hltT, rfl⟩
          k_lt hltT
          k_steps
          refine Hold.out ?_
          k_dflt (refine LCt.ListComp_T (F₀ := by k_asm) (by with_unfolding_all rfl) (by decide) (by rfl) (by decide) (by rfl) ?_)
          k_steps
          refine Hold.out ?_
          rename IsRange _ _ _ _ _ _ _ _ => hrg3
          k_dflt (refine' LCt.CompSrcT.range (n := 6) ?hh5 ?F ?N hrg3 ?sm ?rn ?z ?_; (case hh5 => rfl); (case F => k_asm); (case N => k_asm); (case sm => exact small_one (by decide) (by decide) (by decide) (by decide)); (case rn => exact rangeSize_nat 0 6); (case z => decide))
          intro g
          refine comp_test (fun k => decide (low ≤ k ∧ k ≤ high)) (fun k : Nat => (k : Int)) ?_ ?_
          · rintro i v I oI C oC D m₂ ys h tk E' hin ⟨t, rfl⟩ hC hx F N off ne
            rw [Int.zero_add] at hx
            k_steps
            refine Hold.out ?_
            k_dflt (refine' kso_min ?mF ?mN ?mL hIB ?mZ ?mH ?_; (case mF => k_asm); (case mN => k_asm); (case mL => exact News.isList (by k_asm) (by k_mem)); (case mZ => simp); (case mH => rfl))
            intro hm M tM km Fm Nm hM hMle
            have hmin := min_iff hBest hin hM hMle
            rw [← bits_at (gs := gaps) hin] at hmin
            clear hMle hM
            k_steps
            · rename _ = M => hq
              refine LCg.CompEnd.intro (by k_asm) (by k_asm) _ (fun p hp => hp) off trivial ⟨decide_eq_true (hmin.mp hq), ⟨_, rfl⟩, rfl⟩
            · rename _ ≠ M => hq
              refine LCg.CompEnd.intro (by k_asm) (by k_asm) _ (fun p hp => hp) off trivial ⟨decide_eq_false (fun q => hq (hmin.mpr q)), rfl⟩
          · intro ysR hIR
            rw [pick_range low (by omega) high (by omega) hlh, range_pick] at hIR
            k_steps
            refine Hold.out ?_
            rename IsRange _ _ _ _ _ _ _ _ => hrg4
            rename Fr _ _ _ _ => lF4
            rename News _ _ _ _ => lN4
            with_unfolding_all refine kll_range (n := high + 1 - low) rfl lF4 lN4 hrg4 (small_one (by omega) (by omega) (by omega) (by omega)) (by rw [rangeSize_nat]; omega) (by omega) ?_
            intro DK usK cK hK tkK FK NK lK hIK
            k_lt lK
            k_sweep
            k_steps
            refine Hold.out ?_
            refine ke_ne_ints (News.isList NK (by k_mem)) (News.isList NK (by k_mem)) hIR hIK ?hun ?_
            case hun => ktr_units
            rw [show (!decide (rangeKs (low : Nat) (high + 1 - low) = rangeKs (low : Nat) (high + 1 - low))) = false by simp]
            k_steps
            refine Hold.out ?_
            rename IsRange _ _ _ _ _ _ _ _ => hrg5
            rename News _ _ _ _ => lN5
            replace lN5 := law_trim2 lN5
            have hdp : @Ne Nat (s1.heap.objs.size + 1 + 1 + 1 + 1) DD := hcD4
            have hdu : @Ne Nat (s1.heap.objs.size + 1 + 1 + 1 + 1 + 1) DD := hcD5
            repeat (rename @Ne Nat _ _ ∧ _ => hz; clear hz)
            k_dflt (refine' LCg.CompSrc.range (n := 11) ?hh6 ?F ?N hrg5 ?sm ?rn ?z ?_; (case hh6 => rfl); (case F => k_asm); (case N => k_asm); (case sm => exact small_one (by decide) (by decide) (by decide) (by decide)); (case rn => exact rangeSize_nat 1 12); (case z => decide))
            intro g
            refine comp_map (IntAt powL) ?_ ?_
            · rintro i v I oI C oC D m₂ ys h tk E' hin ⟨t, rfl⟩ hC hx F N off ne
              rw [show (1 : Int) + (i : Nat) = ((i + 1 : Nat) : Int) by omega] at hx
              refine gen_Q fun QC hQC => ?_
              k_steps
              rw [Int.toNat_natCast]
              refine hQC _ _ ?_
              refine LCg.CompEnd.intro (by k_asm) (by k_asm) _ (fun p hp => hp) off trivial ⟨⟨64 ^ (i + 1), _, by simp [powL, hin], rfl⟩, rfl⟩
            · intro ysP hlP hyP
              have hIP := intsAre_of (ys := ysP) (zs := powL) (by rw [hlP]; rfl) hyP
              k_steps
              refine Hold.out ?_
              k_dflt (refine' For_turns ?fF2 ?_ ?fs2; (case fF2 => k_asm); (case fs2 => exact fun _ => rfl))
              have hId2 := hId
              k_steps
              refine Hold.out ?_
              rename Fr _ _ _ _ => lF7
              rename News _ _ _ _ => lN7
              rename Addr => DT2
              rw [pow_nat] at lN7
              obtain ⟨DP, vsU, oP2, hIU, hP2, hn1, hn2, hn3, lN8⟩ : ∃ (DP : Addr) (vsU : List Value) (oP2 : Obj), IntsAre vsU [((2 ^ low : Nat) : Int), 2 + Int.fmod drawn.sum 8] ∧ oP2.data = Data.cell (some (.ref DP)) ∧ @LT.lt Nat _ DP DT2 ∧ @Ne Nat (s1.heap.objs.size + 1 + 1 + 1 + 1 + 1) DP ∧ (@LT.lt Nat _ (s1.heap.objs.size + 1 + 1 + 1 + 1 + 1) DT2 ∧ @Ne Nat 147 DP) ∧ News _ _ _ [(s1.heap.objs.size + 1 + 1 + 1 + 1 + 1, oU), (147, tabObj #[]), (147, tabObj #[]), (147, tabObj #[]), (DT2, tupO vsU), (DP, listOf ysP.toArray ysP.length), (s1.heap.objs.size + 1 + 1 + 1 + 1, oP2), (DG, listOf wsG.toArray 0), (s1.heap.objs.size + 1, oG), (133, tabObj ps3)] := by
                refine ⟨_, [_, _], _, ?u1, ?u2, ?u3, ?u4, ?u5, law_trim3 lN7⟩
                case u1 => exact .cons _ _ (.cons _ _ .nil)
                case u2 => assumption
                case u3 => omega
                case u4 => omega
                case u5 => exact ⟨by omega, by omega⟩
              have hub := unit_bd hl1 hl5 drawn.sum
              have hL147 : @LT.lt Nat _ 147 s1.heap.objs.size := by omega
              rename Heap => hp7
              obtain ⟨nw, hnU, hn147, mT, mP, mcP, mG, mcG, m133, lN8b⟩ : ∃ nw : Led, (∀ p ∈ nw, p.1 ≠ s1.heap.objs.size + 1 + 1 + 1 + 1 + 1) ∧ (∀ p ∈ nw, p.1 ≠ 147) ∧ (DT2, tupO vsU) ∈ nw ∧ (DP, listOf ysP.toArray ysP.length) ∈ nw ∧ (s1.heap.objs.size + 1 + 1 + 1 + 1, oP2) ∈ nw ∧ (DG, listOf wsG.toArray 0) ∈ nw ∧ (s1.heap.objs.size + 1, oG) ∈ nw ∧ (133, tabObj ps3) ∈ nw ∧ News _ _ _ ((s1.heap.objs.size + 1 + 1 + 1 + 1 + 1, oU) :: (147, tabObj #[]) :: (147, tabObj #[]) :: (147, tabObj #[]) :: nw) := by
                refine ⟨_, ?w1, ?w2, ?w3, ?w4, ?w5, ?w6, ?w7, ?w8, lN8⟩
                case w3 => exact Mine.m0
                case w4 => exact m1
                case w5 => exact m2
                case w6 => exact m3
                case w7 => exact m4
                case w8 => exact m5
                case w1 => k_all
                case w2 => k_all
              clear lN8
              with_unfolding_all refine loopC_tuple (vs := vsU) (fun i m₁ nx => ∃ (oU oT o1 o2 : Obj) (c1 c2 : Addr), CellO oU ∧ TabOk oT c1 o1 c2 o2 ∧ nx = (s1.heap.objs.size + 1 + 1 + 1 + 1 + 1, oU) :: (147, oT) :: (c1, o1) :: (c2, o2) :: nw) rfl ?_ lF7 lN8b ⟨oU, _, _, _, 147, 147, ⟨_, hU⟩, .inl ⟨rfl, rfl, rfl, rfl, rfl⟩, rfl⟩ ?_ ?_ ?_
              · exact .tail _ (.tail _ (.tail _ (.tail _ mT)))
              · rintro i m nx ⟨oU, oT, o1, o2, c1, c2, _, _, rfl⟩
                exact .tail _ (.tail _ (.tail _ (.tail _ mT)))
              · repeat (rename @Ne Nat _ _ ∧ _ => hz; clear hz)
                rintro i v m₁ news₁ h₁ tk₁ oI hno hv hlt hoff ⟨oV, oT, o1, o2, c1, c2, hV, hTab, rfl⟩ F₁ N₁
                change Fr _ s1.heap.objs.size _ _ at F₁
                change News _ s1.heap.objs.size _ _ at N₁
                have hca1 : @Ne Nat c1 (s1.heap.objs.size + 1 + 1 + 1 + 1 + 1) := cell_apart N₁ (by k_mem) (by k_mem) hV (tab_noCell hTab).1
                have hca2 : @Ne Nat c2 (s1.heap.objs.size + 1 + 1 + 1 + 1 + 1) := cell_apart N₁ (by k_mem) (by k_mem) hV (tab_noCell hTab).2
                obtain ⟨zV, hV⟩ := hV
                obtain ⟨u, tu, rfl, hu⟩ := hIU.at i v hv
                obtain ⟨hu2, hu32⟩ := hub u (List.mem_of_getElem? hu)
                have hnI : ∀ p ∈ nw, p.1 < hp7.objs.size := fun p hp => hlt p (.tail _ (.tail _ (.tail _ (.tail _ hp))))
                k_lt hlt
                have hoc1 := hoff (c1, o1) (by k_mem)
                have hoc2 := hoff (c2, o2) (by k_mem)
                dsimp only at hoc1 hoc2
                refine gen_Q2 fun Q₈ hQ₈ => ?_
                k_steps
                refine Hold.out ?_
                k_dflt (refine' says_use (octets_says w DG 0 wsG gaps u _ _ ?om2 hIG ?og2 ?oa2 ?ob2 hgl) ?uB ?uF ?uX ?uN ?uT ?uk ?ud ?uu ?_; walk_at "law use"; (case om2 => k_mem))
                case og2 => intro g hg; have := hgb g hg; omega
                case oa2 => omega
                case ob2 => omega
                rintro v news' h' tk' F' N' ⟨rO, usO, kO, rfl, rfl, husO, hltO⟩
                k_lt hltO
                k_sweep
                k_steps
                refine Hold.out ?_
                k_dflt (refine' saysL_use (read_says w rO kO usO gaps u _ ?rm husO hgb ?ra ?rb hgl) ?uB ?uF ?uX ?uN ?uT ?uk ?ud ?uu ?_; walk_at "law use"; (case rm => k_mem))
                case ra => omega
                case rb => omega
                rintro v news' h' tk' F' N' ⟨rR, usR, kR, rfl, rfl, hIR2, hltR⟩
                k_lt hltR
                k_sweep
                k_steps
                refine Hold.out ?_
                k_dflt (refine' LCg.CompSrc.ledger ?hh7 ?F ?N ?m ?z ?_; (case hh7 => rfl); (case F => k_asm); (case N => k_asm); (case m => k_mem); (case z => (rw [sizeLine_eq, List.size_toArray]; omega)))
                intro g
                refine comp_map (IntAt (gaps.map (numF u))) ?_ ?_
                · intro i v I oI C oC D m₂ ys h tk E' hin hv hC hx F N off ne
                  obtain ⟨g, t, rfl, hgi⟩ := hIG.at i v (by simpa using hv)
                  obtain ⟨hg0, hg1⟩ := hgb g (List.mem_of_getElem? hgi)
                  obtain ⟨hq0, hq9⟩ := wh_bd hg0 hg1 hu2
                  refine gen_Q fun QC hQC => ?_
                  k_steps
                  refine Hold.out ?_
                  rename IsRange _ _ _ _ _ _ _ _ => hrgI
                  k_dflt (refine' LCg.CompSrc.range (n := (Int.fdiv g u).toNat) ?hh8 ?F ?N hrgI ?sm ?rn ?z ?_; (case hh8 => rfl); (case F => k_asm); (case N => k_asm); (case sm => exact small_one (by omega) (by omega) (by omega) (by omega)); (case rn => (rw [rangeSize_nat]; omega)); (case z => (rw [sizeLine_eq]; omega)))
                  intro g'
                  refine comp_map (IntAt ((List.range (Int.fdiv g u).toNat).map fun i => (64 : Int) ^ (i + 1))) ?_ ?_
                  · rintro j v I2 oI2 C2 oC2 D2 m₃ ys2 h2 tk2 E2 hjn ⟨t3, rfl⟩ hC2 hx2 F2 N2 off2 ne2
                    rw [show (1 : Int) + (j : Nat) = ((j + 1 : Nat) : Int) by omega] at hx2
                    have hj9 : j < 9 := by omega
                    refine gen_Q fun QC hQC => ?_
                    k_steps
                    rw [Int.toNat_natCast]
                    refine hQC _ _ ?_
                    refine LCg.CompEnd.intro (by k_asm) (by k_asm) _ (fun p hp => hp) off2 trivial ⟨⟨64 ^ (j + 1), _, by simp [hjn], rfl⟩, rfl⟩
                  · intro ysI hlI hyI
                    have hII := intsAre_of (ys := ysI) (zs := (List.range (Int.fdiv g u).toNat).map fun i => (64 : Int) ^ (i + 1)) (by rw [hlI]; simp) hyI
                    have hsum := pow_sum (Int.fdiv g u).toNat
                    generalize ((List.range (Int.fdiv g u).toNat).map fun i => (64 : Int) ^ (i + 1)) = zsI at *
                    k_steps
                    rw [hsum]
                    refine hQC _ _ ?_
                    refine LCg.CompEnd.intro (by k_asm) (by k_asm) _ (fun p hp => .tail _ hp) off (.inr ⟨_, by k_mem, rfl, _, rfl⟩) ⟨⟨numF u g, _, by simp [hgi], by rw [numF_pow]⟩, rfl⟩
                · intro ysN hlN hyN
                  have hIN := intsAre_of (ys := ysN) (zs := gaps.map (numF u)) (by rw [List.length_map, hlN, List.size_toArray]; exact hIG.length) hyN
                  k_steps
                  refine Hold.out ?_
                  refine ke_ne_ints (News.isList (by k_asm) (by k_mem)) (News.isList (by k_asm) (by k_mem)) hIR2 hIN ?hun ?_
                  case hun => ktr_units
                  rw [show (!decide (gaps.map (numF u) = gaps.map (numF u))) = false by simp]
                  k_steps
                  refine Hold.out ?_
                  rename News _ _ _ _ => lN9
                  have lN10 := law_trim4 lN9
                  clear lN9
                  repeat (rename @Ne Nat _ _ ∧ _ => hz; clear hz)
                  k_dflt (refine' LCg.CompSrc.ledger ?hh9 ?F (N := lN10) ?m ?z ?_; (case hh9 => rfl); (case F => k_asm); (case m => k_mem); (case z => (rw [sizeLine_eq, List.size_toArray, hIR2.length, List.length_map]; omega)))
                  intro g
                  refine comp_map (IntAt gaps) ?_ ?_
                  · intro i v I oI C oC D m₂ ys h tk E' hin hv hC hx F N off ne
                    obtain ⟨n, t, rfl, hni⟩ := hIR2.at i v (by simpa using hv)
                    rw [List.getElem?_map] at hni
                    obtain ⟨g, hgi, rfl⟩ := Option.map_eq_some_iff.mp hni
                    obtain ⟨hg0, hg1⟩ := hgb g (List.mem_of_getElem? hgi)
                    obtain ⟨hq0, hq9⟩ := wh_bd hg0 hg1 hu2
                    have hnb := num_back (size := u) (by omega) hu32 hg0
                    refine gen_Q fun QC hQC => ?_
                    k_steps
                    refine Hold.out ?_
                    k_dflt (refine' says_use (right_says w DP ysP.length ysP powL (numF u g) _ (Int.fdiv g u).toNat _ ?om8 hIP (by decide) ?oa8 ?ob8) ?uB ?uF ?uX ?uN ?uT ?uk ?ud ?uu ?_; walk_at "law use"; (case om8 => k_mem))
                    case oa8 => (rw [show powL.length = 11 by simp [powL]]; omega)
                    case ob8 => exact fun i z hz => num_place (by omega) hu32 i z hz
                    rintro v news' h' tk' F' N' ⟨⟨tz, rfl⟩, rfl⟩
                    have hqb : (((Int.fdiv g u).toNat : Nat) : Int) ≤ 9 := by omega
                    k_steps
                    rw [hnb]
                    refine hQC _ _ ?_
                    refine LCg.CompEnd.intro (by k_asm) (by k_asm) _ (fun p hp => hp) off (.inr ⟨_, by k_mem, rfl, _, rfl⟩) ⟨⟨g, _, hgi, rfl⟩, rfl⟩
                  · intro ysM hlM hyM
                    have hIM := intsAre_of (ys := ysM) (zs := gaps) (by rw [hlM, List.size_toArray, hIR2.length, List.length_map]) hyM
                    k_steps
                    refine Hold.out ?_
                    refine ke_ne_ints (News.isList (by k_asm) (by k_mem)) (News.isList (by k_asm) (by k_mem)) hIM hIG ?hun2 ?_
                    case hun2 => ktr_units
                    rw [show (!decide (gaps = gaps)) = false by simp]
                    k_steps
                    refine Hold.out ?_
                    rename News _ _ _ _ => lN11
                    rename Fr _ _ _ _ => lF11
                    have lN12 := law_trim5 lN11
                    clear lN11
                    repeat (rename @Ne Nat _ _ ∧ _ => hz; clear hz)
                    k_dflt (refine' For_turns ?fF3 ?_ ?fs3; (case fF3 => k_asm); (case fs3 => exact fun _ => rfl))
                    k_steps
                    refine Hold.out ?_
                    rename IsRange _ _ _ _ _ _ _ _ => hrg6
                    rename Fr _ _ _ _ => lF13
                    rename News _ _ _ _ => lN13
                    rename Obj => oV2
                    with_unfolding_all refine loopC_range (n := gaps.length) (fun i m₁ nx => ∃ (oT o1 o2 : Obj) (c1 c2 : Addr), TabOk oT c1 o1 c2 o2 ∧ nx = (hp7.objs.size, oI) :: (s1.heap.objs.size + 1 + 1 + 1 + 1 + 1, oV2) :: (147, oT) :: (c1, o1) :: (c2, o2) :: nw) rfl hrg6 (small_one (by omega) (by omega) (by omega) (by omega)) (by rw [rangeSize_nat]; omega) lF13 lN13 ⟨_, _, _, _, _, hTab, rfl⟩ ?_ ?_
                    · rintro i2 t2 m₂ news₂ h₂ tk₂ oI2 hno2 hi2 hlt2 hoff2 ⟨oT2, p1, p2, e1, e2, hTab2, rfl⟩ F₂ N₂
                      change Fr _ s1.heap.objs.size _ _ at F₂
                      change News _ s1.heap.objs.size _ _ at N₂
                      have hnI2 : ∀ p ∈ nw, p.1 < _ := fun p hp => hlt2 p (.tail _ (.tail _ (.tail _ (.tail _ (.tail _ hp)))))
                      k_lt hlt2
                      rw [Int.zero_add]
                      refine gen_Q2 fun Q₉ hQ₉ => ?_
                      k_steps
                      refine Hold.out ?_
                      rename News _ _ _ _ => lN14
                      k_dflt (refine' says_use (found_says w oT2 e1 p1 e2 p2 hTab2 DG 0 wsG gaps i2 u _ _ _ ?fn ?fm hIG hgb (by omega) hu32 hgl hi2) ?uB ?uF ?uX (law_turn2 lN14) ?uT ?uk ?ud ?uu ?_; (case uB => k_asm); (case uF => k_asm); (case uX => k_asm); (case uT => k_asm); (case uk => first | exact rfl | assumption); (case ud => ktr_room); (case uu => ktr_units); (case fm => k_mem))
                      case fn => k_all
                      rintro v news' h' tk' F' N' ⟨⟨tf, rfl⟩, oT3, e3, p3, e4, p4, hTab3, rfl⟩
                      clear lN14
                      have lN15 := law_turn3 N'
                      clear N'
                      have hap := tab_apart lN15 (by k_mem) (by k_mem) (by k_mem) hTab3 hno2 (by dsimp only; omega)
                      dsimp only at hap
                      obtain ⟨ha1, ha2⟩ := hap
                      k_steps
                      refine Hold.out ?_
                      k_dflt (refine' says_use (most_says w DG 0 wsG gaps i2 u _ _ _ ?mm hIG hgb (by omega) hu32 hgl hi2) ?uB ?uF ?uX ?uN ?uT ?uk ?ud ?uu ?_; walk_at "law use"; (case mm => k_mem))
                      rintro v news' h' tk' F' N' ⟨⟨tg, rfl⟩, rfl⟩
                      k_steps
                      · rename _ ≠ _ => hne
                        exact absurd rfl hne
                      · rename Fr _ _ _ _ => lF16
                        rename News _ _ _ _ => lN16
                        refine hQ₉ _ _ ?_
                        refine turn_next _ lF16 lN16 (by k_mem) (fun p hp => .tail _ hp) ?_ ⟨_, _, _, _, _, hTab3, rfl⟩
                        k_all
                    · rintro m₂ news₂ h₂ tk₂ ⟨oT2, p1, p2, e1, e2, hTab2, rfl⟩ F₂ N₂
                      change Fr _ s1.heap.objs.size _ _ at F₂
                      change News _ s1.heap.objs.size _ _ at N₂
                      have hap := tab_apart N₂ (by k_mem) (by k_mem) (by k_mem) hTab2 hno (by omega)
                      obtain ⟨ha1, ha2⟩ := hap
                      k_steps
                      refine hQ₈ _ _ ?_
                      refine turn_next _ F₂ N₂ (by k_mem) (fun p hp => .tail _ hp) ?_ ⟨oV2, _, _, _, _, _, ⟨_, by assumption⟩, hTab2, rfl⟩
                      k_all
              · rintro m₁ news₁ h₁ tk₁ ⟨oV, oT, o1, o2, c1, c2, hV, hTab, rfl⟩ F₁ N₁
                change Fr _ s1.heap.objs.size _ _ at F₁
                change News _ s1.heap.objs.size _ _ at N₁
                obtain ⟨pq, rfl⟩ := tab_is hTab
                walk1
                walk1
                walk1
                dsimp only
                walk1
                · k_dflt (refine goodW_bool F₁ ?gl (raisesW_false ?gm) ?gn)
                  case gl => assumption
                  case gm => wrow_none_raised
                  case gn => wrow_post
                · exact ⟨GrownAt.of N₁ (by k_mem), GrownAt.of N₁ (by k_mem), trivial⟩
              )
end
end Mine
theorem PySem.Challenge.cw_ty0043_01_holds : PySem.Challenge.rw_ty0043_01.Holds :=
  Mine.law_holds
