import PyProof.Rows.All
import Wide.All
import OpenK.AllK
import Wide.FinOn
import PySem.Challenge.RW_sw0081_01
open PySem PySem.W PyProof.Rows
set_option compiler.extract_closed false
set_option Elab.async false
set_option maxRecDepth 100000
set_option maxHeartbeats 0
namespace Mine
section
local macro_rules | `(tactic| o_head $_) => `(tactic| assumption)
theorem kf : PySem.Challenge.rw_sw0081_01.row.Holds → True := fun h => by
  have _h2 : PySem.Challenge.rw_sw0081_01.row.Holds := by k_head
  trivial
end
theorem law_said : PySem.Challenge.rw_sw0081_01.wellSaid = true := by kernel_rfl
noncomputable def viewQ : Program := view PySem.Challenge.rw_sw0081_01.row.prog [0, 5, 6, 7, 8, 9, 10, 11, 13, 14, 16, 17, 19, 20, 21, 22]
abbrev looseQ : List Str := [Str.ofString "insort_left", Str.ofString "bisect_left", Str.ofString "Whitespace"]
theorem asQ (P : Params) : [2, 3, 15, 17, 18, 20, 21, 22, 23, 24, 26, 27, 29, 30, 31, 32, 33, 35, 36, 38, 39, 40, 42, 43, 45, 46, 47, 49, 50, 52, 53, 54, 56, 57, 59, 60, 61, 63, 64, 66, 67, 68, 70, 71, 73, 74, 75, 77, 78, 80, 81, 82, 84, 85, 87, 88, 99, 101, 102, 104, 105, 106, 108, 109, 111, 112, 113, 115, 116, 118, 119, 120, 122, 123, 125, 126, 127, 129, 130, 132, 133, 134, 136, 137, 139, 140, 141, 143, 144, 146, 147, 148, 149, 150, 151, 152, 155, 157, 158, 160, 161, 162, 164, 165, 167, 168, 169, 171, 172, 174, 175, 176, 179, 180, 181, 184, 185] = (Mine.kf.heap_1 P).map (·.1) := by kernel_rfl
noncomputable abbrev hookQ : Hook := kmHook Mine.kf.heap_1 [2, 3, 15, 17, 18, 20, 21, 22, 23, 24, 26, 27, 29, 30, 31, 32, 33, 35, 36, 38, 39, 40, 42, 43, 45, 46, 47, 49, 50, 52, 53, 54, 56, 57, 59, 60, 61, 63, 64, 66, 67, 68, 70, 71, 73, 74, 75, 77, 78, 80, 81, 82, 84, 85, 87, 88, 99, 101, 102, 104, 105, 106, 108, 109, 111, 112, 113, 115, 116, 118, 119, 120, 122, 123, 125, 126, 127, 129, 130, 132, 133, 134, 136, 137, 139, 140, 141, 143, 144, 146, 147, 148, 149, 150, 151, 152, 155, 157, 158, 160, 161, 162, 164, 165, 167, 168, 169, 171, 172, 174, 175, 176, 179, 180, 181, 184, 185] asQ [62, 55, 156]
noncomputable abbrev xtQ (s : Shared) : Bool := xlAt viewQ [] s && recOk (RowW.records (OpenRow.toRowW PySem.Challenge.rw_sw0081_01.row)) s
abbrev leftQ (w : World) : Prop := (openEnds treeTable PySem.Challenge.rw_sw0081_01.row.prog w 2248).map (fun s => (openSeen viewQ looseQ (importedModules PySem.Challenge.rw_sw0081_01.row.prog.main.body) xtQ true s, hookQ.obs s)) = some (openGood viewQ looseQ, hookQ.val w)
theorem left0 (w : World) : leftQ (w.withFollow "special-get-raises" false) := by kernel_rfl
theorem left1 (w : World) : leftQ (w.withFollow "special-get-raises" true) := by kernel_rfl
section
local macro_rules | `(tactic| o_law) => `(tactic| refine holds_law Mine.law_said fun said => ?_)
local macro_rules | `(tactic| k_head) => `(tactic|
  refine holds_open (q := Mine.viewQ) (loose := Mine.looseQ) (Xt := Mine.xtQ) (XP := XL Mine.viewQ []) (Yf := Mine.hookQ.obs) (Ya := Mine.hookQ.val) (YP := Mine.hookQ.says) (N := 2248) (byRow2 "special-get-raises" Mine.left0 Mine.left1) Mine.hookQ.of Mine.hookQ.keeps (fun s e => xl_of s (Bool.and_eq_true_iff.mp e).1) XL.keeps (by rfl) (by rfl) (by rfl) (fun s e => recFacts_of (Bool.and_eq_true_iff.mp e).2) (by rfl) (by first | assumption | decide +kernel) (by decide +kernel) ⟨rfl, rfl, rfl, rfl, rfl, by decide +kernel⟩ ?hw ?hc)
open_top hd for PySem.Challenge.rw_sw0081_01
end
end Mine
namespace Mine
abbrev listV (vs : List Value) (n : Nat) : Obj := listOf vs.toArray n
abbrev tupV (vs : List Value) (n : Nat) : Obj := { cls := .type "tuple", data := .seq vs.toArray n }
noncomputable abbrev KF (w : World) : Frag := Mine.kf.heap_1 w.params
abbrev MM (w : World) : Model := model PySem.Challenge.rw_sw0081_01.row.prog w
structure Cx (d : Nat) (w : World) (p : Program) (loose : List Str) (mean : ExcName → Option Value) (mg mb : Str → Option Value) (A : Around) (h₀ h : Heap) : Prop where
  X : (Mine.kf.heap_1 w.params).In h₀
  T : Top p loose mean mg mb h₀
  k : ∀ b o, h₀.get? b = some o → h.get? b = some o
  sz : h₀.objs.size ≤ h.objs.size
  hd : A.depth + d < recursionLimit
  hu : A.units + 10 * d < cLine
  fr : ∃ l, A.frames = some l
  hh : A.handled = none
  c1 : CodeHd h₀ 66 62
  c2 : CodeHd h₀ 59 55
  c3 : CodeHd h₀ 160 156
theorem Cx.fill {d : Nat} {w : World} {p : Program} {loose : List Str} {mean : ExcName → Option Value} {mg mb : Str → Option Value} {A : Around} {h₀ h : Heap} (C : Cx d w p loose mean mg mb A h₀ h) :
    (Mine.kf.heap_1 w.params).In h₀ ∧ PySem.Challenge.rw_sw0081_01 = PySem.Challenge.rw_sw0081_01 := ⟨C.X, rfl⟩
theorem hideG {G : Prop} (k : ∀ X : Prop, (G → X) → X) : G := k G id
theorem cLine_val : cLine = 9900 := rfl
theorem rl_val : recursionLimit = 1000 := rfl
section
variable {w : World} {p : Program} {loose : List Str} {mean : ExcName → Option Value} {mg mb : Str → Option Value} {A : Around} {h₀ : Heap} {s : Shared} {Q E : Value → Shared → Prop}
  {name qual : Str} {params : Arguments} {body : List Stmt} {scope : Scope} {cl : List (Str × Addr)} {dV kV doc pm cdv ct oc : Value} {an od : Option Addr} {osl : Array (Option Value)} {f : Addr} {fo : Obj}
  {pos : List Value} {kw : List (Str × Value)} {binds : List (Str × Value)}
theorem enterX (ho : s.heap.get? f = some fo) (hd : fo.data = .func (fnX name qual params body scope cl dV kV doc pm an cdv ct)) (hcd : s.heap.CodeRec cdv qual) (hroom : A.depth < recursionLimit) (hlim : s.heap.NoLimit)
    (hbind : BindsTo s (fnX name qual params body scope cl dV kV doc pm an cdv ct) ⟨pos, kw⟩ binds) (hloc : ∀ y ∈ binds, scope.names.lookup y.1 = some .local)
    (h : ∀ h₁, Fr s.heap s.heap.objs.size h₁ (fun y => binds.reverse.lookup y) →
      wpAny (MM w) (A.deeper (envX qual scope s.heap.objs.size f cdv cl)) (execs body (envX qual scope s.heap.objs.size f cdv cl))
        (fun fl s' => Q (match fl with | .ret v => v | _ => .none) s') (fun _ _ => False) { s with heap := h₁, toks := s.toks + binds.length })
    (hcell : ∀ x ∈ scope.names, x.2 ≠ .cell) (hco : scope.isCoroutine = false) (hgen : scope.isGenerator = false) (hk : scope.kind = .function) :
    wpAny (MM w) A (call (.ref f) pos kw) Q E s := by
  refine wpAny_call ?_
  refine codeAny_call_def (fd := fnX name qual params body scope cl dV kV doc pm an cdv ct) (body := body) (binds := binds) hroom ho hd hlim hcd rfl hbind hcell hloc (fun h₁ hns hk₁ => ?_) hco hgen hk
  refine wpAny_mono (h h₁ ⟨hns, hk₁, Nat.le_refl _⟩) (fun fl s' q => ?_) fun _ _ q => q.elim
  cases fl <;> exact q
/-- a def of the top, without cells of its own, entered over the base h₀ -/
theorem enterK {d : Nat} (C : Cx d w p loose mean mg mb A h₀ s.heap) (ho : (Mine.kf.heap_1 w.params).lookup f = some ⟨oc, od, .func (fnOf name qual params body scope dV kV doc pm an cdv ct), osl⟩) (hcd : codeIn (Mine.kf.heap_1 w.params) cdv qual = true)
    (hbind : ∀ S, peek (Mine.kf.heap_1 w.params) S (bindArgs (fnOf name qual params body scope dV kV doc pm an cdv ct) ⟨pos, kw⟩) = some binds) (hloc : ∀ y ∈ binds, scope.names.lookup y.1 = some .local)
    (h : ∀ L h₁, Fr h₀ L h₁ (fun y => binds.reverse.lookup y) → Fr s.heap L h₁ (fun y => binds.reverse.lookup y) →
      wpAny (MM w) (A.deeper (envOf qual scope L f cdv)) (execs body (envOf qual scope L f cdv))
        (fun fl s' => Q (match fl with | .ret v => v | _ => .none) s') (fun _ _ => False) { s with heap := h₁, toks := s.toks + binds.length })
    (hcell : ∀ x ∈ scope.names, x.2 ≠ .cell) (hco : scope.isCoroutine = false) (hgen : scope.isGenerator = false) (hk : scope.kind = .function) :
    wpAny (MM w) A (call (.ref f) pos kw) Q E s :=
  enterX (cl := []) (fo := ⟨oc, od, .func (fnOf name qual params body scope dV kV doc pm an cdv ct), osl⟩) (C.k _ _ (C.X _ _ ho)) rfl (codeRec_of (C.X.keeps C.k) hcd) (by have := C.hd; (first | lia | omega)) (C.T.nolimit.keeps C.k)
    (kp_binds (C.X.keeps C.k) hbind) hloc (fun h₁ F => h _ h₁ ⟨F.ns, fun b o e => F.keep b o (C.k b o e), Nat.le_trans C.sz F.above⟩ F) hcell hco hgen hk
end
section
variable {d : Nat} {w : World} {p : Program} {loose : List Str} {mean : ExcName → Option Value} {mg mb : Str → Option Value} {A : Around} {h₀ : Heap} {s : Shared} {Q E : Value → Shared → Prop}
  {name qual : Str} {params : Arguments} {body : List Stmt} {scope : Scope} {dV kV doc pm cdv ct oc : Value} {an od : Option Addr} {osl : Array (Option Value)} {f : Addr}
  {pos : List Value} {kw : List (Str × Value)} {binds : List (Str × Value)}
/-- a def of the top with cells of its own -/
theorem enterC (C : Cx d w p loose mean mg mb A h₀ s.heap) (ho : (Mine.kf.heap_1 w.params).lookup f = some ⟨oc, od, .func (fnOf name qual params body scope dV kV doc pm an cdv ct), osl⟩) (hcd : codeIn (Mine.kf.heap_1 w.params) cdv qual = true)
    (hbind : ∀ S, peek (Mine.kf.heap_1 w.params) S (bindArgs (fnOf name qual params body scope dV kV doc pm an cdv ct) ⟨pos, kw⟩) = some binds)
    (hkind : (binds.all fun y => scope.names.lookup y.1 == some .local || scope.names.lookup y.1 == some .cell) = true) (hnd : ((cellsFrom 0 scope.names []).map (·.1)).Nodup)
    (h : ∀ L h₁ tk cells, Fr s.heap L h₁ (bindL (envOfC qual scope L f cdv).kindOf binds fun _ => none) → News s.heap L h₁ cells →
      CellsAre (bindC (envOfC qual scope L f cdv).kindOf binds fun _ => none) (cellsFrom (L + 1) scope.names []) cells →
      wpAny (MM w) (A.deeper (envOfC qual scope L f cdv)) (execs body (envOfC qual scope L f cdv))
        (fun fl s' => Q (match fl with | .ret v => v | _ => .none) s') (fun _ _ => False) { s with heap := h₁, toks := tk })
    (hco : scope.isCoroutine = false) (hgen : scope.isGenerator = false) (hk : scope.kind = .function) :
    wpAny (MM w) A (call (.ref f) pos kw) Q E s := by
  refine wpAny_call ?_
  refine codeAny_call_function (fd := fnOf name qual params body scope dV kV doc pm an cdv ct) (body := body) (by have := C.hd; (first | lia | omega)) (C.k _ _ (C.X _ _ ho)) rfl hco hgen rfl (codeRec_of (C.X.keeps C.k) hcd) (kp_binds (C.X.keeps C.k) hbind _ _ _ _ ?_)
  refine wpAny_newFunctionEnv_cells hk (kindsX hkind _) fun env' he s' x => ?_
  subst he
  refine ⟨(C.T.nolimit.keeps C.k).keeps x.toInCall.keep, codeAny_func ?_⟩
  obtain ⟨h₁, tk, rfl, _⟩ := x.done
  have hk₁ := x.toInCall.keep
  obtain ⟨cells, NC, Y⟩ := Cl.news (h₀ := s.heap) (Nat.le_refl _) fun n c hm => ⟨x.cell n c (lookup_of_mem_nodup (cellsFrom_names scope.names 0 (s.heap.objs.size + 1) [] [] rfl ▸ hnd) hm), x.above n c hm⟩
  refine wpAny_mono (h s.heap.objs.size h₁ tk cells ⟨x.toInCall.ns, hk₁, Nat.le_refl _⟩ NC Y) (fun fl s' q => ?_) fun _ _ q => q.elim
  cases fl <;> exact q
end
section
variable {g h h' : Heap} {L : Addr} {m : Str → Option Value} {news : List (Addr × Obj)}
theorem Fr.ext (F : Fr g L h m) (hk : ∀ b o, h.get? b = some o → h'.get? b = some o) : Fr g L h' m := by
  obtain ⟨⟨o, es, ep, a, b, c, d⟩, k, ab⟩ := F
  exact ⟨⟨o, es, ep, hk _ _ a, b, c, d⟩, fun b o e => hk _ _ (k _ _ e), ab⟩
theorem News.ext (N : News g L h news) (hk : ∀ b o, h.get? b = some o → h'.get? b = some o) : News g L h' news := fun p hp => ⟨hk _ _ (N p hp).1, (N p hp).2⟩
theorem size_le_of (hk : ∀ b o, h.get? b = some o → h'.get? b = some o) {a : Addr} {o : Obj} (e : h.get? a = some o) : a < h'.objs.size := Heap.lt_size (hk _ _ e)
end
section
variable {w : World} {p : Program} {loose : List Str} {mean : ExcName → Option Value} {mg mb : Str → Option Value} {A : Around} {h₀ h h' g : Heap} {L : Addr} {m : Str → Option Value} {news : List (Addr × Obj)}
/-- the context of a frame of a def that was called in the context C -/
theorem Cx.inner {d : Nat} (C : Cx (d + 1) w p loose mean mg mb A h₀ h) (env : Env) (hk : ∀ b o, h₀.get? b = some o → g.get? b = some o) (F : Fr g L h' m) : Cx d w p loose mean mg mb (A.deeper env) g h' :=
  ⟨C.X.keeps hk, C.T.keeps hk, F.keep, Nat.le_trans F.above (Nat.le_of_lt (by obtain ⟨o, _, _, a, _⟩ := F.ns; exact Heap.lt_size a)), by have := C.hd; show A.depth + 1 + d < _; (first | lia | omega), by have := C.hu; show A.units + 3 + 10 * d < _; (first | lia | omega),
   by obtain ⟨l, e⟩ := C.fr; exact ⟨env :: l, by show A.frames.map _ = _; rw [e]; rfl⟩, C.hh, C.c1.keeps hk, C.c2.keeps hk, C.c3.keeps hk⟩
end
/-- what the end of a loop's turn shows -/
noncomputable def Turned (h₀ : Heap) (L I : Addr) (oI : Obj) (J : (Str → Option Value) → List (Addr × Obj) → Prop) (s : Shared) (Q : Flow → Shared → Prop) (f : Flow) (s₂ : Shared) : Prop := match f with
  | .next | .cont => ∃ h' tk' m' news', s₂ = { s with heap := h', toks := tk' } ∧ Fr h₀ L h' m' ∧ News h₀ L h' ((I, oI) :: news') ∧ (∀ p ∈ news', p.1 ≠ I) ∧ J m' news'
  | .brk => Q .next s₂
  | .ret v => Q (.ret v) s₂
theorem Turned.mk {h₀ h' : Heap} {L I : Addr} {oI : Obj} {J : (Str → Option Value) → List (Addr × Obj) → Prop} {s : Shared} {Q : Flow → Shared → Prop} {tk : Nat} {m' : Str → Option Value} {news' : List (Addr × Obj)}
    (F : Fr h₀ L h' m') (N : News h₀ L h' ((I, oI) :: news')) (hd : ∀ p ∈ news', p.1 ≠ I) (hJ : J m' news') : Turned h₀ L I oI J s Q .next { s with heap := h', toks := tk } := ⟨h', tk, m', news', rfl, F, N, hd, hJ⟩
section
variable {prog : Program} {w : World} {A : Around} {s : Shared} {env : Env} {h₀ : Heap} {L : Addr} {x : Str} {px : Pos} {body : List Stmt} {Q : Flow → Shared → Prop} {m : Str → Option Value} {news : List (Addr × Obj)}
theorem floop {I : Addr} {fp : List Addr} {n : Nat} {P : Nat → Value → Prop} {St : Nat → Heap → Prop} (W : Walks prog w A I fp [I] n P St)
    (hlive : ∀ i h, St i h → ∃ o, h.get? I = some o) (hfp : ∀ b ∈ fp, b = I ∨ ∃ o, h₀.get? b = some o) (hI0 : h₀.get? I = none) (hLI : I ≠ L)
    (hx : env.kindOf x = some .local) (hp : (env.scope.kind == .class || (env.scope.kind == .module && env.locals != env.globals)) = false) (hL : env.locals = L)
    (J : Nat → (Str → Option Value) → List (Addr × Obj) → Prop) (hst : St 0 s.heap) (F : Fr h₀ L s.heap m) (N : News h₀ L s.heap news) (hoff : ∀ p ∈ news, p.1 ≠ I) (J0 : J 0 m news)
    (turn : ∀ i v m₁ news₁ h tk oI, i < n → P i v → J i m₁ news₁ → (∀ p ∈ news₁, p.1 ≠ I) → Fr h₀ L h (fun y => if y = x then some v else m₁ y) → News h₀ L h ((I, oI) :: news₁) →
      wpAny (model prog w) A (execs body env) (Turned h₀ L I oI (J (i + 1)) s Q) (fun _ _ => False) { s with heap := h, toks := tk })
    (done : ∀ m₁ news₁ h tk, J n m₁ news₁ → Fr h₀ L h m₁ → News h₀ L h news₁ → Q .next { s with heap := h, toks := tk }) :
    codeAny (model prog w) A (.forLoop (.Name x px) (.ref I) body [] env) (fun r s' => match r with | .ok f => Q f s' | .error _ => False) s := by
  subst hL
  refine codeAny_forLoop
    (fun k s' => ∃ h' tk m' news' i, s' = { s with heap := h', toks := tk } ∧ St i h' ∧ Fr h₀ env.locals h' m' ∧ News h₀ env.locals h' news' ∧ (∀ p ∈ news', p.1 ≠ I) ∧ J i m' news' ∧ i ≤ n ∧ k = n + 1 - i) ?_ (n + 1)
    ⟨s.heap, s.toks, m, news, 0, rfl, hst, F, N, hoff, J0, Nat.zero_le _, rfl⟩
  rintro k s' ⟨h', tk, m', news', i, rfl, hst', F', N', hoff', hJ, hi, rfl⟩
  have next : ∀ h₁ : Heap, (∀ b o, b ∉ [I] → h'.get? b = some o → h₁.get? b = some o) → Fr h₀ env.locals h₁ m' ∧ News h₀ env.locals h₁ news' := fun h₁ hk₁ =>
    ⟨⟨F'.ns.at' fun o e => hk₁ _ o (by simpa using Ne.symm hLI) e, fun b o e => hk₁ b o (by rintro hb; rw [List.mem_singleton.mp hb, hI0] at e; cases e) (F'.keep b o e), F'.above⟩,
     fun p hp => ⟨hk₁ _ _ (by simpa using hoff' p hp) (N' p hp).1, (N' p hp).2⟩⟩
  by_cases hlt : i < n
  · refine W.item i _ _ _ hlt hst' fun v h₁ tk₁ hP hst₁ hk₁ => ?_
    obtain ⟨F₁, N₁⟩ := next h₁ hk₁
    obtain ⟨oI, hoI⟩ := hlive _ _ hst₁
    refine wpAny_assign_Name (wpAny_storeName_local hx F₁.ns (fun h₂ hn₂ hs₂ => ?_) hp)
    have F₂ := F₁.set hn₂ hs₂
    have N₂ : News h₀ env.locals h₂ ((I, oI) :: news') := List.forall_mem_cons.mpr ⟨⟨(hs₂.2 I hLI).trans hoI, hLI, hI0⟩, N₁.set hs₂⟩
    refine wpAny_mono (turn i v m' news' h₂ _ oI hlt hP hJ hoff' F₂ N₂) (fun f s₃ h₃ => ?_) fun _ _ e => e.elim
    have step : (∃ h' tk' m' news'', s₃ = { s with heap := h', toks := tk' } ∧ Fr h₀ env.locals h' m' ∧ News h₀ env.locals h' ((I, oI) :: news'') ∧ (∀ p ∈ news'', p.1 ≠ I) ∧ J (i + 1) m' news'') → ∃ m_1, m_1 < n + 1 - i ∧ ∃ h' tk m' news' i, s₃ = { s with heap := h', toks := tk } ∧ St i h' ∧ Fr h₀ env.locals h' m' ∧ News h₀ env.locals h' news' ∧ (∀ p ∈ news', p.1 ≠ I) ∧ J i m' news' ∧ i ≤ n ∧ m_1 = n + 1 - i := by
      rintro ⟨h₃', tk₃, m₃, news₃, rfl, F₃, N₃, hd₃, hJ₃⟩
      refine ⟨n + 1 - (i + 1), by (first | lia | omega), h₃', tk₃, m₃, news₃, i + 1, rfl, W.frame _ _ _ hst₁ fun b hb o e => ?_, F₃, fun p hp => N₃ p (.tail _ hp), hd₃, hJ₃, hlt, rfl⟩
      rcases hfp b hb with rfl | ⟨o₀, h0⟩
      · rw [hoI] at e; cases e; exact (N₃ _ (.head _)).1
      · have : o₀ = o := by have := F₁.keep b o₀ h0; rw [e] at this; exact (Option.some.inj this).symm
        exact this ▸ F₃.keep b o₀ h0
    cases f with
    | next => exact step h₃
    | cont => exact step h₃
    | brk => exact h₃
    | ret v => exact h₃
  · have hin : i = n := by (first | lia | omega)
    subst hin
    refine W.done _ _ _ hst' fun h₁ tk₁ hk₁ => wpAny_execs_nil ?_
    obtain ⟨F₁, N₁⟩ := next h₁ hk₁
    exact done m' news' h₁ tk₁ hJ F₁ N₁
/-- the loop behind the making of its iterator -/
theorem for_walk {oI₀ : Obj} {fp : List Addr} {n : Nat} {P : Nat → Value → Prop} {St : Nat → Heap → Prop} (W : Walks prog w A s.heap.objs.size fp [s.heap.objs.size] n P St)
    (hlive : ∀ i h, St i h → ∃ o, h.get? s.heap.objs.size = some o) (hfp : ∀ b ∈ fp, b = s.heap.objs.size ∨ ∃ o, h₀.get? b = some o)
    (hx : env.kindOf x = some .local) (hp : (env.scope.kind == .class || (env.scope.kind == .module && env.locals != env.globals)) = false) (hL : env.locals = L)
    (J : Nat → (Str → Option Value) → List (Addr × Obj) → Prop) (hst : St 0 (s.heap.push oI₀)) (F : Fr h₀ L s.heap m) (N : News h₀ L s.heap news) (J0 : J 0 m news)
    (turn : ∀ I i v m₁ news₁ h tk oI, i < n → P i v → (∀ p ∈ news, p.1 < I) → J i m₁ news₁ → (∀ p ∈ news₁, p.1 ≠ I) → Fr h₀ L h (fun y => if y = x then some v else m₁ y) → News h₀ L h ((I, oI) :: news₁) →
      wpAny (model prog w) A (execs body env) (Turned h₀ L I oI (J (i + 1)) s Q) (fun _ _ => False) { s with heap := h, toks := tk })
    (done : ∀ m₁ news₁ h tk, J n m₁ news₁ → Fr h₀ L h m₁ → News h₀ L h news₁ → Q .next { s with heap := h, toks := tk }) :
    codeAny (model prog w) A (.forLoop (.Name x px) (.ref s.heap.objs.size) body [] env) (fun r s' => match r with | .ok f => Q f s' | .error e => cameBackBy (model prog w) A env (fun _ _ => False) e s') { s with heap := s.heap.push oI₀ } := by
  refine codeAny_mono (floop (s := { s with heap := s.heap.push oI₀ }) W hlive hfp (next_is_new F) (Nat.ne_of_gt F.ns.lt) hx hp hL J hst (F.push _) (fun p hp => ⟨Heap.get?_push_of_some _ (N p hp).1, (N p hp).2⟩)
    (fun p hp => Nat.ne_of_lt (Heap.lt_size (N p hp).1)) J0 (fun i v m₁ news₁ h tk oI hi hP hJ ho F' N' => turn _ i v m₁ news₁ h tk oI hi hP (fun p hp => Heap.lt_size (N p hp).1) hJ ho F' N') done) ?_
  intro r s' h
  cases r with
  | ok f => exact h
  | error e => exact h.elim
abbrev ForGoal (prog : Program) (w : World) (A : Around) (env : Env) (x : Str) (px : Pos) (body : List Stmt) (Q : Flow → Shared → Prop) (v : Value) (s : Shared) : Prop :=
    wpAny (model prog w) A (pyIter v) (fun it s₂ => codeAny (model prog w) A (.forLoop (.Name x px) it body [] env) (fun r s' => match r with | .ok f => Q f s' | .error e => cameBackBy (model prog w) A env (fun _ _ => False) e s') s₂) (fun _ _ => False) s
abbrev ForTurn (prog : Program) (w : World) (A : Around) (env : Env) (x : Str) (body : List Stmt) (Q : Flow → Shared → Prop) (s : Shared) (h₀ : Heap) (L : Addr) (news : List (Addr × Obj)) (n : Nat) (P : Nat → Value → Prop) (J : Nat → (Str → Option Value) → List (Addr × Obj) → Prop) : Prop :=
  ∀ I i v m₁ news₁ h tk oI, i < n → P i v → (∀ p ∈ news, p.1 < I) → J i m₁ news₁ → (∀ p ∈ news₁, p.1 ≠ I) → Fr h₀ L h (fun y => if y = x then some v else m₁ y) → News h₀ L h ((I, oI) :: news₁) →
      wpAny (model prog w) A (execs body env) (Turned h₀ L I oI (J (i + 1)) s Q) (fun _ _ => False) { s with heap := h, toks := tk }
/-- the loop's head over a list of the base -/
theorem for_list {l : Addr} {vs : List Value} (J : Nat → (Str → Option Value) → List (Addr × Obj) → Prop) (hh : A.handled = none) (hl : h₀.IsList l vs.toArray)
    (hx : env.kindOf x = some .local) (hp : (env.scope.kind == .class || (env.scope.kind == .module && env.locals != env.globals)) = false) (hL : env.locals = L)
    (F : Fr h₀ L s.heap m) (N : News h₀ L s.heap news) (J0 : J 0 m news)
    (turn : ForTurn prog w A env x body Q s h₀ L news vs.length (fun i v => vs[i]? = some v) J)
    (done : ∀ m₁ news₁ h tk, J vs.length m₁ news₁ → Fr h₀ L h m₁ → News h₀ L h news₁ → Q .next { s with heap := h, toks := tk }) :
    ForGoal prog w A env x px body Q (.ref l) s := by
  have hls : s.heap.IsList l vs.toArray := hl.at fun o e => F.keep l o e
  obtain ⟨ol, hol, _⟩ := id hl
  have hlt : l < s.heap.objs.size := Heap.lt_size (F.keep _ _ hol)
  have W := Walks.list (prog := prog) (w := w) hh s.heap.objs.size l (Nat.ne_of_lt hlt) vs.toArray
  rw [List.size_toArray] at W
  refine wpAny_pyIter_list hls (for_walk W (fun i h st => by obtain ⟨⟨o, ho, _⟩, _⟩ := st; exact ⟨o, ho⟩) (fun b hb => ?_) hx hp hL J ⟨⟨_, Heap.get?_push_size _ rfl, rfl, rfl⟩, hls.at fun o e => Heap.get?_push_of_some _ e⟩ F N J0
    (fun I i v m₁ news₁ h tk oI hi hP hI hJ ho F' N' => turn I i v m₁ news₁ h tk oI hi (by simpa using hP) hI hJ ho F' N') done)
  rcases List.mem_cons.mp hb with rfl | hb
  · exact .inl rfl
  · rw [List.mem_singleton.mp hb]; exact .inr ⟨_, hol⟩
theorem for_range {r : Addr} {a b : Int} {t u v : Tok} (n : Nat) (J : Nat → (Str → Option Value) → List (Addr × Obj) → Prop) (hh : A.handled = none) (hr : IsRange s.heap r a b 1 t u v) (hn : n = (b - a).toNat) (ha : -(2 ^ 62) < a ∧ a < 2 ^ 62) (hb : -(2 ^ 62) < b ∧ b < 2 ^ 62)
    (hx : env.kindOf x = some .local) (hp : (env.scope.kind == .class || (env.scope.kind == .module && env.locals != env.globals)) = false) (hL : env.locals = L)
    (F : Fr h₀ L s.heap m) (N : News h₀ L s.heap news) (J0 : J 0 m news)
    (turn : ForTurn prog w A env x body Q s h₀ L news n (fun i v => ∃ t, v = .int (a + i) t) J)
    (done : ∀ m₁ news₁ h tk, J n m₁ news₁ → Fr h₀ L h m₁ → News h₀ L h news₁ → Q .next { s with heap := h, toks := tk }) :
    ForGoal prog w A env x px body Q (.ref r) s := by
  have hs : Builtin.Range.rangeSize a b 1 = n := by
    unfold Builtin.Range.rangeSize
    rw [if_pos (by decide), hn]
    split <;> (first | lia | omega)
  have hsm : Builtin.Range.small a b 1 = true := by
    unfold Builtin.Range.small
    rw [hs]
    simp only [Builtin.Range.rangeFitsLong, Bool.and_eq_true, Bool.or_eq_true, decide_eq_true_eq, beq_iff_eq, show (1 : Int) > 0 by decide, if_true]
    (first | lia | omega)
  have W := Walks.range (prog := prog) (w := w) hh s.heap.objs.size a 1 n
  refine wpAny_pyIter_range hr hsm (for_walk W (fun i h st => ⟨_, st⟩) (fun b hb => .inl (List.mem_singleton.mp hb)) hx hp hL J ?_ F N J0
    (fun I i v m₁ news₁ h tk oI hi hP hI hJ ho F' N' => turn I i v m₁ news₁ h tk oI hi (by simpa using hP) hI hJ ho F' N') done)
  rw [hs]
  have := Heap.get?_push_size s.heap (o := { cls := .type "range_iterator", data := .fields #[rawInt a, rawInt n, rawInt 1] }) rfl
  simpa [IsRangeIter] using this
theorem for_rev {l I : Addr} {vs : List Value} (J : Nat → (Str → Option Value) → List (Addr × Obj) → Prop) (hh : A.handled = none) (hl : h₀.IsList l vs.toArray) (hr : (I, revObj l ((vs.length : Int) - 1)) ∈ news)
    (hx : env.kindOf x = some .local) (hp : (env.scope.kind == .class || (env.scope.kind == .module && env.locals != env.globals)) = false) (hL : env.locals = L) {rest : List (Addr × Obj)} (hrest : ∀ p ∈ rest, p ∈ news) (hoff : ∀ p ∈ rest, p.1 ≠ I)
    (F : Fr h₀ L s.heap m) (N : News h₀ L s.heap news) (J0 : J 0 m rest)
    (turn : ∀ i v m₁ news₁ h tk oI, i < vs.length → vs[vs.length - 1 - i]? = some v → J i m₁ news₁ → (∀ p ∈ news₁, p.1 ≠ I) → Fr h₀ L h (fun y => if y = x then some v else m₁ y) → News h₀ L h ((I, oI) :: news₁) →
      wpAny (model prog w) A (execs body env) (Turned h₀ L I oI (J (i + 1)) s Q) (fun _ _ => False) { s with heap := h, toks := tk })
    (done : ∀ m₁ news₁ h tk, J vs.length m₁ news₁ → Fr h₀ L h m₁ → News h₀ L h news₁ → Q .next { s with heap := h, toks := tk }) :
    ForGoal prog w A env x px body Q (.ref I) s := by
  have hls : s.heap.IsList l vs.toArray := hl.at fun o e => F.keep l o e
  obtain ⟨ol, hol, _⟩ := id hl
  have hI := N _ hr
  have hne : l ≠ I := fun e => by rw [← e] at hI; rw [hI.2.2] at hol; cases hol
  have W := Walks.listRev (prog := prog) (w := w) hh I l hne vs.toArray
  have hst : (0 : Nat) ≤ vs.toArray.size ∧ s.heap.IsRevIter I l ((vs.toArray.size : Int) - 1 - ((0 : Nat) : Int)) ∧ s.heap.IsList l vs.toArray := ⟨Nat.zero_le _, ⟨_, hI.1, rfl, by simp [revObj, rawInt]⟩, hls⟩
  refine wpAny_pyIter_revIter hst.2.1 (codeAny_mono (floop W (fun i h st => by obtain ⟨_, ⟨o, ho, _⟩, _⟩ := st; exact ⟨o, ho⟩) (fun b hb => ?_) hI.2.2 hI.2.1 hx hp hL (fun i => J i) hst F (fun p hp => N p (hrest p hp)) hoff J0 (fun i v m₁ news₁ h tk oI hi hP hJ ho F' N' => turn i v m₁ news₁ h tk oI (by simpa using hi) (by simpa using hP) hJ ho F' N') (by rw [List.size_toArray]; exact done)) ?_)
  · rcases List.mem_cons.mp hb with rfl | hb
    · exact .inl rfl
    · rw [List.mem_singleton.mp hb]; exact .inr ⟨_, hol⟩
  · intro r s' h
    cases r with
    | ok f => exact h
    | error e => exact h.elim
theorem for_str {y : Str} {t : Tok} (J : Nat → (Str → Option Value) → List (Addr × Obj) → Prop) (hh : A.handled = none) (ha : y.cps.all (· < 128) = true)
    (hx : env.kindOf x = some .local) (hp : (env.scope.kind == .class || (env.scope.kind == .module && env.locals != env.globals)) = false) (hL : env.locals = L)
    (F : Fr h₀ L s.heap m) (N : News h₀ L s.heap news) (J0 : J 0 m news)
    (turn : ForTurn prog w A env x body Q s h₀ L news y.cps.size (fun i v => ∃ c u, y.cps[i]? = some c ∧ v = .str ⟨#[c]⟩ u) J)
    (done : ∀ m₁ news₁ h tk, J y.cps.size m₁ news₁ → Fr h₀ L h m₁ → News h₀ L h news₁ → Q .next { s with heap := h, toks := tk }) :
    ForGoal prog w A env x px body Q (.str y t) s := by
  refine wpAny_pyIter_ascii ha ?_
  have W := Walks.strAscii (prog := prog) (w := w) hh s.heap.objs.size y t
  exact for_walk W (fun i h st => by obtain ⟨o, ho, _⟩ := st; exact ⟨o, ho⟩) (fun b hb => .inl (List.mem_singleton.mp hb)) hx hp hL J ⟨_, Heap.get?_push_size _ rfl, rfl, rfl⟩ F N J0 turn done
theorem append_L {D : Addr} {vs : List Value} {n : Nat} {v : Value} {news' : List (Addr × Obj)} {Q : Value → Shared → Prop} {E : Value → Shared → Prop} (F : Fr h₀ L s.heap m) (N : News h₀ L s.heap news) (U : Upd D (listV vs n) (listV (vs ++ [v]) (n + 1)) news news')
    (h : ∀ h', Fr h₀ L h' m → News h₀ L h' news' → Q .none { s with heap := h' }) (hsz : vs.length ≤ 100000) : wpAny (model prog w) A (call (.builtin "list.append") [.ref D, v]) Q E s :=
  append_K F N (by rw [List.push_toArray]; exact U) h (by rw [List.size_toArray, show sizeLine = 16777216 from rfl]; (first | lia | omega))
theorem del_L {D : Addr} {vs : List Value} {n k : Nat} {i : Int} {u : Tok} {news' : List (Addr × Obj)} {Q : Unit → Shared → Prop} {E : Value → Shared → Prop} (F : Fr h₀ L s.heap m) (N : News h₀ L s.heap news)
    (U : Upd D (listV vs n) (listV (vs.eraseIdx k) (n + 1)) news news') (hfit : Builtin.List.listFitsIndex i = true) (hk : seqIndex? i vs.length = some k) (hk' : k < vs.length)
    (h : ∀ h', Fr h₀ L h' m → News h₀ L h' news' → Q () { s with heap := h' }) (hsz : vs.length ≤ 100000) : wpAny (model prog w) A (delItem (.ref D) (.int i u)) Q E s := by
  obtain ⟨pre, post, rfl, rfl, a, b⟩ := U.split
  have z := N (D, listV vs n) (List.mem_append.mpr (.inr (.head _)))
  refine P.delItem_list (n := n) z.1 hfit (by rw [List.size_toArray]; exact hk) (h _ (F.change (Heap.SameBut.update ..) z.2.1 z.2.2) (news_set N a b (Heap.SameBut.update ..) ?_)) (by rw [List.size_toArray, show sizeLine = 16777216 from rfl]; (first | lia | omega))
  have q := PySem.IsL.update z.1 (fun xs => xs.eraseIdxIfInBounds k)
  have e : vs.toArray.eraseIdxIfInBounds k = (vs.eraseIdx k).toArray := by
    rw [Array.eraseIdxIfInBounds, dif_pos (by simpa using hk')]
    apply Array.toList_inj.mp
    simp
  rw [e] at q
  rw [if_neg (by simp [List.length_eraseIdx, hk']; (first | lia | omega))] at q
  exact q
theorem fits_idx {i : Int} (h0 : -1000000 ≤ i) (h1 : i ≤ 1000000) : Builtin.List.listFitsIndex i = true := by
  unfold Builtin.List.listFitsIndex; simp only [Bool.and_eq_true, decide_eq_true_eq]; (first | lia | omega)
theorem list_range_L {r : Addr} {b : Int} {t₀ u₀ v₀ : Tok} {n : Nat} {Q : Value → Shared → Prop} {E : Value → Shared → Prop} (hh : A.handled = none) (F : Fr h₀ L s.heap m) (N : News h₀ L s.heap news) {a : Int} (hr : IsRange s.heap r a b 1 t₀ u₀ v₀) (hn : n = (b - a).toNat) (ha : -(2 ^ 62) < a ∧ a < 2 ^ 62) (hb : -(2 ^ 62) < b ∧ b < 2 ^ 62) (hz : n ≤ 100000)
    (h : ∀ D us c h' tk, Fr h₀ L h' m → News h₀ L h' ((D, listV us c) :: news) → (∀ p ∈ news, p.1 < D) → IntsAre us (rangeKs a n) → Q (.ref D) { s with heap := h', toks := tk }) :
    wpAny (model prog w) A (call (.type "list") [.ref r]) Q E s := by
  have hs : Builtin.Range.rangeSize a b 1 = n := by
    unfold Builtin.Range.rangeSize
    rw [if_pos (by decide), hn]
    split <;> (first | lia | omega)
  refine kll_range hh F N hr ?_ hs (by (first | lia | omega)) h
  unfold Builtin.Range.small
  rw [hs]
  simp only [Builtin.Range.rangeFitsLong, Bool.and_eq_true, Bool.or_eq_true, decide_eq_true_eq, beq_iff_eq, show (1 : Int) > 0 by decide, if_true]
  (first | lia | omega)
theorem ldL {M : Model} {E : Value → Shared → Prop} {cn : Str} {cs : Scope} {a : Addr} {ccd : Value} {cl : List (Str × Addr)} {y : Str} {pos : Pos} {v : Value} {Q : Value → Shared → Prop} (hx : (envX cn cs L a ccd cl).kindOf y = some .local) (F : Fr h₀ L s.heap m) (hv : m y = some v) (h : Q v s)
    (hk : cs.kind = .function := by rfl) (hd : (y == ("__debug__" : Str)) = false := by decide) : wpAny M A (eval (.Name y pos) (envX cn cs L a ccd cl)) Q E s := nameX_L F hv h hk hx hd
theorem ldnL {M : Model} {E : Value → Shared → Prop} {cn : Str} {cs : Scope} {a : Addr} {ccd : Value} {cl : List (Str × Addr)} {y : Str} {v : Value} {Q : Value → Shared → Prop} (hx : (envX cn cs L a ccd cl).kindOf y = some .local) (F : Fr h₀ L s.heap m) (hv : m y = some v) (h : Q v s)
    (hk : cs.kind = .function := by rfl) : wpAny M A (loadName (envX cn cs L a ccd cl) y) Q E s := wpAny_loadName_local hk hx F.ns hv h
end
end Mine
namespace Mine
section
variable {prog : Program} {w : World} {A : Around} {s : Shared} {env : Env} {E : Value → Shared → Prop} {Q : Value → Shared → Prop} {x : Str} {elt : Expr} {scope : Scope} {cl : List (Str × Addr)}
noncomputable def EltOk (prog : Program) (w : World) (A : Around) (env : Env) (scope : Scope) (cl : List (Str × Addr)) (x : Str) (elt : Expr) (s : Shared) (ns : List Int) (F : Int → Value → Prop) : Prop :=
  ∀ C n t s₃ m₃ (E' : Value → Shared → Prop), n ∈ ns → s.heap.objs.size ≤ C → s₃.heap.Ns C m₃ → m₃ x = some (.int n t) → (∀ b o, s.heap.get? b = some o → s₃.heap.get? b = some o) →
    wpAny (model prog w) A (eval elt (compEnvC scope cl C env)) (fun y s₄ => F n y ∧ Keeps s₃ s₄) E' s₃
noncomputable def PIs (ns : List Int) (j : Nat) (v : Value) : Prop := ∃ n t, ns[j]? = some n ∧ v = .int n t
noncomputable def FIs (F : Int → Value → Prop) (v y : Value) : Prop := ∃ n t, v = .int n t ∧ F n y
theorem paired_ints {F : Int → Value → Prop} : ∀ {ns : List Int} {vs ys : List Value}, vs.length = ns.length → (∀ j v, vs[j]? = some v → PIs ns j v) → Paired (FIs F) vs ys → Paired F ns ys
  | [], vs, ys, hl, hp, h => by
    cases vs with
    | nil => cases h; exact .nil
    | cons v vs => simp at hl
  | n :: ns, vs, ys, hl, hp, h => by
    cases h with
    | nil => simp at hl
    | cons hF hr =>
      obtain ⟨n', t, e, hv⟩ := hp 0 _ rfl
      simp at e
      obtain ⟨n2, t2, e2, hF⟩ := hF
      rw [hv] at e2
      cases e2
      subst e
      exact .cons hF (paired_ints (by simpa using hl) (fun j v hj => by
        obtain ⟨n', t, e, hv⟩ := hp (j + 1) v (by simpa using hj)
        exact ⟨n', t, by simpa using e, hv⟩) hr)
/-- the common end of the comprehensions over ints -/
theorem comp_core {oI : Obj} {fp : List Addr} {ns : List Int} {St : Nat → Heap → Prop} {F : Int → Value → Prop} (W : Walks prog w A s.heap.objs.size fp [s.heap.objs.size] ns.length (PIs ns) St) (hn : ns.length ≤ 100000) (hst : St 0 (s.heap.push oI))
    (hfp : ∀ b ∈ fp, b ≤ s.heap.objs.size) (helt : EltOk prog w A env scope cl x elt s ns F)
    (hQ : ∀ D h' tk ys c, s.heap.get? D = none → h'.get? D = some (listV ys c) → Paired F ns ys → (∀ b o, s.heap.get? b = some o → h'.get? b = some o) → Q (.ref D) { s with heap := h', toks := tk }) :
    ∃ (I : Addr) (fp wr : List Addr) (n : Nat) (P : Nat → Value → Prop) (St : Nat → Heap → Prop), Value.ref s.heap.objs.size = .ref I ∧ Walks prog w A I fp wr n P St ∧ n ≤ sizeLine ∧ St 0 (s.heap.push oI) ∧ (∀ b ∈ fp, b < (s.heap.push oI).objs.size) ∧
      QuietOnC prog w A env scope cl x [] elt wr P (fun _ => true) (FIs F) { s with heap := s.heap.push oI } ∧
      (∀ D h' tk ys (vs : List Value), (s.heap.push oI).get? D = none → h'.IsList D ys → h'.PlainList D ys → vs.length = n → (∀ j v, vs[j]? = some v → P j v) → Paired (FIs F) (vs.filter fun _ => true) ys.toList →
        (∀ b o, b ∉ wr → (s.heap.push oI).get? b = some o → h'.get? b = some o) → Q (.ref D) { s with heap := h', toks := tk }) := by
  refine ⟨_, fp, _, ns.length, PIs ns, St, rfl, W, by rw [show sizeLine = 16777216 from rfl]; (first | lia | omega), hst, fun b hb => by rw [Heap.size_push]; exact Nat.lt_succ_of_le (hfp b hb), ⟨?_, ?_⟩, ?_⟩
  · intro C i v s₃ m₃ E' _ _ _ _ _ _
    exact wpAny_pure ⟨rfl, s₃.heap, s₃.toks, rfl, fun _ _ e => e⟩
  · rintro C i v s₃ m₃ E' hC ⟨n, t, hn, rfl⟩ _ hNs hm hk _
    refine wpAny_mono (helt C n t s₃ m₃ E' (List.mem_of_getElem? hn) (Nat.le_trans (by rw [Heap.size_push]; exact Nat.le_succ _) hC) hNs hm (fun b o e => hk b o ?_ (Heap.get?_push_of_some _ e))) (fun y s₄ h => ⟨⟨n, t, rfl, h.1⟩, h.2⟩) fun _ _ e => e
    intro hb
    rw [List.mem_singleton.mp hb] at e
    exact absurd (Heap.lt_size e) (Nat.lt_irrefl _)
  · intro D h' tk ys vs hD _ ⟨c, hpl⟩ hlen hP hF hk
    have hD2 : s.heap.get? D = none := by
      cases e : s.heap.get? D with
      | none => rfl
      | some o => rw [Heap.get?_push_of_some _ e] at hD; cases hD
    have hf : vs.filter (fun _ => true) = vs := List.filter_eq_self.mpr fun _ _ => rfl
    rw [hf] at hF
    refine hQ D h' tk ys.toList c hD2 (by show _ = some (PySem.W.listOf ys.toList.toArray c); rw [Array.toArray_toList]; exact hpl) (paired_ints hlen hP hF) fun b o e => hk b o ?_ (Heap.get?_push_of_some _ e)
    intro hb
    rw [List.mem_singleton.mp hb] at e
    exact absurd (Heap.lt_size e) (Nat.lt_irrefl _)
/-- the goal at the source of a comprehension over ints -/
noncomputable def CompG (prog : Program) (w : World) (A : Around) (env : Env) (scope : Scope) (cl : List (Str × Addr)) (x : Str) (elt : Expr) (F : Int → Value → Prop) (Q : Value → Shared → Prop) (it : Value) (s₂ : Shared) : Prop :=
  ∃ I fp wr n P St, it = .ref I ∧ Walks prog w A I fp wr n P St ∧ n ≤ sizeLine ∧ St 0 s₂.heap ∧ (∀ b ∈ fp, b < s₂.heap.objs.size) ∧
      QuietOnC prog w A env scope cl x [] elt wr P (fun _ => true) (FIs F) s₂ ∧
      (∀ D h' tk ys (vs : List Value), s₂.heap.get? D = none → h'.IsList D ys → h'.PlainList D ys → vs.length = n → (∀ j v, vs[j]? = some v → P j v) → Paired (FIs F) (vs.filter fun _ => true) ys.toList →
        (∀ b o, b ∉ wr → s₂.heap.get? b = some o → h'.get? b = some o) → Q (.ref D) { s₂ with heap := h', toks := tk })
theorem comp_open {iter : Expr} {px pos : Pos} (F : Int → Value → Prop) (hclos : closureFor scope env = pure cl) (hcell : ∀ y ∈ scope.names, y.2 ≠ .cell) (hkind : scope.kind = .function)
    (hnames : ∀ y ∈ scope.names, y.2 = .local → scope.names.lookup y.1 = some .local) (hx : scope.names.lookup x = some .local)
    (h : wpAny (model prog w) A (eval iter env) (fun xv s₁ => wpAny (model prog w) A (pyIter xv) (CompG prog w A env scope cl x elt F Q) E s₁) E s)
    (hs : ∀ x, foldedSetIterable iter env x = pure x := by intro _; rfl) :
    wpAny (model prog w) A (eval (.ListComp elt [⟨.Name x px, iter, [], 0⟩] scope pos) env) Q E s :=
  wpAny_ListComp_free (fun _ => true) (FIs F) hclos hcell hkind hnames hx h hs
theorem walks_mono {I : Addr} {fp wr : List Addr} {n : Nat} {P P' : Nat → Value → Prop} {St : Nat → Heap → Prop} (W : Walks prog w A I fp wr n P St) (h : ∀ i v, P i v → i < n → P' i v) : Walks prog w A I fp wr n P' St :=
  ⟨W.sub, W.frame, fun i s Q E hi st hQ => W.item i s Q E hi st fun v h' tk hP => hQ v h' tk (h i v hP hi), W.done, W.self⟩
theorem comp_list {l : Addr} {vs : List Value} {ns : List Int} {F : Int → Value → Prop} (hh : A.handled = none) (hl : s.heap.IsList l vs.toArray) (hI : IntsAre vs ns) (hn : ns.length ≤ 100000)
    (helt : EltOk prog w A env scope cl x elt s ns F)
    (hQ : ∀ D h' tk ys c, s.heap.get? D = none → h'.get? D = some (listV ys c) → Paired F ns ys → (∀ b o, s.heap.get? b = some o → h'.get? b = some o) → Q (.ref D) { s with heap := h', toks := tk }) :
    wpAny (model prog w) A (pyIter (.ref l)) (CompG prog w A env scope cl x elt F Q) E s := by
  obtain ⟨ol, hol, _⟩ := id hl
  have hlt : l < s.heap.objs.size := Heap.lt_size hol
  have W := Walks.list (prog := prog) (w := w) hh s.heap.objs.size l (Nat.ne_of_lt hlt) vs.toArray
  have hsz : vs.toArray.size = ns.length := by rw [List.size_toArray, hI.length]
  rw [hsz] at W
  refine wpAny_pyIter_list hl (comp_core (walks_mono W fun i v hP _ => ?_) hn ⟨⟨_, Heap.get?_push_size _ rfl, rfl, rfl⟩, hl.at fun o e => Heap.get?_push_of_some _ e⟩ (fun b hb => ?_) helt hQ)
  · obtain ⟨n, t, e, h⟩ := hI.at i v (by simpa using hP)
    exact ⟨n, t, h, e⟩
  · rcases List.mem_cons.mp hb with rfl | hb
    · exact Nat.le_refl _
    · rw [List.mem_singleton.mp hb]; exact Nat.le_of_lt hlt
theorem comp_range {r : Addr} {a b : Int} {t u v : Tok} (n : Nat) {F : Int → Value → Prop} (hh : A.handled = none) (hr : IsRange s.heap r a b 1 t u v) (hn : n = (b - a).toNat) (ha : -(2 ^ 62) < a ∧ a < 2 ^ 62) (hb : -(2 ^ 62) < b ∧ b < 2 ^ 62) (hz : n ≤ 100000)
    (helt : EltOk prog w A env scope cl x elt s (rangeKs a n) F)
    (hQ : ∀ D h' tk ys c, s.heap.get? D = none → h'.get? D = some (listV ys c) → Paired F (rangeKs a n) ys → (∀ b o, s.heap.get? b = some o → h'.get? b = some o) → Q (.ref D) { s with heap := h', toks := tk }) :
    wpAny (model prog w) A (pyIter (.ref r)) (CompG prog w A env scope cl x elt F Q) E s := by
  have hs : Builtin.Range.rangeSize a b 1 = n := by
    unfold Builtin.Range.rangeSize
    rw [if_pos (by decide), hn]
    split <;> (first | lia | omega)
  have hsm : Builtin.Range.small a b 1 = true := by
    unfold Builtin.Range.small
    rw [hs]
    simp only [Builtin.Range.rangeFitsLong, Bool.and_eq_true, Bool.or_eq_true, decide_eq_true_eq, beq_iff_eq, show (1 : Int) > 0 by decide, if_true]
    (first | lia | omega)
  have W := Walks.range (prog := prog) (w := w) hh s.heap.objs.size a 1 n
  have hl : (rangeKs a n).length = n := rangeKs_length a n
  have W' : Walks prog w A s.heap.objs.size [s.heap.objs.size] [s.heap.objs.size] (rangeKs a n).length (PIs (rangeKs a n)) (fun i h => IsRangeIter h s.heap.objs.size (a + (i : Nat) * 1) ((n : Int) - (i : Nat)) 1) := by
    rw [hl]
    refine walks_mono W fun i v hP hi => ?_
    obtain ⟨t, e⟩ := hP
    exact ⟨a + i, t, by unfold rangeKs; rw [List.getElem?_map, List.getElem?_range hi]; rfl, by rw [e]; simp⟩
  refine wpAny_pyIter_range hr hsm (comp_core W' (by rw [hl]; exact hz) ?_ (fun b hb => Nat.le_of_eq (List.mem_singleton.mp hb)) helt hQ)
  rw [hs]
  have := Heap.get?_push_size s.heap (o := { cls := .type "range_iterator", data := .fields #[rawInt a, rawInt n, rawInt 1] }) rfl
  simpa [IsRangeIter] using this
noncomputable def SrcInts (h : Heap) (l : Addr) (ns : List Int) : Prop := (∃ vs : List Value, h.IsList l vs.toArray ∧ IntsAre vs ns) ∨
  ∃ a b t u v, IsRange h l a b 1 t u v ∧ ns = rangeKs a (b - a).toNat ∧ (-(2 ^ 62) < a ∧ a < 2 ^ 62) ∧ (-(2 ^ 62) < b ∧ b < 2 ^ 62)
theorem SrcInts.keep {h h' : Heap} {l : Addr} {ns : List Int} (x : SrcInts h l ns) (k : ∀ b o, h.get? b = some o → h'.get? b = some o) : SrcInts h' l ns := by
  rcases x with ⟨vs, h1, h2⟩ | ⟨a, b, t, u, v, h1, h2⟩
  · exact .inl ⟨vs, h1.at fun o e => k l o e, h2⟩
  · exact .inr ⟨a, b, t, u, v, k _ _ h1, h2⟩
theorem comp_src {l : Addr} {ns : List Int} {F : Int → Value → Prop} (hh : A.handled = none) (hsrc : SrcInts s.heap l ns) (hn : ns.length ≤ 100000)
    (helt : EltOk prog w A env scope cl x elt s ns F)
    (hQ : ∀ D h' tk ys c, s.heap.get? D = none → h'.get? D = some (listV ys c) → Paired F ns ys → (∀ b o, s.heap.get? b = some o → h'.get? b = some o) → Q (.ref D) { s with heap := h', toks := tk }) :
    wpAny (model prog w) A (pyIter (.ref l)) (CompG prog w A env scope cl x elt F Q) E s := by
  rcases hsrc with ⟨vs, h1, h2⟩ | ⟨a, b, t, u, v, h1, rfl, h3, h4⟩
  · exact comp_list hh h1 h2 hn helt hQ
  · exact comp_range _ hh h1 rfl h3 h4 (by rw [rangeKs_length] at hn; exact hn) helt hQ
section
variable {C c : Addr} {m₃ : Str → Option Value} {v : Value} {y : Str} {pos : Pos}
/-- a comprehension's own name -/
theorem ld_comp (hn : s.heap.Ns C m₃) (hv : m₃ y = some v) (h : Q v s) (hk : (compEnvC scope cl C env).scope.kind = .function := by rfl) (hl : (compEnvC scope cl C env).kindOf y = some .local := by rfl) (hd : (y == ("__debug__" : Str)) = false := by decide) {M : Model} :
    wpAny M A (eval (.Name y pos) (compEnvC scope cl C env)) Q E s := wpAny_Name (wpAny_loadName_local hk hl hn hv h) hd
/-- a name of the def around it, in a cell -/
theorem ld_cell {o : Obj} (hc : cl.lookup y = some c) (ho : s.heap.get? c = some o) (hd : o.data = .cell (some v)) (h : Q v s) (hk : (compEnvC scope cl C env).scope.kind = .function := by rfl) (hl : (compEnvC scope cl C env).kindOf y = some .cell := by rfl) (hb : (y == ("__debug__" : Str)) = false := by decide) {M : Model} :
    wpAny M A (eval (.Name y pos) (compEnvC scope cl C env)) Q E s := wpAny_Name (wpAny_loadName_cell hk hl hc ⟨o, ho, hd⟩ h) hb
theorem Keeps.here : Keeps s s := ⟨s.heap, s.toks, rfl, fun _ _ e => e⟩
theorem Keeps.tok {tk : Nat} : Keeps s { s with toks := tk } := ⟨s.heap, tk, rfl, fun _ _ e => e⟩
end
end
end Mine
namespace Mine
noncomputable def TabOk (P : Addr) (pos : Pos) (qual : Str) (h : Heap) : Prop := ∃ ps : Array Value, h.get? P = some (tabObj ps) ∧ TriplesOk ps.toList ∧ (codeAmong pos ps.toList = none ∨ ∃ c', codeAmong pos ps.toList = some (.ref c') ∧ h.CodeRec (.ref c') qual)
theorem TabOk.keep {P : Addr} {pos : Pos} {qual : Str} {h h' : Heap} (x : TabOk P pos qual h) (k : ∀ b o, h.get? b = some o → h'.get? b = some o) : TabOk P pos qual h' := by
  obtain ⟨ps, h1, h2, h3⟩ := x
  refine ⟨ps, k _ _ h1, h2, h3.imp id fun ⟨c', e1, e2⟩ => ⟨c', e1, e2.keeps k⟩⟩
section
variable {M : Model} {A : Around} {E : Value → Shared → Prop} {s : Shared} {g : Heap} {L a c P : Addr} {m mg mb : Str → Option Value} {cn : Str} {cs : Scope} {ccd : Value} {cl : List (Str × Addr)} {news : List (Addr × Obj)}
  {p : Program} {loose : List Str} {mean : ExcName → Option Value} {name qual : Str} {params : Arguments} {body : List Stmt} {scope : Scope} {ps : Array Value} {pos : Pos} {firstLine : Nat} {clos : List (Str × Addr)}
theorem nest_any {Q : Value → Shared → Prop} (F : Fr g L s.heap m) (N : News g L s.heap ((P, tabObj ps) :: news)) (hoff : ∀ p ∈ news, p.1 ≠ P) (T : Top p loose mean mg mb g) (C : CodeHd g c P) (hcd : ccd = .ref c) (ht : TriplesOk ps.toList)
    (hc : codeAmong pos ps.toList = none ∨ ∃ c', codeAmong pos ps.toList = some (.ref c') ∧ s.heap.CodeRec (.ref c') qual)
    (hcl : closureFor scope (envX cn cs L a ccd cl) = pure clos)
    (h : ∀ f c' ctv doc h' tk ps', Fr g L h' m → News g L h' ((f, fnMade name qual params body scope clos doc ((mg "__name__").getD .none) c' ctv) :: (P, tabObj ps') :: news) → h'.CodeRec (.ref c') qual → TriplesOk ps'.toList → codeAmong pos ps'.toList = some (.ref c') →
      (∀ q ∈ news, q.1 < f) → P < f → Q (.ref f) { s with heap := h', toks := tk }) :
    wpAny M A (makeFunction name qual params (.stmts body) scope (envX cn cs L a ccd cl) [] [] [] pos firstLine) Q E s := by
  rcases hc with hn | ⟨c', hf, hr⟩
  · refine nest_K F N T C hcd (.head hoff) ht hn hcl fun f c' oc vs t ctv doc h' tk F' N' hd hv hl hcf => ?_
    refine h f c' ctv doc h' tk (ps ++ #[rawInt pos.line, rawInt pos.col, .ref c']) F' (fun q hq => ?_) ⟨c', oc, vs, t, rfl, (N' _ (.tail _ (.head _))).1, hd, hv⟩ ?_ ?_ (fun q hq => Nat.lt_trans (hl q (.tail _ hq)) hcf) (Nat.lt_trans (hl _ (.head _)) hcf)
    · rcases List.mem_cons.mp hq with rfl | hq
      · exact N' _ (.head _)
      · exact N' _ (.tail _ (.tail _ hq))
    · rw [Array.toList_append]; exact TriplesOk_snoc _ _ _ _ ht
    · rw [Array.toList_append]; exact codeAmong_snoc _ ht hn
  · obtain ⟨c₂, oc, vs, t, e2, hoc, hd, hv⟩ := hr
    have fin : ∀ f ctv doc h' tk, Fr g L h' m → News g L h' ((f, fnMade name qual params body scope clos doc ((mg "__name__").getD .none) c' ctv) :: (P, tabObj ps) :: news) → h'.get? c₂ = some oc → (∀ q ∈ (P, tabObj ps) :: news, q.1 < f) → Q (.ref f) { s with heap := h', toks := tk } :=
      fun f ctv doc h' tk F' N' ho hl => h f c' ctv doc h' tk ps F' N' ⟨c₂, oc, vs, t, e2, ho, hd, hv⟩ ht hf (fun q hq => hl q (.tail _ hq)) (hl _ (.head _))
    cases hg : g.get? c₂ with
    | some o =>
      have e := F.keep _ _ hg
      rw [hoc] at e; cases e
      exact nestHit_K F N T C hcd (.head _) ht hf hcl fun f ctv doc h' tk F' N' hl => fin f ctv doc h' tk F' N' (F'.keep _ _ hg) hl
    | none =>
      have hne : c₂ ≠ L := fun e => by
        obtain ⟨oL, es, ep, hL, hLd, _⟩ := F.ns
        rw [e, hL] at hoc; cases hoc; rw [hLd] at hd; cases hd
      have N2 : News g L s.heap ((P, tabObj ps) :: (c₂, oc) :: news) := fun q hq => by
        rcases List.mem_cons.mp hq with rfl | hq
        · exact N _ (.head _)
        · rcases List.mem_cons.mp hq with rfl | hq
          · exact ⟨hoc, hne, hg⟩
          · exact N _ (.tail _ hq)
      refine nestHit_K F N2 T C hcd (.head _) ht hf hcl fun f ctv doc h' tk F' N' hl => fin f ctv doc h' tk F' (fun q hq => ?_) (N' _ (.tail _ (.tail _ (.head _)))).1 (fun q hq => ?_)
      · rcases List.mem_cons.mp hq with rfl | hq
        · exact N' _ (.head _)
        · rcases List.mem_cons.mp hq with rfl | hq
          · exact N' _ (.tail _ (.head _))
          · exact N' _ (.tail _ (.tail _ (.tail _ hq)))
      · rcases List.mem_cons.mp hq with rfl | hq
        · exact hl _ (.head _)
        · exact hl _ (.tail _ (.tail _ hq))
end
section
variable {M : Model} {A : Around} {E : Value → Shared → Prop} {s : Shared} {g : Heap} {L a : Addr} {m : Str → Option Value} {cn : Str} {cs : Scope} {ccd : Value} {cl : List (Str × Addr)}
  {x : Str} {pos : Pos} {v : Value} {Q : Value → Shared → Prop} {c : Addr} {o : Obj}
theorem ld_free (F : Fr g L s.heap m) (hc : cl.lookup x = some c) (hg : g.get? c = some o) (hd : o.data = .cell (some v)) (h : Q v s)
    (hk : cs.kind = .function := by rfl) (hx : (envX cn cs L a ccd cl).kindOf x = some .free := by rfl) (hb : (x == ("__debug__" : Str)) = false := by decide) (hn : (x == ("__classdict__" : Str)) = false := by decide) :
    wpAny M A (eval (.Name x pos) (envX cn cs L a ccd cl)) Q E s := wpAny_Name (wpAny_loadName_free hk hx hc ⟨o, F.keep _ _ hg, hd⟩ h hn) hb
end
theorem FnAt.keep {f : Addr} {g h : Heap} (x : FnAt f g) (k : ∀ b o, g.get? b = some o → h.get? b = some o) : FnAt f h := let ⟨oc, od, fd, sl, e⟩ := x; ⟨oc, od, fd, sl, k _ _ e⟩
section
variable {M : Model} {A : Around} {E : Value → Shared → Prop} {s : Shared} {g : Heap} {L f : Addr} {m : Str → Option Value} {env : Env} {pos : Pos} {first : List Value} {Q : Value → Shared → Prop}
theorem callWith_G {e : Expr} {rest : List Expr} (F : Fr g L s.heap m) (X : FnAt f g) (h : wpAny M A (spliced (backTo pos (starEach (e :: rest) env))) (fun vs s₁ => FnAt f s₁.heap ∧ wpAny M A (call (.ref f) (first ++ vs)) Q E s₁) E s)
    (he : starEach (e :: rest) env = (false, eval e env) :: starEach rest env := by rfl) (hplain : (backTo pos (starEach rest env)).any (·.1) = false := by rfl) :
    wpAny M A (callWith pos (.ref f) first (backTo pos (starEach (e :: rest) env)) []) Q E s := callWith_F (FnAt.keep X F.keep) h he hplain
end
section
variable {M : Model} {A : Around} {E : Value → Shared → Prop} {s : Shared} {g : Heap} {L a c P ci : Addr} {m mg mb : Str → Option Value} {cn : Str} {cs : Scope} {ccd : Value} {cl : List (Str × Addr)} {rest : List (Addr × Obj)} {oi : Obj} {v₀ : Option Value}
  {p : Program} {loose : List Str} {mean : ExcName → Option Value} {name : Str} {params : Arguments} {body : List Stmt} {scope : Scope} {ps : Array Value} {pos : Pos} {clos : List (Str × Addr)}
/-- a def within a def, its name in a cell -/
theorem nest_store {Q : Flow → Shared → Prop} (F : Fr g L s.heap m) (N : News g L s.heap ((P, tabObj ps) :: (ci, oi) :: rest)) (hoff : ∀ p ∈ (ci, oi) :: rest, p.1 ≠ P) (hoff2 : ∀ p ∈ rest, p.1 ≠ ci) (T : Top p loose mean mg mb g) (C : CodeHd g c P) (hcd : ccd = .ref c) (ht : TriplesOk ps.toList)
    (hc : codeAmong pos ps.toList = none ∨ ∃ c', codeAmong pos ps.toList = some (.ref c') ∧ s.heap.CodeRec (.ref c') (qualnameIn (envX cn cs L a ccd cl) name name))
    (hcl : closureFor scope (envX cn cs L a ccd cl) = pure clos) (hlk : cl.lookup name = some ci) (hoi : oi.data = .cell v₀) (hks : cs.kind = .function) (hkn : (envX cn cs L a ccd cl).kindOf name = some .cell)
    (hd0 : params.defaults = []) (hk0 : params.kw_defaults = []) (ha : annTrees params none (envX cn cs L a ccd cl) = [])
    (h : ∀ f c' ctv doc h' tk ps' oi', Fr g L h' m → News g L h' ((f, fnMade name (qualnameIn (envX cn cs L a ccd cl) name name) params body scope clos doc ((mg "__name__").getD .none) c' ctv) :: (P, tabObj ps') :: (ci, oi') :: rest) → oi'.data = .cell (some (.ref f)) →
      h'.CodeRec (.ref c') (qualnameIn (envX cn cs L a ccd cl) name name) → TriplesOk ps'.toList → codeAmong pos ps'.toList = some (.ref c') → ci < f → P < f → (∀ q ∈ rest, q.1 < f) → Q .next { s with heap := h', toks := tk }) :
    wpAny M A (exec (.FunctionDef name params body [] none [] scope none name pos) (envX cn cs L a ccd cl)) Q E s := by
  refine nestDef_K hd0 hk0 ha (nest_any F N hoff T C hcd ht hc hcl fun f c' ctv doc h' tk ps' F' N' hr ht' hc' hl hP => ?_)
  have nf := N' _ (.head _)
  have nP := N' _ (.tail _ (.head _))
  have ni := N' _ (.tail _ (.tail _ (.head _)))
  have hcf : ci < f := hl _ (.head _)
  refine wpAny_storeName_cell hks hkn hlk ⟨oi, ni.1, hoi⟩ fun h2 hv hs => ?_
  obtain ⟨o', ho', hd'⟩ := hv
  have hne : ∀ b, b ≠ ci → h2.get? b = h'.get? b := fun b hb => hs.2 b hb
  refine h f c' ctv doc h2 tk ps' o' ⟨F'.ns.sameBut hs (Ne.symm ni.2.1), fun b ob e => (hne b (fun q => ?_)).trans (F'.keep b ob e), F'.above⟩ (fun q hq => ?_) hd' ?_ ht' hc' hcf hP (fun q hq => hl q (.tail _ hq))
  · rw [q, ni.2.2] at e; cases e
  · rcases List.mem_cons.mp hq with rfl | hq
    · exact ⟨(hne _ (Nat.ne_of_gt hcf)).trans nf.1, nf.2⟩
    · rcases List.mem_cons.mp hq with rfl | hq
      · exact ⟨(hne _ (Ne.symm (hoff _ (.head _)))).trans nP.1, nP.2⟩
      · rcases List.mem_cons.mp hq with rfl | hq
        · exact ⟨ho', ni.2⟩
        · have n := N' q (.tail _ (.tail _ (.tail _ hq)))
          exact ⟨(hne _ (hoff2 _ hq)).trans n.1, n.2⟩
  · obtain ⟨c₂, oc, vs, t, e2, hoc, hd, hv⟩ := hr
    refine ⟨c₂, oc, vs, t, e2, (hne _ (fun e => ?_)).trans hoc, hd, hv⟩
    rw [e, ni.1] at hoc
    cases hoc
    rw [hoi] at hd
    cases hd
end
end Mine
namespace Mine
section
variable {prog : Program} {w : World} {A : Around} {s : Shared} {env : Env} {h₀ : Heap} {L : Addr} {x : Str} {px : Pos} {body : List Stmt} {Q : Flow → Shared → Prop} {m : Str → Option Value} {news : List (Addr × Obj)}
theorem floop2 {I : Addr} {fp : List Addr} {n : Nat} {P : Nat → Value → Prop} {St : Nat → Heap → Prop} (W : Walks prog w A I fp [I] n P St)
    (hlive : ∀ i h, St i h → ∃ o, h.get? I = some o) (J : Nat → (Str → Option Value) → List (Addr × Obj) → Prop) (hfp : ∀ b ∈ fp, b = I ∨ (∃ o, h₀.get? b = some o) ∨ ∃ o, ∀ i m' news', J i m' news' → (b, o) ∈ news') (hI0 : h₀.get? I = none) (hLI : I ≠ L)
    (hx : env.kindOf x = some .local) (hp : (env.scope.kind == .class || (env.scope.kind == .module && env.locals != env.globals)) = false) (hL : env.locals = L)
    (hst : St 0 s.heap) (F : Fr h₀ L s.heap m) (N : News h₀ L s.heap news) (hoff : ∀ p ∈ news, p.1 ≠ I) (J0 : J 0 m news)
    (turn : ∀ i v m₁ news₁ h tk oI, i < n → P i v → J i m₁ news₁ → (∀ p ∈ news₁, p.1 ≠ I) → Fr h₀ L h (fun y => if y = x then some v else m₁ y) → News h₀ L h ((I, oI) :: news₁) →
      wpAny (model prog w) A (execs body env) (Turned h₀ L I oI (J (i + 1)) s Q) (fun _ _ => False) { s with heap := h, toks := tk })
    (done : ∀ m₁ news₁ h tk, J n m₁ news₁ → Fr h₀ L h m₁ → News h₀ L h news₁ → Q .next { s with heap := h, toks := tk }) :
    codeAny (model prog w) A (.forLoop (.Name x px) (.ref I) body [] env) (fun r s' => match r with | .ok f => Q f s' | .error _ => False) s := by
  subst hL
  refine codeAny_forLoop
    (fun k s' => ∃ h' tk m' news' i, s' = { s with heap := h', toks := tk } ∧ St i h' ∧ Fr h₀ env.locals h' m' ∧ News h₀ env.locals h' news' ∧ (∀ p ∈ news', p.1 ≠ I) ∧ J i m' news' ∧ i ≤ n ∧ k = n + 1 - i) ?_ (n + 1)
    ⟨s.heap, s.toks, m, news, 0, rfl, hst, F, N, hoff, J0, Nat.zero_le _, rfl⟩
  rintro k s' ⟨h', tk, m', news', i, rfl, hst', F', N', hoff', hJ, hi, rfl⟩
  have next : ∀ h₁ : Heap, (∀ b o, b ∉ [I] → h'.get? b = some o → h₁.get? b = some o) → Fr h₀ env.locals h₁ m' ∧ News h₀ env.locals h₁ news' := fun h₁ hk₁ =>
    ⟨⟨F'.ns.at' fun o e => hk₁ _ o (by simpa using Ne.symm hLI) e, fun b o e => hk₁ b o (by rintro hb; rw [List.mem_singleton.mp hb, hI0] at e; cases e) (F'.keep b o e), F'.above⟩,
     fun p hp => ⟨hk₁ _ _ (by simpa using hoff' p hp) (N' p hp).1, (N' p hp).2⟩⟩
  by_cases hlt : i < n
  · refine W.item i _ _ _ hlt hst' fun v h₁ tk₁ hP hst₁ hk₁ => ?_
    obtain ⟨F₁, N₁⟩ := next h₁ hk₁
    obtain ⟨oI, hoI⟩ := hlive _ _ hst₁
    refine wpAny_assign_Name (wpAny_storeName_local hx F₁.ns (fun h₂ hn₂ hs₂ => ?_) hp)
    have F₂ := F₁.set hn₂ hs₂
    have N₂ : News h₀ env.locals h₂ ((I, oI) :: news') := List.forall_mem_cons.mpr ⟨⟨(hs₂.2 I hLI).trans hoI, hLI, hI0⟩, N₁.set hs₂⟩
    refine wpAny_mono (turn i v m' news' h₂ _ oI hlt hP hJ hoff' F₂ N₂) (fun f s₃ h₃ => ?_) fun _ _ e => e.elim
    have step : (∃ h' tk' m' news'', s₃ = { s with heap := h', toks := tk' } ∧ Fr h₀ env.locals h' m' ∧ News h₀ env.locals h' ((I, oI) :: news'') ∧ (∀ p ∈ news'', p.1 ≠ I) ∧ J (i + 1) m' news'') → ∃ m_1, m_1 < n + 1 - i ∧ ∃ h' tk m' news' i, s₃ = { s with heap := h', toks := tk } ∧ St i h' ∧ Fr h₀ env.locals h' m' ∧ News h₀ env.locals h' news' ∧ (∀ p ∈ news', p.1 ≠ I) ∧ J i m' news' ∧ i ≤ n ∧ m_1 = n + 1 - i := by
      rintro ⟨h₃', tk₃, m₃, news₃, rfl, F₃, N₃, hd₃, hJ₃⟩
      refine ⟨n + 1 - (i + 1), by (first | lia | omega), h₃', tk₃, m₃, news₃, i + 1, rfl, W.frame _ _ _ hst₁ fun b hb o e => ?_, F₃, fun p hp => N₃ p (.tail _ hp), hd₃, hJ₃, hlt, rfl⟩
      rcases hfp b hb with rfl | ⟨o₀, h0⟩ | ⟨o₀, h0⟩
      · rw [hoI] at e; cases e; exact (N₃ _ (.head _)).1
      · have : o₀ = o := by have := F₁.keep b o₀ h0; rw [e] at this; exact (Option.some.inj this).symm
        exact this ▸ F₃.keep b o₀ h0
      · have : o₀ = o := by have := (N₁ _ (h0 _ _ _ hJ)).1; rw [e] at this; exact (Option.some.inj this).symm
        exact this ▸ (N₃ _ (.tail _ (h0 _ _ _ hJ₃))).1
    cases f with
    | next => exact step h₃
    | cont => exact step h₃
    | brk => exact h₃
    | ret v => exact h₃
  · have hin : i = n := by (first | lia | omega)
    subst hin
    refine W.done _ _ _ hst' fun h₁ tk₁ hk₁ => wpAny_execs_nil ?_
    obtain ⟨F₁, N₁⟩ := next h₁ hk₁
    exact done m' news' h₁ tk₁ hJ F₁ N₁
theorem for_walk2 {oI₀ : Obj} {fp : List Addr} {n : Nat} {P : Nat → Value → Prop} {St : Nat → Heap → Prop} (W : Walks prog w A s.heap.objs.size fp [s.heap.objs.size] n P St)
    (hlive : ∀ i h, St i h → ∃ o, h.get? s.heap.objs.size = some o) (J : Nat → (Str → Option Value) → List (Addr × Obj) → Prop) (hfp : ∀ b ∈ fp, b = s.heap.objs.size ∨ (∃ o, h₀.get? b = some o) ∨ ∃ o, ∀ i m' news', J i m' news' → (b, o) ∈ news')
    (hx : env.kindOf x = some .local) (hp : (env.scope.kind == .class || (env.scope.kind == .module && env.locals != env.globals)) = false) (hL : env.locals = L)
    (hst : St 0 (s.heap.push oI₀)) (F : Fr h₀ L s.heap m) (N : News h₀ L s.heap news) (J0 : J 0 m news)
    (turn : ∀ I i v m₁ news₁ h tk oI, i < n → P i v → (∀ p ∈ news, p.1 < I) → J i m₁ news₁ → (∀ p ∈ news₁, p.1 ≠ I) → Fr h₀ L h (fun y => if y = x then some v else m₁ y) → News h₀ L h ((I, oI) :: news₁) →
      wpAny (model prog w) A (execs body env) (Turned h₀ L I oI (J (i + 1)) s Q) (fun _ _ => False) { s with heap := h, toks := tk })
    (done : ∀ m₁ news₁ h tk, J n m₁ news₁ → Fr h₀ L h m₁ → News h₀ L h news₁ → Q .next { s with heap := h, toks := tk }) :
    codeAny (model prog w) A (.forLoop (.Name x px) (.ref s.heap.objs.size) body [] env) (fun r s' => match r with | .ok f => Q f s' | .error e => cameBackBy (model prog w) A env (fun _ _ => False) e s') { s with heap := s.heap.push oI₀ } := by
  refine codeAny_mono (floop2 (s := { s with heap := s.heap.push oI₀ }) W hlive J hfp (next_is_new F) (Nat.ne_of_gt F.ns.lt) hx hp hL hst (F.push _) (fun p hp => ⟨Heap.get?_push_of_some _ (N p hp).1, (N p hp).2⟩)
    (fun p hp => Nat.ne_of_lt (Heap.lt_size (N p hp).1)) J0 (fun i v m₁ news₁ h tk oI hi hP hJ ho F' N' => turn _ i v m₁ news₁ h tk oI hi hP (fun p hp => Heap.lt_size (N p hp).1) hJ ho F' N') done) ?_
  intro r s' h
  cases r with
  | ok f => exact h
  | error e => exact h.elim
theorem for_listN {l c : Addr} {vs : List Value} (J : Nat → (Str → Option Value) → List (Addr × Obj) → Prop) (hh : A.handled = none) (hl : ∀ i m' news', J i m' news' → (l, listV vs c) ∈ news')
    (hx : env.kindOf x = some .local) (hp : (env.scope.kind == .class || (env.scope.kind == .module && env.locals != env.globals)) = false) (hL : env.locals = L)
    (F : Fr h₀ L s.heap m) (N : News h₀ L s.heap news) (J0 : J 0 m news)
    (turn : ForTurn prog w A env x body Q s h₀ L news vs.length (fun i v => vs[i]? = some v) J)
    (done : ∀ m₁ news₁ h tk, J vs.length m₁ news₁ → Fr h₀ L h m₁ → News h₀ L h news₁ → Q .next { s with heap := h, toks := tk }) :
    ForGoal prog w A env x px body Q (.ref l) s := by
  have hls : s.heap.IsList l vs.toArray := N.isList (hl _ _ _ J0)
  have hol := (N _ (hl _ _ _ J0)).1
  have hlt : l < s.heap.objs.size := Heap.lt_size hol
  have W := Walks.list (prog := prog) (w := w) hh s.heap.objs.size l (Nat.ne_of_lt hlt) vs.toArray
  rw [List.size_toArray] at W
  refine wpAny_pyIter_list hls (for_walk2 W (fun i h st => by obtain ⟨⟨o, ho, _⟩, _⟩ := st; exact ⟨o, ho⟩) J (fun b hb => ?_) hx hp hL ⟨⟨_, Heap.get?_push_size _ rfl, rfl, rfl⟩, hls.at fun o e => Heap.get?_push_of_some _ e⟩ F N J0
    (fun I i v m₁ news₁ h tk oI hi hP hI hJ ho F' N' => turn I i v m₁ news₁ h tk oI hi (by simpa using hP) hI hJ ho F' N') done)
  rcases List.mem_cons.mp hb with rfl | hb
  · exact .inl rfl
  · rw [List.mem_singleton.mp hb]; exact .inr (.inr ⟨_, hl⟩)
theorem for_revN {l I c : Addr} {vs : List Value} (J : Nat → (Str → Option Value) → List (Addr × Obj) → Prop) (hh : A.handled = none) (hl : ∀ i m' news', J i m' news' → (l, listV vs c) ∈ news') (hr : (I, revObj l ((vs.length : Int) - 1)) ∈ news)
    (hx : env.kindOf x = some .local) (hp : (env.scope.kind == .class || (env.scope.kind == .module && env.locals != env.globals)) = false) (hL : env.locals = L) {rest : List (Addr × Obj)} (hrest : ∀ p ∈ rest, p ∈ news) (hoff : ∀ p ∈ rest, p.1 ≠ I)
    (F : Fr h₀ L s.heap m) (N : News h₀ L s.heap news) (J0 : J 0 m rest)
    (turn : ∀ i v m₁ news₁ h tk oI, i < vs.length → vs[vs.length - 1 - i]? = some v → J i m₁ news₁ → (∀ p ∈ news₁, p.1 ≠ I) → Fr h₀ L h (fun y => if y = x then some v else m₁ y) → News h₀ L h ((I, oI) :: news₁) →
      wpAny (model prog w) A (execs body env) (Turned h₀ L I oI (J (i + 1)) s Q) (fun _ _ => False) { s with heap := h, toks := tk })
    (done : ∀ m₁ news₁ h tk, J vs.length m₁ news₁ → Fr h₀ L h m₁ → News h₀ L h news₁ → Q .next { s with heap := h, toks := tk }) :
    ForGoal prog w A env x px body Q (.ref I) s := by
  have hls : s.heap.IsList l vs.toArray := (News.isList N (hrest _ (hl _ _ _ J0)))
  have hI := N _ hr
  have hne : l ≠ I := hoff _ (hl _ _ _ J0)
  have W := Walks.listRev (prog := prog) (w := w) hh I l hne vs.toArray
  have hst : (0 : Nat) ≤ vs.toArray.size ∧ s.heap.IsRevIter I l ((vs.toArray.size : Int) - 1 - ((0 : Nat) : Int)) ∧ s.heap.IsList l vs.toArray := ⟨Nat.zero_le _, ⟨_, hI.1, rfl, by simp [revObj, rawInt]⟩, hls⟩
  refine wpAny_pyIter_revIter hst.2.1 (codeAny_mono (floop2 W (fun i h st => by obtain ⟨_, ⟨o, ho, _⟩, _⟩ := st; exact ⟨o, ho⟩) (fun i => J i) (fun b hb => ?_) hI.2.2 hI.2.1 hx hp hL hst F (fun p hp => N p (hrest p hp)) hoff J0 (fun i v m₁ news₁ h tk oI hi hP hJ ho F' N' => turn i v m₁ news₁ h tk oI (by simpa using hi) (by simpa using hP) hJ ho F' N') (by rw [List.size_toArray]; exact done)) ?_)
  · rcases List.mem_cons.mp hb with rfl | hb
    · exact .inl rfl
    · rw [List.mem_singleton.mp hb]; exact .inr (.inr ⟨_, hl⟩)
  · intro r s' h
    cases r with
    | ok f => exact h
    | error e => exact h.elim
end
end Mine
namespace Mine
local macro_rules | `(tactic| walk_at "m_stop") => `(tactic| ((fail_if_success (with_reducible show wpAny _ _ (exec (Stmt.While _ _ _ _) _) _ _ _)); (fail_if_success (with_reducible show wpAny _ _ (exec (Stmt.For _ _ _ _ _) _) _ _ _)); (fail_if_success (with_reducible show wpAny _ _ (call (Value.ref _) _ _) _ _ _)); (fail_if_success (with_reducible show wpAny _ _ (pyIter _) _ _ _)); (fail_if_success (with_reducible show wpAny _ _ (call (Value.builtin "list.append") _ _) _ _ _)); (fail_if_success (with_reducible show wpAny _ _ (call (Value.type _) _ _) _ _ _)); (fail_if_success (with_reducible show wpAny _ _ (delItem _ _) _ _ _)); (fail_if_success (with_reducible show wpAny _ _ (eval (Expr.ListComp _ _ _ _) _) _ _ _)); (fail_if_success (with_reducible show wpAny _ _ (binaryOp Operator.LShift _ _) _ _ _)); (fail_if_success (with_reducible show wpAny _ _ (setItem _ _ _) _ _ _)); (fail_if_success (with_reducible show wpAny _ _ (binaryOp Operator.Mult (Value.ref _) _) _ _ _))))
local macro_rules | `(tactic| walk_at "m_step") => `(tactic| first | (k_unfold; (try dsimp only)) | (walk1; (try dsimp only)) | (dsimp only; walk1; (try dsimp only)))
local macro_rules | `(tactic| walk_at "m_run") => `(tactic| repeat' (walk_at "m_stop"; walk_at "m_step"))
local macro_rules | `(tactic| walk_at "m_enter") => `(tactic| ((try (case ho => k_is)); (case hcd => k_is); (try (case hb => exact fun _ => rfl)); (case hl => exact locs rfl); (case c1 => decide); (case c2 => exact rfl); (case c3 => exact rfl); (case c4 => exact rfl)))
local macro_rules | `(tactic| walk_at "m_fill") => `(tactic| (have XX := Cx.fill (by assumption); revert XX; k_fill; intro XX; clear XX))
local macro_rules | `(tactic| walk_at "m_get") => `(tactic| first | with_reducible assumption | ((refine (if_neg (by decide)).trans ?_); walk_at "m_get"))
local macro_rules | `(tactic| walk_at "eval Name") => `(tactic| (refine ld_comp (by with_reducible assumption) (by with_reducible assumption) ?_))
local macro_rules | `(tactic| walk_at "eval Name") => `(tactic| (k_dflt (refine ld_free (by with_reducible assumption) (by exact rfl) (by with_reducible assumption) (by with_reducible assumption) ?_)))
local macro_rules | `(tactic| walk_at "eval Name") => `(tactic| (k_dflt ((refine' ldL ?hx ?F ?hv ?_); (case hx => exact rfl); (case F => with_reducible assumption); (case hv => first | with_reducible assumption | exact rfl | walk_at "m_get"))))
local macro_rules | `(tactic| walk_at "callWith ref nil nil") => `(tactic| (refine callWith_G (by with_reducible assumption) (by with_reducible assumption) ?_))
local macro_rules | `(tactic| walk_at "callWith ref nil nil") => `(tactic| (refine callWith_F (by with_reducible assumption) ?_))
local macro_rules | `(tactic| walk_at "FnAt") => `(tactic| (with_reducible assumption))
local macro_rules | `(tactic| walk_at "FnAt") => `(tactic| (exact FnAt.keep (by with_reducible assumption) (Fr.keep (by with_reducible assumption))))
local macro_rules | `(tactic| walk_at "loadName") => `(tactic| (k_dflt ((refine' ldnL ?hx ?F ?hv ?_); (case hx => exact rfl); (case F => with_reducible assumption); (case hv => first | with_reducible assumption | exact rfl | walk_at "m_get"))))
local macro_rules | `(tactic| walk_at "m_app") => `(tactic| ((refine' append_L (by with_reducible assumption) (by with_reducible assumption) ?U ?_ ?z); (case U => k_upd); (case z => (first | lia | omega)); (intro h' F' N'; (try k_sweep))))
local macro_rules | `(tactic| walk_at "m_mem") => `(tactic| first | exact .head _ | exact .tail _ (.head _) | exact .tail _ (.tail _ (.head _)) | exact .tail _ (.tail _ (.tail _ (.head _))) | exact .tail _ (.tail _ (.tail _ (.tail _ (.head _)))))
local macro_rules | `(tactic| walk_at "assign Tuple") => `(tactic| ((with_reducible show wpAny _ _ (assign (Expr.Tuple _ _ _) _ (Value.ref _)) _ _ _); (refine' unpackN_ ?F ?N ?T ?hh ?k1 ?k2 ?_); (case F => with_reducible assumption); (case N => with_reducible assumption); (case T => first | (refine' News.isTup ?N2 ?M2; (case N2 => with_reducible assumption); (case M2 => walk_at "m_mem")) | exact Fr.tup (by with_reducible assumption) (by with_reducible assumption)); (case hh => first | exact rfl | assumption); (case k1 => exact rfl); (case k2 => exact rfl); (intro h' F' N')))
local macro_rules | `(tactic| walk_at "unpackItems ref") => `(tactic| ((refine' unpackItemsN_ ?F ?N ?T ?hh ?k1 ?_); (case F => with_reducible assumption); (case N => with_reducible assumption); (case T => first | (refine' News.isTup ?N2 ?M2; (case N2 => with_reducible assumption); (case M2 => walk_at "m_mem")) | exact Fr.tup (by with_reducible assumption) (by with_reducible assumption)); (case hh => first | exact rfl | assumption); (case k1 => exact rfl); (intro h' F' N')))
variable {d : Nat} {w : World} {p : Program} {loose : List Str} {mean : ExcName → Option Value} {mg mb : Str → Option Value} {A : Around} {h₀ : Heap} {s : Shared} {Q E : Value → Shared → Prop}
section
theorem hide_fr {h₁ : Heap} {L : Addr} {m : Str → Option Value} {as : List Addr} (F : Fr s.heap L h₁ m) : Fr (hideAll s.heap as) L h₁ m :=
  ⟨F.ns, fun b o e => F.keep b o (of_hideAll _ e), Nat.le_trans (Nat.le_of_eq (hideAll_size _ _)) F.above⟩
theorem hide_keep {as : List Addr} (k : ∀ b o, h₀.get? b = some o → s.heap.get? b = some o) (hn : ∀ a ∈ as, h₀.get? a = none) : ∀ b o, h₀.get? b = some o → (hideAll s.heap as).get? b = some o := fun b o e =>
  hideAll_get _ (k _ _ e) fun q => by rw [hn _ q] at e; cases e
theorem hide_new {h₁ : Heap} {L l : Addr} {m : Str → Option Value} {as : List Addr} {o : Obj} (F : Fr s.heap L h₁ m) (hl : s.heap.get? l = some o) (hm : l ∈ as) : h₁.get? l = some o ∧ l ≠ L ∧ (hideAll s.heap as).get? l = none :=
  ⟨F.keep _ _ hl, Nat.ne_of_lt (Nat.lt_of_lt_of_le (Heap.lt_size hl) F.above), hideAll_none _ hm⟩
theorem news_hide {h₁ : Heap} {L : Addr} {m : Str → Option Value} {as : List Addr} {news : List (Addr × Obj)} (_F : Fr s.heap L h₁ m) (N : News s.heap L h₁ news) : News (hideAll s.heap as) L h₁ news := fun q hq =>
  ⟨(N q hq).1, (N q hq).2.1, by
    cases e : (hideAll s.heap as).get? q.1 with
    | none => rfl
    | some o => have := of_hideAll _ e; rw [(N q hq).2.2] at this; cases this⟩
theorem hide_ext {h' : Heap} {as : List Addr} (k : ∀ b o, (hideAll s.heap as).get? b = some o → h'.get? b = some o) : ∀ b o, b ∉ as → s.heap.get? b = some o → h'.get? b = some o := fun b o hb e => k b o (hideAll_get _ e hb)
theorem ints_getD {ds : List Int} {lo : Nat} : ds.getD ((lo : Int)).toNat 0 = ds.getD lo 0 := by rw [Int.toNat_natCast]
noncomputable def dval (n : Nat) : List Int → Int
  | [] => 0
  | x :: xs => x + 2 ^ n * dval n xs
theorem dval_append (n : Nat) : ∀ xs ys : List Int, dval n (xs ++ ys) = dval n xs + 2 ^ (n * xs.length) * dval n ys
  | [], ys => by simp [dval]
  | x :: xs, ys => by
    rw [List.cons_append, dval, dval, dval_append n xs ys, List.length_cons, Nat.mul_succ, Int.pow_add, Int.mul_add, ← Int.mul_assoc, Int.mul_comm (2 ^ n) (2 ^ (n * xs.length)), Int.add_assoc]
theorem dval_one {n lo : Nat} {ds : List Int} (h : lo < ds.length) : dval n ((ds.drop lo).take (lo + 1 - lo)) = ds.getD lo 0 := by
  rw [List.drop_eq_getElem_cons h, show lo + 1 - lo = 1 by (first | lia | omega), List.take_succ_cons, List.take_zero]
  show ds[lo] + 2 ^ n * 0 = _
  rw [List.getD_eq_getElem?_getD, List.getElem?_eq_getElem h]
  simp
theorem dval_bound {n : Nat} : ∀ {xs : List Int}, (∀ x ∈ xs, 0 ≤ x ∧ x < 2 ^ n) → 0 ≤ dval n xs ∧ dval n xs < 2 ^ (n * xs.length)
  | [], _ => by simp [dval]
  | x :: xs, h => by
    have h1 := h x (.head _)
    have ⟨h2, h3⟩ := dval_bound (n := n) (xs := xs) fun y hy => h y (.tail _ hy)
    have hp : (0 : Int) < 2 ^ n := Int.pow_pos (by decide)
    rw [dval, List.length_cons, Nat.mul_succ, Int.pow_add, Int.mul_comm (2 ^ (n * xs.length))]
    have h4 : 2 ^ n * dval n xs ≤ 2 ^ n * (2 ^ (n * xs.length) - 1) := Int.mul_le_mul_of_nonneg_left (by (first | lia | omega)) (by (first | lia | omega))
    have h5 : 0 ≤ 2 ^ n * dval n xs := Int.mul_nonneg (by (first | lia | omega)) h2
    rw [Int.mul_sub] at h4
    (first | lia | omega)
theorem bits_of_lt {x : Int} {m : Nat} (h0 : 0 ≤ x) (h : x < 2 ^ m) : Builtin.Int.intBits x ≤ m := by
  refine PySem.intBits_le_iff.mpr ?_
  have : ((2 ^ m : Nat) : Int) = 2 ^ m := by rw [Int.natCast_pow]; rfl
  (first | lia | omega)
theorem dval_split {n lo mid hi : Nat} {ds : List Int} (h1 : lo ≤ mid) (h2 : mid ≤ hi) (h3 : hi ≤ ds.length) :
    dval n ((ds.drop lo).take (hi - lo)) = dval n ((ds.drop mid).take (hi - mid)) * 2 ^ ((mid - lo) * n) + dval n ((ds.drop lo).take (mid - lo)) := by
  have e : (ds.drop lo).take (hi - lo) = (ds.drop lo).take (mid - lo) ++ (ds.drop mid).take (hi - mid) := by
    rw [show hi - lo = (mid - lo) + (hi - mid) by (first | lia | omega), List.take_add, List.drop_drop, show lo + (mid - lo) = mid by (first | lia | omega)]
  rw [e, dval_append, List.length_take, List.length_drop, Nat.min_eq_left (by (first | lia | omega)), Int.add_comm, Int.mul_comm, Nat.mul_comm n]
abbrev pos62 : Pos := ⟨77, 4, 82, 55⟩
abbrev qual62 : Str := (Str.ofString "_digits2int" ++ ".<locals>.") ++ "inner"
theorem dig_spec {l : Addr} {vs : List Value} {ds : List Int} {n : Nat} {tn : Tok} (C : Cx (d + 40) w p loose mean mg mb A h₀ s.heap)
    (hl : s.heap.IsList l vs.toArray) (hI : IntsAre vs ds) (hlen : ds.length < 20) (hn : 0 < n ∧ n < 10000) (hds : ∀ x ∈ ds, 0 ≤ x ∧ x < 2 ^ n) (hT : TabOk 62 pos62 qual62 s.heap) (hn1 : h₀.get? 62 = none)
    (hret : ∀ h' t tk', (∀ b o, b ≠ 62 → s.heap.get? b = some o → h'.get? b = some o) → TabOk 62 pos62 qual62 h' → Q (.int (dval n ds) t) { s with heap := h', toks := tk' }) :
    wpAny (MM w) A (call (.ref 67) [.ref l, .int n tn]) Q E s := by
  walk_at "m_fill"
  refine' enterC (binds := [(Str.ofString "digits", .ref l), (Str.ofString "n", .int n tn)]) C ?ho ?hcd ?hb ?hl ?hnd ?_ ?c2 ?c3 ?c4
  case ho => k_is
  case hcd => k_is
  case hb => exact fun _ => rfl
  case hl => rfl
  case hnd => decide +kernel
  case c2 => rfl
  case c3 => rfl
  case c4 => rfl
  intro L h₁ tk cells F1 N1 Y
  k_cells Y
  rename_i oi on od di dn dd
  refine hideG ?_; intro XX kXX
  obtain ⟨ps, hps, hpt, hpc⟩ := hT
  refine kXX ?_; clear kXX XX
  have F := hide_fr (as := [62]) F1
  have hk := hide_keep (s := s) (as := [62]) C.k (by simpa using hn1)
  have h62 : (62 : Nat) < L := Nat.lt_of_lt_of_le (Heap.lt_size hps) F1.above
  have N : News (hideAll s.heap [62]) L h₁ [(62, tabObj ps), (L + 1 + 1 + 1, oi), (L + 1 + 1, on), (L + 1, od)] := List.forall_mem_cons.mpr ⟨hide_new F1 hps (.head _), news_hide F1 N1⟩
  have hl2 : (hideAll s.heap [62]).IsList l vs.toArray := by
    obtain ⟨o, e, hc, r⟩ := hl
    refine ⟨o, hideAll_get _ e (fun q => ?_), hc, r⟩
    rw [List.mem_singleton.mp q, hps] at e
    cases e; cases hc
  have X := C.X.keeps hk
  have T := C.T.keeps hk
  refine wpAny_execs_cons ?_
  refine nest_store (c := 66) (P := 62) F N ?_ ?_ T (C.c1.keeps hk) rfl hpt ?_ rfl rfl di rfl rfl rfl rfl rfl ?_
  · refine List.forall_mem_cons.mpr ⟨?_, List.forall_mem_cons.mpr ⟨?_, List.forall_mem_singleton.mpr ?_⟩⟩ <;> show (_ : Nat) ≠ 62 <;> (first | lia | omega)
  · refine List.forall_mem_cons.mpr ⟨?_, List.forall_mem_singleton.mpr ?_⟩ <;> show (_ : Nat) ≠ (_ : Nat) <;> (first | lia | omega)
  · exact hpc.imp id fun ⟨c', e1, e2⟩ => ⟨c', e1, e2.keeps F1.keep⟩
  intro f c' ctv doc h3 tk2 ps2 oi3 F3 N3 d3 hrec hpt2 hpc2 hcf hPf hlf
  have hof := (N3 _ (.head _)).1
  have hdd : od.data = .cell (some (.ref l)) := dd
  have hdn : on.data = .cell (some (.int n tn)) := dn
  clear N F1 N1 F di dn dd
  generalize hoF : fnMade _ _ _ _ _ _ _ _ _ _ = oF at hof N3
  -- the inner def, by induction on the stretch
  have inner : ∀ k (A' : Around) (s' : Shared) (lo hi : Nat) (tl th : Tok) (Q' E' : Value → Shared → Prop), hi - lo = k → lo < hi → hi ≤ ds.length → A'.depth + k < recursionLimit → A'.units + 10 * k < cLine → A'.handled = none →
      (∀ b o, h3.get? b = some o → s'.heap.get? b = some o) →
      (∀ h' t tk', (∀ b o, s'.heap.get? b = some o → h'.get? b = some o) → Q' (.int (dval n ((ds.drop lo).take (hi - lo))) t) { s' with heap := h', toks := tk' }) →
      wpAny (MM w) A' (call (.ref f) [.int lo tl, .int hi th]) Q' E' s' := by
    intro k
    induction k using Nat.strongRecOn with
    | ind k ih =>
      intro A' s' lo hi tl th Q' E' hk' hlo hhi hd hu hh hkeep hret'
      have hof' := hkeep _ _ hof
      rw [← hoF] at hof'
      have gi := hkeep _ _ (N3 _ (.tail _ (.tail _ (.head _)))).1
      have gn := hkeep _ _ (N3 _ (.tail _ (.tail _ (.tail _ (.head _))))).1
      have gd := hkeep _ _ (N3 _ (.tail _ (.tail _ (.tail _ (.tail _ (.head _)))))).1
      refine enterX (binds := [(Str.ofString "L", .int lo tl), (Str.ofString "R", .int hi th)]) hof' rfl (hrec.keeps hkeep) (by (first | lia | omega)) ((T.nolimit.keeps F3.keep).keeps hkeep) (BindsTo.of_eq rfl) (locs rfl) ?_ (by decide) rfl rfl rfl
      intro h5 F5
      have X5 := (X.keeps F3.keep).keeps hkeep
      have T5 := (T.keeps F3.keep).keeps hkeep
      have hl5 : s'.heap.IsList l vs.toArray := (hl2.at fun o e => F3.keep l o e).at fun o e => hkeep l o e
      have fn5 : FnAt f s'.heap := ⟨_, _, _, _, hof'⟩
      have N5 : News s'.heap s'.heap.objs.size h5 [] := News.nil
      have hvl := hI.length
      walk_at "m_run"
      · have e : hi = lo + 1 := by (first | lia | omega)
        subst e
        have hv := dval_one (n := n) (show lo < ds.length by (first | lia | omega))
        rw [hv] at hret'
        exact ints_getD ▸ hret' _ _ _ F5.keep
      · (rename Fr _ _ _ _ => F6); (rename News _ _ _ _ => N6); (rename ¬ (_ = _) => hne)
        have hmid : ((lo : Int) + hi).fdiv (2 ^ Int.toNat 1) = ((lo + hi) / 2 : Nat) := by
          rw [show (2 : Int) ^ Int.toNat 1 = 2 by decide, Int.fdiv_eq_ediv_of_nonneg _ (by (first | lia | omega))]; (first | lia | omega)
        rw [hmid] at F6 ⊢
        have hml : lo < (lo + hi) / 2 ∧ (lo + hi) / 2 < hi := by (first | lia | omega)
        generalize (lo + hi) / 2 = mid at *
        refine ih (hi - mid) (by (first | lia | omega)) _ _ mid hi _ _ _ _ rfl hml.2 hhi ?_ ?_ hh (fun b o e => F6.keep _ _ (hkeep _ _ e)) ?_
        · show A'.depth + 1 + _ < _; (first | lia | omega)
        · show A'.units + 3 + _ < _; (first | lia | omega)
        intro h7 t7 tk7 hk7
        replace F6 := Fr.ext F6 hk7
        replace N6 := News.ext N6 hk7
        walk_at "m_run"
        have hsl : ∀ x ∈ (ds.drop mid).take (hi - mid), 0 ≤ x ∧ x < 2 ^ n := fun x hx => hds x (List.mem_of_mem_drop (List.mem_of_mem_take hx))
        have hbd := dval_bound hsl
        have hlen2 : ((ds.drop mid).take (hi - mid)).length = hi - mid := by rw [List.length_take, List.length_drop]; (first | lia | omega)
        rw [hlen2] at hbd
        have hsh : ((mid : Int) - lo) * n = (((mid - lo) * n : Nat) : Int) := by rw [Int.natCast_mul, Int.natCast_sub (by (first | lia | omega))]
        have hsb : (mid - lo) * n ≤ 20 * 10000 := Nat.mul_le_mul (by (first | lia | omega)) (by (first | lia | omega))
        have hsb2 : n * (hi - mid) ≤ 10000 * 20 := Nat.mul_le_mul (by (first | lia | omega)) (by (first | lia | omega))
        rw [hsh]
        refine lshift_int (by (first | lia | omega)) ?_ ?_
        · have := bits_of_lt hbd.1 hbd.2
          (first | lia | omega)
        rw [Int.toNat_natCast]
        walk_at "m_run"
        refine ih (mid - lo) (by (first | lia | omega)) _ _ lo mid _ _ _ _ rfl hml.1 (by (first | lia | omega)) ?_ ?_ hh (fun b o e => F6.keep _ _ (hkeep _ _ e)) ?_
        · show A'.depth + 1 + _ < _; (first | lia | omega)
        · show A'.units + 3 + _ < _; (first | lia | omega)
        intro h8 t8 tk8 hk8
        replace F6 := Fr.ext F6 hk8
        replace N6 := News.ext N6 hk8
        walk_at "m_run"
        rw [dval_split (by (first | lia | omega) : lo ≤ mid) (by (first | lia | omega)) hhi] at hret'
        exact hret' _ _ _ F6.keep
  have fn3 : FnAt f h3 := by
    have hof3 := hof
    rw [← hoF] at hof3
    exact ⟨_, _, _, _, hof3⟩
  have fin : ∀ h' t tk', (∀ b o, h3.get? b = some o → h'.get? b = some o) → Q (.int (dval n ds) t) { s with heap := h', toks := tk' } := fun h' t tk' hk' =>
    hret h' t tk' (fun b o hb e => hk' _ _ (F3.keep _ _ (hideAll_get _ e (by simpa using hb)))) ⟨ps2, hk' _ _ (N3 _ (.tail _ (.head _))).1, hpt2, .inr ⟨c', hpc2, hrec.keeps hk'⟩⟩
  have hvl := hI.length
  have hlz : ds.length = 0 → dval n ds = 0 := fun h => by rw [List.length_eq_zero_iff.mp h]; rfl
  have hdr : (ds.drop 0).take (ds.length - 0) = ds := by rw [List.drop_zero, Nat.sub_zero, List.take_length]
  walk_at "m_run"
  · (rename 0 < ds.length => hpos)
    refine inner ds.length _ _ 0 ds.length _ _ _ _ (by (first | lia | omega)) hpos (Nat.le_refl _) ?_ ?_ C.hh (fun _ _ e => e) ?_
    · have := C.hd; show A.depth + 1 + _ < _; (first | lia | omega)
    · have := C.hu; show A.units + 3 + _ < _; (first | lia | omega)
    intro h7 t7 tk7 hk7
    rw [hdr]
    exact fin _ _ _ hk7
  · (rename ¬ (0 < ds.length) => hpos)
    have h0 : ∀ t tk', Q (.int 0 t) { s with heap := h3, toks := tk' } := fun t tk' => by
      have := fin h3 t tk' fun _ _ e => e
      rw [hlz (by (first | lia | omega))] at this
      exact this
    exact h0 _ _
end
section
abbrev pos55 : Pos := ⟨62, 4, 71, 28⟩
abbrev qual55 : Str := (Str.ofString "_int2digits" ++ ".<locals>.") ++ "inner"
/-- the k lowest digits of x by 2 ^ n -/
noncomputable def digs (n : Nat) : Nat → Int → List Int
  | 0, _ => []
  | k + 1, x => x % 2 ^ n :: digs n k (x / 2 ^ n)
noncomputable def digCount (n : Nat) (a : Int) : Nat := (Builtin.Int.intBits a + n - 1) / n
theorem and_high (x k : Nat) : x &&& (x / 2 ^ k * 2 ^ k) = x / 2 ^ k * 2 ^ k := by
  apply Nat.eq_of_testBit_eq
  intro i
  rw [Nat.testBit_and, Nat.testBit_mul_two_pow, Nat.testBit_div_two_pow]
  by_cases h : k ≤ i
  · simp [h, Nat.sub_add_cancel h]
  · simp [h]
theorem xor_high {x : Int} {k : Nat} (h : 0 ≤ x) : Builtin.bitXor x (x / 2 ^ k * 2 ^ k) = x % 2 ^ k := by
  obtain ⟨x, rfl⟩ := Int.eq_ofNat_of_zero_le h
  have e : ((x : Int) / 2 ^ k * 2 ^ k) = ((x / 2 ^ k * 2 ^ k : Nat) : Int) := by simp
  rw [bitXor_and, e, bitAnd_pp (by (first | lia | omega)) (by (first | lia | omega)), Int.toNat_natCast, Int.toNat_natCast, and_high, ← e]
  have := Int.emod_add_mul_ediv (x : Int) (2 ^ k)
  rw [Int.mul_comm] at this
  (first | lia | omega)
theorem setL_set : ∀ (vs : List Value) (k : Nat) (v : Value), k < vs.length → ki_setL vs k v = some (vs.set k v)
  | [], k, v, h => by simp at h
  | x :: xs, 0, v, h => rfl
  | x :: xs, k + 1, v, h => by
    have := setL_set xs k v (by simpa using h)
    simp [ki_setL, this]
theorem Fr.ext2 {g h h' : Heap} {L D : Addr} {m : Str → Option Value} (F : Fr g L h m) (hg : g.get? D = none) (hL : D ≠ L) (hk : ∀ b o, b ≠ D → h.get? b = some o → h'.get? b = some o) : Fr g L h' m := by
  obtain ⟨⟨o, es, ep, a, b, c, d⟩, k, ab⟩ := F
  exact ⟨⟨o, es, ep, hk _ _ (Ne.symm hL) a, b, c, d⟩, fun b o e => hk _ _ (fun q => by rw [q, hg] at e; cases e) (k _ _ e), ab⟩
theorem codeRec_hide {g : Heap} {P : Addr} {ps : Array Value} {v : Value} {q : Str} (h : g.CodeRec v q) (hP : g.get? P = some (tabObj ps)) (ht : TriplesOk ps.toList) : (hideAll g [P]).CodeRec v q := by
  obtain ⟨c₂, oc, vs, t, e2, hoc, hd, hv⟩ := h
  refine ⟨c₂, oc, vs, t, e2, hideAll_get _ hoc (fun e => ?_), hd, hv⟩
  rw [List.mem_singleton.mp e, hP] at hoc
  cases hoc
  cases hd
  rw [← Array.getElem?_toList] at hv
  cases e1 : ps.toList with
  | nil => rw [e1] at hv; cases hv
  | cons a r =>
    cases r with
    | nil => rw [e1] at hv; cases hv
    | cons b r =>
      rw [e1] at hv ht
      cases hv
      cases a <;> exact ht.elim
theorem rshift_int {prog : Program} {w : World} {A : Around} {s : Shared} {Q E : Value → Shared → Prop} {a : Int} {k : Nat} {t u : Tok} (ha : 0 ≤ a) (h : Q (.int (a / 2 ^ k) s.toks) { s with toks := s.toks + 1 }) : wpAny (model prog w) A (binaryOp .RShift (.int a t) (.int k u)) Q E s := by
  by_cases hk : (k : Int) ≥ ((Builtin.Int.intBits a : Nat) : Int)
  · refine PySem.AutoIntOps.rshift_1 (by (first | lia | omega)) hk ?_
    have hb : a < 2 ^ k := by
      have := PySem.intBits_le_iff.mp (show Builtin.Int.intBits a ≤ k by (first | lia | omega))
      have e : ((2 ^ k : Nat) : Int) = 2 ^ k := by rw [Int.natCast_pow]; rfl
      (first | lia | omega)
    rw [if_neg (by (first | lia | omega)), ← Int.ediv_eq_zero_of_lt ha hb]
    exact h
  · refine PySem.AutoIntOps.rshift_2 (by (first | lia | omega)) hk ?_
    rw [Int.toNat_natCast, Int.fdiv_eq_ediv_of_nonneg _ (Int.pow_nonneg (by decide))]
    exact h
theorem seg_join {α : Type} {vs us1 us2 : List α} {lo mid hi : Nat} (h0 : lo ≤ mid) (h1 : mid ≤ hi) (h2 : hi ≤ vs.length) (hu : us1.length = mid - lo) :
    (vs.take lo ++ (us1 ++ vs.drop mid)).take mid ++ (us2 ++ (vs.take lo ++ (us1 ++ vs.drop mid)).drop hi) = vs.take lo ++ ((us1 ++ us2) ++ vs.drop hi) := by
  have hl : (vs.take lo ++ us1).length = mid := by rw [List.length_append, List.length_take, hu]; (first | lia | omega)
  rw [← List.append_assoc (vs.take lo) us1, List.take_append, List.drop_append, hl, List.drop_drop, List.take_of_length_le (Nat.le_of_eq hl), List.drop_of_length_le (l := vs.take lo ++ us1) (Nat.le_trans (Nat.le_of_eq hl) h1), show mid + (hi - mid) = hi by (first | lia | omega)]
  simp
theorem codeRec_off {h h' : Heap} {D : Addr} {K c : Nat} {t : Tok} {v : Value} {q : Str} (R : h.CodeRec v q) (hD : h.get? D = some (listV (List.replicate K (.int 0 t)) c)) (k : ∀ b o, b ≠ D → h.get? b = some o → h'.get? b = some o) : h'.CodeRec v q := by
  obtain ⟨c₂, oc, vs, t, e2, hoc, hd, hv⟩ := R
  refine ⟨c₂, oc, vs, t, e2, k _ _ (fun e => ?_) hoc, hd, hv⟩
  rw [e, hD] at hoc
  cases hoc
  cases hd
theorem digs_len (n : Nat) : ∀ (k : Nat) (x : Int), (digs n k x).length = k
  | 0, _ => rfl
  | k + 1, x => by rw [digs, List.length_cons, digs_len]
theorem emod_mul_ediv {x A B : Int} (hA : 0 < A) : x % (A * B) / A = x / A % B := by
  have h1 : x % (A * B) = x + A * (-(B * (x / (A * B)))) := by
    have := Int.emod_add_mul_ediv x (A * B)
    rw [Int.mul_neg, ← Int.mul_assoc]
    (first | lia | omega)
  have h2 := Int.emod_add_mul_ediv (x / A) B
  rw [h1, Int.add_mul_ediv_left _ _ (by (first | lia | omega)), ← Int.ediv_ediv_of_nonneg (by (first | lia | omega))]
  (first | lia | omega)
theorem digs_mod (n : Nat) : ∀ (k : Nat) (x : Int) (j : Nat), k ≤ j → digs n k (x % 2 ^ (n * j)) = digs n k x
  | 0, _, _, _ => rfl
  | k + 1, x, 0, h => by (first | lia | omega)
  | k + 1, x, j + 1, h => by
    have e : (2 : Int) ^ (n * (j + 1)) = 2 ^ n * 2 ^ (n * j) := by rw [Nat.mul_succ, Nat.add_comm, Int.pow_add]
    rw [digs, digs, e, Int.emod_emod_of_dvd _ (Int.dvd_mul_right _ _), emod_mul_ediv (Int.pow_pos (by decide)), digs_mod n k _ j (by (first | lia | omega))]
theorem digs_append (n : Nat) : ∀ (j k : Nat) (x : Int), digs n (j + k) x = digs n j x ++ digs n k (x / 2 ^ (n * j))
  | 0, k, x => by simp [digs]
  | j + 1, k, x => by
    rw [Nat.add_right_comm, digs, digs, digs_append n j k, List.cons_append, Int.ediv_ediv_of_nonneg (Int.pow_nonneg (by decide)), ← Int.pow_add, Nat.mul_succ, Nat.add_comm n]
theorem i2d_spec {n : Nat} {a : Int} {ta tn : Tok} (C : Cx (d + 40) w p loose mean mg mb A h₀ s.heap)
    (hn : 0 < n ∧ n < 10000) (ha : 0 ≤ a ∧ a < 2 ^ (n * 19)) (hT : TabOk 55 pos55 qual55 s.heap) (hn1 : h₀.get? 55 = none)
    (hret : ∀ h' D vs c tk', (∀ b o, b ≠ 55 → s.heap.get? b = some o → h'.get? b = some o) → TabOk 55 pos55 qual55 h' → s.heap.get? D = none → h'.get? D = some (listV vs c) → IntsAre vs (digs n (digCount n a) a) → Q (.ref D) { s with heap := h', toks := tk' }) :
    wpAny (MM w) A (call (.ref 60) [.int a ta, .int n tn]) Q E s := by
  walk_at "m_fill"
  refine' enterC (binds := [(Str.ofString "a", .int a ta), (Str.ofString "n", .int n tn)]) C ?ho ?hcd ?hb ?hl ?hnd ?_ ?c2 ?c3 ?c4
  case ho => k_is
  case hcd => k_is
  case hb => exact fun _ => rfl
  case hl => rfl
  case hnd => decide +kernel
  case c2 => rfl
  case c3 => rfl
  case c4 => rfl
  intro L h₁ tk cells F1 N1 Y
  k_cells Y
  rename_i oi od on di dd dn
  refine hideG ?_; intro XX kXX
  obtain ⟨ps, hps, hpt, hpc⟩ := hT
  refine kXX ?_; clear kXX XX
  have F := hide_fr (as := [55]) F1
  have hk := hide_keep (s := s) (as := [55]) C.k (by simpa using hn1)
  have h55 : (55 : Nat) < L := Nat.lt_of_lt_of_le (Heap.lt_size hps) F1.above
  have N : News (hideAll s.heap [55]) L h₁ [(55, tabObj ps), (L + 1 + 1 + 1, oi), (L + 1 + 1, od), (L + 1, on)] := List.forall_mem_cons.mpr ⟨hide_new F1 hps (.head _), news_hide F1 N1⟩
  have X := C.X.keeps hk
  have T := C.T.keeps hk
  have hK : ((Builtin.Int.intBits a : Int) + n - 1).fdiv n = (digCount n a : Nat) := by
    rw [Int.fdiv_eq_ediv_of_nonneg _ (by (first | lia | omega))]
    unfold digCount
    rw [Int.natCast_ediv, Int.natCast_sub (by (first | lia | omega)), Int.natCast_add]
    rfl
  have hK2 : digCount n a ≤ 19 := by
    have h1 := bits_of_lt ha.1 ha.2
    unfold digCount
    rw [← Nat.lt_succ_iff, Nat.div_lt_iff_lt_mul hn.1, Nat.succ_mul, Nat.mul_comm]
    (first | lia | omega)
  walk_at "m_run"
  (rename Fr _ _ _ _ => F2); (rename News _ _ _ _ => N2)
  rw [hK]
  generalize hKK : digCount n a = K at *
  refine KMa.mul F2 N2 (N2.isList (.head _)) (by (first | lia | omega)) (by (first | lia | omega)) ?_ rfl ?_
  · rw [Int.toNat_natCast]; simp; (first | lia | omega)
  intro D h2 F3 N3 hD
  rw [Int.toNat_natCast] at N3
  have g1 := N3 _ (.head _)
  have g55 := N3 _ (.tail _ (.tail _ (.head _)))
  have gi := N3 _ (.tail _ (.tail _ (.tail _ (.head _))))
  have gd := N3 _ (.tail _ (.tail _ (.tail _ (.tail _ (.head _)))))
  have gn := N3 _ (.tail _ (.tail _ (.tail _ (.tail _ (.tail _ (.head _))))))
  have hD1 : @LT.lt Nat _ 55 D := hD _ (.tail _ (.head _))
  have hD2 : @LT.lt Nat _ (L + 1 + 1 + 1) D := hD _ (.tail _ (.tail _ (.head _)))
  replace N3 : News (hideAll s.heap [55]) L h2 [(L + 1 + 1, od), (55, tabObj ps), (L + 1 + 1 + 1, oi), (L + 1, on), (D, listV ((List.replicate K [.int 0 _]).flatten) 0)] := List.forall_mem_cons.mpr ⟨gd, List.forall_mem_cons.mpr ⟨g55, List.forall_mem_cons.mpr ⟨gi, List.forall_mem_cons.mpr ⟨gn, List.forall_mem_cons.mpr ⟨g1, List.forall_mem_nil _⟩⟩⟩⟩⟩
  walk_at "m_run"
  (rename Fr _ _ _ _ => F4); (rename News _ _ _ _ => N4); rename_i od2 dd2
  have g2 := N4 _ (.head _)
  have g55 := N4 _ (.tail _ (.head _))
  have gi := N4 _ (.tail _ (.tail _ (.head _)))
  have gn := N4 _ (.tail _ (.tail _ (.tail _ (.head _))))
  have g1 := N4 _ (.tail _ (.tail _ (.tail _ (.tail _ (.head _)))))
  replace N4 : News (hideAll s.heap [55]) L _ [(55, tabObj ps), (L + 1 + 1 + 1, oi), (L + 1, on), (L + 1 + 1, od2), (D, listV ((List.replicate K [.int 0 _]).flatten) 0)] := List.forall_mem_cons.mpr ⟨g55, List.forall_mem_cons.mpr ⟨gi, List.forall_mem_cons.mpr ⟨gn, List.forall_mem_cons.mpr ⟨g2, List.forall_mem_cons.mpr ⟨g1, List.forall_mem_nil _⟩⟩⟩⟩⟩
  refine nest_store (c := 59) (P := 55) F4 N4 ?_ ?_ T (C.c2.keeps hk) rfl hpt ?_ rfl rfl di rfl rfl rfl rfl rfl ?_
  · refine List.forall_mem_cons.mpr ⟨?_, List.forall_mem_cons.mpr ⟨?_, List.forall_mem_cons.mpr ⟨?_, List.forall_mem_singleton.mpr ?_⟩⟩⟩ <;> show (_ : Nat) ≠ 55 <;> (first | lia | omega)
  · refine List.forall_mem_cons.mpr ⟨?_, List.forall_mem_cons.mpr ⟨?_, List.forall_mem_singleton.mpr ?_⟩⟩ <;> show (_ : Nat) ≠ (_ : Nat) <;> (first | lia | omega)
  · exact hpc.imp id fun ⟨c', e1, e2⟩ => ⟨c', e1, (codeRec_hide e2 hps hpt).keeps F4.keep⟩
  intro f c' ctv doc h4 tk2 ps2 oi3 F5 N5 d3 hrec hpt2 hpc2 hcf hPf hlf
  have hof := (N5 _ (.head _)).1
  have hdn : on.data = .cell (some (.int n tn)) := dn
  have hfD : @LT.lt Nat _ D f := hlf _ (.tail _ (.tail _ (.head _)))
  have hvs0 : ∀ t : Tok, (List.replicate K [Value.int 0 t]).flatten = List.replicate K (.int 0 t) := fun t => by
    simp [List.flatten_replicate_singleton]
  rw [hvs0] at N5
  clear N4 F1 F4 g1 g2 g55 gi gd gn dd di dn
  generalize hoF : fnMade _ _ _ _ _ _ _ _ _ _ = oF at hof N5
  have inner : ∀ k (A' : Around) (s' : Shared) (lo hi : Nat) (x : Int) (vs : List Value) (c0 : Nat) (tx tl th : Tok) (Q' E' : Value → Shared → Prop), hi - lo = k → lo < hi → hi ≤ K → 0 ≤ x → x < 2 ^ (n * (hi - lo)) → vs.length = K → A'.depth + k < recursionLimit → A'.units + 10 * k < cLine → A'.handled = none →
      (∀ b o, b ≠ D → h4.get? b = some o → s'.heap.get? b = some o) → s'.heap.get? D = some (listV vs c0) →
      (∀ h' us tk', (∀ b o, b ≠ D → s'.heap.get? b = some o → h'.get? b = some o) → h'.get? D = some (listV (vs.take lo ++ (us ++ vs.drop hi)) c0) → IntsAre us (digs n (hi - lo) x) → Q' .none { s' with heap := h', toks := tk' }) →
      wpAny (MM w) A' (call (.ref f) [.int x tx, .int lo tl, .int hi th]) Q' E' s' := by
    intro k
    induction k using Nat.strongRecOn with
    | ind k ih =>
      intro A' s' lo hi x vs c0 tx tl th Q' E' hk' hlo hhi hx0 hx1 hvl hd hu hh hkeep hD' hret'
      have hof' := hkeep _ _ (Nat.ne_of_gt hfD) hof
      rw [← hoF] at hof'
      have gD := N5 _ (.tail _ (.tail _ (.tail _ (.tail _ (.tail _ (.head _))))))
      have keep2 : ∀ b o, (hideAll s.heap [55]).get? b = some o → (hideAll s'.heap [D]).get? b = some o := fun b o e =>
        have hb : b ≠ D := fun q => by rw [q, gD.2.2] at e; cases e
        hideAll_get _ (hkeep _ _ hb (F5.keep _ _ e)) (by simpa using hb)
      have ofN : ∀ b o, b ≠ D → h4.get? b = some o → (hideAll s'.heap [D]).get? b = some o := fun b o hb e => hideAll_get _ (hkeep _ _ hb e) (by simpa using hb)
      have gi := ofN _ _ (show (_ : Nat) ≠ (_ : Nat) by (first | lia | omega)) (N5 _ (.tail _ (.tail _ (.head _)))).1
      have gn := ofN _ _ (show (_ : Nat) ≠ (_ : Nat) by (first | lia | omega)) (N5 _ (.tail _ (.tail _ (.tail _ (.head _))))).1
      have gd := ofN _ _ (show (_ : Nat) ≠ (_ : Nat) by (first | lia | omega)) (N5 _ (.tail _ (.tail _ (.tail _ (.tail _ (.head _)))))).1
      have hrec' : s'.heap.CodeRec (Value.ref c') qual55 := codeRec_off hrec gD.1 hkeep
      refine enterX (binds := [(Str.ofString "x", .int x tx), (Str.ofString "L", .int lo tl), (Str.ofString "R", .int hi th)]) hof' rfl hrec' (by (first | lia | omega)) ((T.nolimit.keeps keep2).keeps fun _ _ e => of_hideAll _ e) (BindsTo.of_eq rfl) (locs rfl) ?_ (by decide) rfl rfl rfl
      intro h5 F50
      have F5 := hide_fr (as := [D]) F50
      have X5 := X.keeps keep2
      have T5 := T.keeps keep2
      have fn5 : FnAt f (hideAll s'.heap [D]) := ⟨_, _, _, _, hideAll_get _ hof' (by simpa using Nat.ne_of_gt hfD)⟩
      have N5 : News (hideAll s'.heap [D]) s'.heap.objs.size h5 [(D, listV vs c0)] := List.forall_mem_singleton.mpr (hide_new F50 hD' (.head _))
      have hnv : (hideAll s'.heap [D]).get? D = none := hideAll_none _ (.head _)
      have hDL : D ≠ s'.heap.objs.size := Nat.ne_of_lt (Heap.lt_size hD')
      have hpw := Int.natCast_pow 2
      walk_at "m_run"
      · have e : hi = lo + 1 := by (first | lia | omega)
        subst e
        (rename Fr _ _ _ _ => F6); (rename News _ _ _ _ => N6)
        refine ki_set (q := vs.set lo (.int x tx)) F6 N6 (by (first | lia | omega)) (by (first | lia | omega)) ?_ (.head (List.forall_mem_nil _)) ?_
        · rw [Int.toNat_natCast, List.toList_toArray]; exact setL_set vs _ _ (by (first | lia | omega))
        intro h7 F7 N7
        have hr := hret' h7 [.int x tx]
        have e1 : vs.set lo (.int x tx) = vs.take lo ++ ([.int x tx] ++ vs.drop (lo + 1)) := by
          rw [List.set_eq_take_append_cons_drop, if_pos (by (first | lia | omega))]; rfl
        have e2 : digs n (lo + 1 - lo) x = [x] := by
          rw [Nat.add_sub_cancel_left] at hx1 ⊢
          rw [Nat.mul_one] at hx1
          rw [digs, digs, Int.emod_eq_of_lt hx0 hx1]
        rw [e2, ← e1] at hr
        try dsimp only
        walk_at "m_run"
        exact hr _ (fun b o hb e => F7.keep _ _ (hideAll_get _ e (by simpa using hb))) (N7 _ (.head _)).1 (IntsAre.cons _ _ IntsAre.nil)
      · (rename Fr _ _ _ _ => F6); (rename News _ _ _ _ => N6); (rename ¬ (_ = _) => hne)
        have hmid : ((lo : Int) + hi).fdiv (2 ^ Int.toNat 1) = ((lo + hi) / 2 : Nat) := by
          rw [show (2 : Int) ^ Int.toNat 1 = 2 by decide, Int.fdiv_eq_ediv_of_nonneg _ (by (first | lia | omega))]; (first | lia | omega)
        rw [hmid] at F6 ⊢
        have hml : lo < (lo + hi) / 2 ∧ (lo + hi) / 2 < hi := by (first | lia | omega)
        generalize (lo + hi) / 2 = mid at *
        have hsh : ((mid : Int) - lo) * n = (((mid - lo) * n : Nat) : Int) := by rw [Int.natCast_mul, Int.natCast_sub (by (first | lia | omega))]
        rw [hsh] at F6 ⊢
        refine rshift_int hx0 ?_
        have hp : (0 : Int) < 2 ^ ((mid - lo) * n) := Int.pow_pos (by decide)
        have hu0 : 0 ≤ x / 2 ^ ((mid - lo) * n) := Int.ediv_nonneg hx0 (by (first | lia | omega))
        have hsb : (mid - lo) * n ≤ 20 * 10000 := Nat.mul_le_mul (by (first | lia | omega)) (by (first | lia | omega))
        have hsb2 : n * (hi - mid) ≤ 10000 * 20 := Nat.mul_le_mul (by (first | lia | omega)) (by (first | lia | omega))
        have hx2 : x / 2 ^ ((mid - lo) * n) < 2 ^ (n * (hi - mid)) := by
          refine Int.ediv_lt_of_lt_mul hp ?_
          rw [← Int.pow_add, Nat.mul_comm (mid - lo), ← Nat.mul_add, show hi - mid + (mid - lo) = hi - lo by (first | lia | omega)]
          exact hx1
        have hd1 : digs n (hi - lo) x = digs n (mid - lo) (x % 2 ^ ((mid - lo) * n)) ++ digs n (hi - mid) (x / 2 ^ ((mid - lo) * n)) := by
          rw [show hi - lo = (mid - lo) + (hi - mid) by (first | lia | omega), digs_append, Nat.mul_comm (mid - lo) n, digs_mod _ _ _ _ (Nat.le_refl _)]
        have hlow : x % 2 ^ ((mid - lo) * n) < 2 ^ (n * (mid - lo)) := by rw [Nat.mul_comm n]; exact Int.emod_lt_of_pos _ hp
        have hl0 : 0 ≤ x % 2 ^ ((mid - lo) * n) := Int.emod_nonneg _ (by (first | lia | omega))
        have hxh := xor_high (k := (mid - lo) * n) hx0
        walk_at "m_run"
        refine lshift_int (by (first | lia | omega)) ?_ ?_
        · have := bits_of_lt hu0 hx2
          (first | lia | omega)
        rw [Int.toNat_natCast]
        walk_at "m_run"
        rw [hxh]
        refine ih (mid - lo) (by (first | lia | omega)) _ _ lo mid _ vs c0 _ _ _ _ _ rfl hml.1 (by (first | lia | omega)) hl0 hlow hvl ?_ ?_ hh ?_ ?_ ?_
        · show A'.depth + 1 + _ < _; (first | lia | omega)
        · show A'.units + 3 + _ < _; (first | lia | omega)
        · exact fun b o hb e => by (rename Fr _ _ _ _ => F7); exact F7.keep _ _ (ofN b o hb e)
        · (rename News _ _ _ _ => N7); exact (N7 _ (.head _)).1
        intro h7 us1 tk7 hk7 hD7 hI7
        (rename Fr _ _ _ _ => F7)
        replace F7 := Fr.ext2 F7 hnv hDL hk7
        have N7 : News (hideAll s'.heap [D]) s'.heap.objs.size h7 [(D, listV (vs.take lo ++ (us1 ++ vs.drop mid)) c0)] := List.forall_mem_singleton.mpr ⟨hD7, hDL, hnv⟩
        have hu1 : us1.length = mid - lo := by rw [hI7.length, digs_len]
        walk_at "m_run"
        refine ih (hi - mid) (by (first | lia | omega)) _ _ mid hi _ (vs.take lo ++ (us1 ++ vs.drop mid)) c0 _ _ _ _ _ rfl hml.2 hhi hu0 hx2 ?_ ?_ ?_ hh ?_ hD7 ?_
        · simp; (first | lia | omega)
        · show A'.depth + 1 + _ < _; (first | lia | omega)
        · show A'.units + 3 + _ < _; (first | lia | omega)
        · exact fun b o hb e => F7.keep _ _ (ofN b o hb e)
        intro h8 us2 tk8 hk8 hD8 hI8
        replace F7 := Fr.ext2 F7 hnv hDL hk8
        walk_at "m_run"
        refine hret' h8 (us1 ++ us2) _ (fun b o hb e => F7.keep _ _ (hideAll_get _ e (by simpa using hb))) ?_ (hd1 ▸ intsAre_append hI7 hI8)
        rw [hD8]
        rw [seg_join (by (first | lia | omega)) (by (first | lia | omega)) (by (first | lia | omega)) hu1]
  have fin : ∀ h' us c tk', (∀ b o, b ≠ D → h4.get? b = some o → h'.get? b = some o) → h'.get? D = some (listV us c) → IntsAre us (digs n K a) → Q (.ref D) { s with heap := h', toks := tk' } := fun h' us c tk' hk' hD' hI => by
    have gD := N5 _ (.tail _ (.tail _ (.tail _ (.tail _ (.tail _ (.head _))))))
    refine hret h' D us c tk' (fun b o hb e => ?_) ⟨ps2, hk' _ _ (show (_ : Nat) ≠ (_ : Nat) by (first | lia | omega)) (N5 _ (.tail _ (.head _))).1, hpt2, .inr ⟨c', hpc2, codeRec_off hrec gD.1 hk'⟩⟩ ?_ hD' hI
    · have e2 := hideAll_get [55] e (by simpa using hb)
      exact hk' _ _ (fun q => by rw [q, gD.2.2] at e2; cases e2) (F5.keep _ _ e2)
    · cases e : s.heap.get? D with
      | none => rfl
      | some o =>
        have e2 := hideAll_get [55] e (by simpa using Nat.ne_of_gt hD1)
        rw [gD.2.2] at e2; cases e2
  have gD := N5 _ (.tail _ (.tail _ (.tail _ (.tail _ (.tail _ (.head _))))))
  have fn4 : FnAt f h4 := by
    have hof3 := hof
    rw [← hoF] at hof3
    exact ⟨_, _, _, _, hof3⟩
  have hab := bits_of_lt ha.1 ha.2
  try dsimp only
  walk_at "m_run"
  · (rename ¬ (a = 0) => hne)
    have hak : a < 2 ^ (n * K) := by
      have h0 : Builtin.Int.intBits a ≤ n * K := by
        rw [← hKK]
        unfold digCount
        have := Nat.div_add_mod (Builtin.Int.intBits a + n - 1) n
        have := Nat.mod_lt (Builtin.Int.intBits a + n - 1) hn.1
        (first | lia | omega)
      have h1 := PySem.intBits_le_iff.mp h0
      have e : ((2 ^ (n * K) : Nat) : Int) = 2 ^ (n * K) := by rw [Int.natCast_pow]; rfl
      (first | lia | omega)
    have hKpos : 0 < K := by
      rcases Nat.eq_zero_or_pos K with h | h
      · rw [h, Nat.mul_zero, Int.pow_zero] at hak; (first | lia | omega)
      · exact h
    refine KM.len_K (n := K) N5 (.tail _ (.tail _ (.tail _ (.tail _ (.tail _ (.head _)))))) (by simp) (by (first | lia | omega)) ?_
    walk_at "m_run"
    refine inner K _ _ 0 K a _ 0 _ _ _ _ _ (by (first | lia | omega)) hKpos (Nat.le_refl _) ha.1 (by rw [Nat.sub_zero]; exact hak) ?_ ?_ ?_ C.hh (fun _ _ _ e => e) gD.1 ?_
    · simp
    · have := C.hd; show A.depth + 1 + _ < _; (first | lia | omega)
    · have := C.hu; show A.units + 3 + _ < _; (first | lia | omega)
    intro h7 us tk7 hk7 hD7 hI7
    rw [List.take_zero, List.nil_append, List.drop_of_length_le (by simp), List.append_nil] at hD7
    have F7 := Fr.ext2 F5 gD.2.2 gD.2.1 hk7
    have gd7 := N5 _ (.tail _ (.tail _ (.tail _ (.tail _ (.head _)))))
    have N7 : News (hideAll s.heap [55]) L h7 [(L + 1 + 1, od2), (D, listV us 0)] := List.forall_mem_cons.mpr ⟨⟨hk7 _ _ (show @Ne Nat _ _ by (first | lia | omega)) gd7.1, gd7.2⟩, List.forall_mem_singleton.mpr ⟨hD7, gD.2⟩⟩
    clear F5 N5
    walk_at "m_run"
    exact fin _ _ _ _ hk7 hD7 hI7
  · (rename a = 0 => hz)
    have hK0 : K = 0 := by
      rw [← hKK, hz]
      unfold digCount
      have : Builtin.Int.intBits 0 = 0 := rfl
      rw [this]
      exact Nat.div_eq_of_lt (by (first | lia | omega))
    refine fin _ _ _ _ (fun _ _ _ e => e) gD.1 ?_
    rw [hK0]
    exact IntsAre.nil
end
section
theorem and_mask {x : Int} {k : Nat} (h : 0 ≤ x) : Builtin.bitAnd x (2 ^ k - 1) = x % 2 ^ k := by
  obtain ⟨x, rfl⟩ := Int.eq_ofNat_of_zero_le h
  have hp : (0 : Int) < 2 ^ k := Int.pow_pos (by decide)
  have e : ((2 : Int) ^ k - 1).toNat = 2 ^ k - 1 := by
    have : ((2 ^ k : Nat) : Int) = 2 ^ k := by rw [Int.natCast_pow]; rfl
    (first | lia | omega)
  rw [bitAnd_pp (by (first | lia | omega)) (by (first | lia | omega)), Int.toNat_natCast, e, Nat.and_two_pow_sub_one_eq_mod, Int.natCast_emod, Int.natCast_pow]
  rfl
theorem or_low {x y : Int} {k : Nat} (hx : 0 ≤ x) (hy : 0 ≤ y) (hy2 : y < 2 ^ k) : Builtin.bitOr (x * 2 ^ k) y = x * 2 ^ k + y := by
  obtain ⟨x, rfl⟩ := Int.eq_ofNat_of_zero_le hx
  obtain ⟨y, rfl⟩ := Int.eq_ofNat_of_zero_le hy
  have e : ((x : Int) * 2 ^ k) = ((x * 2 ^ k : Nat) : Int) := by simp
  have hy3 : y < 2 ^ k := by
    have : ((2 ^ k : Nat) : Int) = 2 ^ k := by rw [Int.natCast_pow]; rfl
    (first | lia | omega)
  have h0 : x * 2 ^ k &&& y = 0 := by
    apply Nat.eq_of_testBit_eq
    intro i
    rw [Nat.testBit_and, Nat.testBit_mul_two_pow, Nat.zero_testBit]
    by_cases h : k ≤ i
    · rw [Nat.testBit_lt_two_pow (Nat.lt_of_lt_of_le hy3 (Nat.pow_le_pow_right (by decide) h))]; simp
    · simp [h]
  rw [bitOr_and, e, bitAnd_pp (by (first | lia | omega)) (by (first | lia | omega)), Int.toNat_natCast, Int.toNat_natCast, h0]
  simp
theorem News.got {g h h' : Heap} {L T : Addr} {m : Str → Option Value} {news : List (Addr × Obj)} {o : Obj} (F : Fr g L h m) (N : News g L h news) (hk : ∀ b o, h.get? b = some o → h'.get? b = some o) (h0 : h.get? T = none) (hT : h'.get? T = some o) : News g L h' ((T, o) :: news) := by
  refine List.forall_mem_cons.mpr ⟨⟨hT, fun e => ?_, ?_⟩, News.ext N hk⟩
  · obtain ⟨oL, _, _, a, _⟩ := F.ns
    have e2 : T = L := e
    rw [e2, a] at h0; cases h0
  · cases e : g.get? T with
    | none => rfl
    | some o => rw [F.keep _ _ e] at h0; cases h0
local macro_rules | `(tactic| walk_at "m_run8") => `(tactic| repeat' ((fail_if_success (with_reducible show wpAny _ _ (binaryOp Operator.RShift _ _) _ _ _)); (fail_if_success (with_reducible show wpAny _ _ (inplaceOp _ _ _) _ _ _)); walk_at "m_stop"; walk_at "m_step"))
local macro_rules | `(tactic| walk_at "m_run9") => `(tactic| repeat' ((fail_if_success (with_reducible show wpAny _ _ (binaryOp Operator.RShift _ _) _ _ _)); walk_at "m_stop"; walk_at "m_step"))
noncomputable def DivRet (h : Heap) (a b : Int) (Q : Value → Shared → Prop) (s : Shared) : Prop :=
  ∀ h' T c tq tr tk', (∀ b o, h.get? b = some o → h'.get? b = some o) → h.get? T = none → h'.get? T = some (tupV [.int (a / b) tq, .int (a % b) tr] c) → Q (.ref T) { s with heap := h', toks := tk' }
theorem noLong {n : Nat} {a b : Int} (h0 : 0 < b) (h : b < 2 ^ n) (hn : n ≤ 8999) : Builtin.divisionGoesByPylong a b = false := by
  refine PyProof.noPylong_of_log2 ?_
  have e : ((2 ^ n : Nat) : Int) = 2 ^ n := by rw [Int.natCast_pow]; rfl
  have h1 : b.natAbs < 2 ^ n := by (first | lia | omega)
  have := (Nat.log2_lt (by (first | lia | omega))).mpr h1
  (first | lia | omega)
theorem div2_small {n : Nat} {a b : Int} {ta tb tn : Tok} (C : Cx (d + 1) w p loose mean mg mb A h₀ s.heap)
    (ha : 0 ≤ a) (hab : a < b * 2 ^ n) (hb : b < 2 ^ n) (hb0 : 0 < b) (hn : n ≤ 4000) (hret : DivRet s.heap a b Q s) :
    wpAny (MM w) A (call (.ref 46) [.int a ta, .int b tb, .int n tn]) Q E s := by
  walk_at "m_fill"
  refine' enterK (binds := [(Str.ofString "a", .int a ta), (Str.ofString "b", .int b tb), (Str.ofString "n", .int n tn)]) C ?ho ?hcd ?hb ?hl ?_ ?c1 ?c2 ?c3 ?c4
  walk_at "m_enter"
  intro L h₁ F0 F
  have X' := C.X.keeps C.k
  have T := C.T.keeps C.k
  have N : News s.heap L h₁ [] := News.nil
  clear F0
  have hbits : Builtin.Int.intBits a ≤ n + n := bits_of_lt ha (by
    rw [Int.pow_add]
    exact Int.lt_trans hab (Int.mul_lt_mul_of_pos_right hb (Int.pow_pos (by decide))))
  walk_at "m_run"
  refine divmod_N F N (by (first | lia | omega)) ?_ (.inl (noLong hb0 hb (by (first | lia | omega))))
  intro h' F' N'
  have z := N' _ (.head _)
  rw [Int.fdiv_eq_ediv_of_nonneg _ (by (first | lia | omega)), Int.fmod_eq_emod_of_nonneg _ (by (first | lia | omega))] at z
  exact hret _ _ _ _ _ _ F'.keep z.2.2 z.1
theorem div3_spec {n : Nat} {a12 a3 b b1 b2 : Int} {t0 t1 t2 t3 t4 tn : Tok} (C : Cx (d + 2) w p loose mean mg mb A h₀ s.heap)
    (ha : 0 ≤ a12) (hab : a12 < b) (h3 : 0 ≤ a3 ∧ a3 < 2 ^ n) (hb : b = b1 * 2 ^ n + b2) (hb1 : 0 < b1) (hb1' : b1 < 2 ^ n) (hb2 : 0 ≤ b2 ∧ b2 < 2 ^ n) (hn : n ≤ 4000) (hret : DivRet s.heap (a12 * 2 ^ n + a3) b Q s) :
    wpAny (MM w) A (call (.ref 53) [.int a12 t0, .int a3 t1, .int b t2, .int b1 t3, .int b2 t4, .int n tn]) Q E s := by
  walk_at "m_fill"
  refine' enterK (binds := [(Str.ofString "a12", .int a12 t0), (Str.ofString "a3", .int a3 t1), (Str.ofString "b", .int b t2), (Str.ofString "b1", .int b1 t3), (Str.ofString "b2", .int b2 t4), (Str.ofString "n", .int n tn)]) C ?ho ?hcd ?hb ?hl ?_ ?c1 ?c2 ?c3 ?c4
  walk_at "m_enter"
  intro L h₁ F0 F
  have X' := C.X.keeps C.k
  have T := C.T.keeps C.k
  have N : News s.heap L h₁ [] := News.nil
  clear F0
  have hA := C.hh
  have hp : (0 : Int) < 2 ^ n := Int.pow_pos (by decide)
  have hp2 : (2 : Int) ^ n < 2 ^ (n + 1) := by rw [Int.pow_succ]; (first | lia | omega)
  have hAB : a12 * 2 ^ n + a3 < b * 2 ^ n := by
    have := Int.mul_le_mul_of_nonneg_right (show a12 ≤ b - 1 by (first | lia | omega)) (Int.le_of_lt hp)
    rw [Int.sub_mul] at this
    (first | lia | omega)
  have hbb : b < 2 ^ (n + n) := by
    have := Int.mul_le_mul_of_nonneg_right (show b1 ≤ 2 ^ n - 1 by (first | lia | omega)) (Int.le_of_lt hp)
    rw [Int.sub_mul, ← Int.pow_add] at this
    (first | lia | omega)
  have hbits : Builtin.Int.intBits a12 ≤ n + n := bits_of_lt ha (by (first | lia | omega))
  have hb1b : Builtin.Int.intBits b1 ≤ n := bits_of_lt (by (first | lia | omega)) hb1'
  have hb2b : Builtin.Int.intBits b2 ≤ n := bits_of_lt (by (first | lia | omega)) hb2.2
  walk_at "m_run8"
  refine rshift_int ha ?_
  walk_at "m_run8"
  · (rename _ = b1 => heq)
    refine lshift_int (by (first | lia | omega)) (by rw [show Builtin.Int.intBits 1 = 1 from rfl]; (first | lia | omega)) ?_
    rw [Int.toNat_natCast, Int.one_mul]
    walk_at "m_run8"
    refine lshift_int (by (first | lia | omega)) (by (first | lia | omega)) ?_
    rw [Int.toNat_natCast]
    have hm := Int.emod_add_mul_ediv a12 (2 ^ n)
    rw [heq] at hm
    have hm0 := Int.emod_nonneg a12 (show (2 : Int) ^ n ≠ 0 by (first | lia | omega))
    have hm1 := Int.emod_lt_of_pos a12 hp
    rw [Int.mul_comm (2 ^ n)] at hm
    have hqr : a12 = (2 ^ n - 1) * b1 + (a12 - b1 * 2 ^ n + b1) := by
      rw [Int.sub_mul, Int.mul_comm (2 ^ n) b1]; (first | lia | omega)
    have hq0 : (0 : Int) ≤ 2 ^ n - 1 := by (first | lia | omega)
    have hr0 : 0 ≤ a12 - b1 * 2 ^ n + b1 := by (first | lia | omega)
    have hrn : a12 - b1 * 2 ^ n + b1 < 2 ^ (n + 1) := by rw [Int.pow_succ]; (first | lia | omega)
    have hqb : (2 : Int) ^ n - 1 < 2 ^ (n + n) := by
      have : (2 : Int) ^ n * 1 ≤ 2 ^ n * 2 ^ n := Int.mul_le_mul_of_nonneg_left (by (first | lia | omega)) (by (first | lia | omega))
      rw [Int.pow_add]
      (first | lia | omega)
    have hR : (a12 - b1 * 2 ^ n + b1) * 2 ^ n + a3 - (2 ^ n - 1) * b2 < b := by
      have e1 : (a12 - b1 * 2 ^ n + b1) * 2 ^ n = a12 * 2 ^ n - (2 ^ n - 1) * (b1 * 2 ^ n) := by
        rw [Int.sub_mul (2 ^ n) 1, ← Int.mul_assoc (2 ^ n) b1, Int.mul_comm (2 ^ n) b1, Int.add_mul, Int.sub_mul]
        (first | lia | omega)
      have e2 : (2 ^ n - 1) * (b1 * 2 ^ n) + (2 ^ n - 1) * b2 = b * 2 ^ n - b := by
        rw [← Int.mul_add, ← hb, Int.sub_mul, Int.mul_comm (2 ^ n) b]; (first | lia | omega)
      (first | lia | omega)
    walk_at "m_run8"
    (rename Fr _ _ _ _ => F2); (rename News _ _ _ _ => N2)
    generalize a12 - b1 * 2 ^ n + b1 = r at F2 hqr hr0 hrn hR ⊢
    generalize (2 : Int) ^ n - 1 = q at F2 hqr hq0 hqb hR ⊢
    have hqb2 := bits_of_lt hq0 hqb
    have hIM : PySem.IntMulOk q b2 := mulOk_of_bits hqb2 hb2b (by (first | lia | omega))
    refine lshift_int (by (first | lia | omega)) (by have := bits_of_lt hr0 hrn; (first | lia | omega)) ?_
    rw [Int.toNat_natCast]
    have hor := or_low (k := n) hr0 h3.1 h3.2
    walk_at "m_run8"
    (rename Fr _ _ _ _ => F3); (rename News _ _ _ _ => N3)
    rw [hor] at F3
    refine While_inv2 (n₀ := (- (r * 2 ^ n + a3 - q * b2)).toNat) (fun k m news => ∃ (q' r' : Int), q' * b + r' = a12 * 2 ^ n + a3 ∧ r' < b ∧ k = (-r').toNat ∧
      (∃ t, m (Str.ofString "b") = some (.int b t)) ∧ (∃ t, m (Str.ofString "q") = some (.int q' t)) ∧ ∃ t, m (Str.ofString "r") = some (.int r' t)) F3 N3 ?_ ?_
    · refine ⟨q, r * 2 ^ n + a3 - q * b2, ?_, hR, rfl, ⟨_, rfl⟩, ⟨_, rfl⟩, _, rfl⟩
      rw [hqr, hb, Int.mul_add, Int.add_mul, Int.mul_assoc q b1]
      (first | lia | omega)
    · rintro k m₁ news₁ h₂ tk₂ F4 N4 hJ7
      refine hideG ?_; intro XX kXX
      obtain ⟨q', r', he, hrb, hk', ⟨tb', mb'⟩, ⟨tq', mq'⟩, tr', mr'⟩ := hJ7
      refine kXX ?_; clear kXX XX
      walk_at "m_run9"
      · (rename Fr _ _ _ _ => F5); (rename News _ _ _ _ => N5); (rename r' < 0 => hneg)
        exact ⟨_, _, _, _, (-(r' + b)).toNat, rfl, F5, N5, by (first | lia | omega), q' - 1, r' + b, by rw [Int.sub_mul]; (first | lia | omega), by (first | lia | omega), rfl, ⟨_, mb'⟩, ⟨_, rfl⟩, _, rfl⟩
      · (rename ¬ (r' < 0) => hneg); (rename Fr _ _ _ _ => F5); (rename News _ _ _ _ => N5)
        have hu := (Int.ediv_emod_unique (a := a12 * 2 ^ n + a3) (b := b) (r := r') (q := q') (by (first | lia | omega))).mpr ⟨by rw [Int.mul_comm]; (first | lia | omega), by (first | lia | omega), hrb⟩
        have z := N5 _ (.head _)
        rw [← hu.1, ← hu.2] at z
        exact hret _ _ _ _ _ _ F5.keep z.2.2 z.1
  · have hq1 := Int.emod_add_mul_ediv a12 b1
    have hr0 := Int.emod_nonneg a12 (show b1 ≠ 0 by (first | lia | omega))
    have hr1 := Int.emod_lt_of_pos a12 hb1
    have hq0 : 0 ≤ a12 / b1 := Int.ediv_nonneg ha (by (first | lia | omega))
    refine div2_small (C.inner _ C.k F) ha ?_ hb1' hb1 hn ?_
    · have h1 : a12 / 2 ^ n ≤ b1 := by
        have : a12 / 2 ^ n < b1 + 1 := Int.ediv_lt_of_lt_mul hp (by rw [Int.add_mul]; (first | lia | omega))
        (first | lia | omega)
      have h2 : a12 / 2 ^ n < b1 := by (rename a12 / 2 ^ n ≠ b1 => hne); (first | lia | omega)
      have := (Int.ediv_lt_iff_lt_mul hp).mp h2
      exact this
    intro h' T c tq tr tk' hk hT0 hT
    have N1 := News.got F N hk hT0 hT
    have F1 := Fr.ext F hk
    clear F N
    have hqr : a12 = a12 / b1 * b1 + a12 % b1 := by rw [Int.mul_comm]; (first | lia | omega)
    have hrn : a12 % b1 < 2 ^ (n + 1) := by (first | lia | omega)
    have hqb : a12 / b1 < 2 ^ (n + n) := by
      have : a12 / b1 ≤ a12 := Int.ediv_le_self _ ha
      (first | lia | omega)
    have hR : a12 % b1 * 2 ^ n + a3 - a12 / b1 * b2 < b := by
      have h1 := Int.mul_le_mul_of_nonneg_right (show a12 % b1 ≤ b1 - 1 by (first | lia | omega)) (Int.le_of_lt hp)
      have h2 := Int.mul_nonneg hq0 hb2.1
      rw [Int.sub_mul] at h1
      (first | lia | omega)
    walk_at "m_run8"
    (rename Fr _ _ _ _ => F2); (rename News _ _ _ _ => N2)
    generalize a12 % b1 = r at F2 hqr hr0 hrn hR ⊢
    generalize a12 / b1 = q at F2 hqr hq0 hqb hR ⊢
    have hqb2 := bits_of_lt hq0 hqb
    have hIM : PySem.IntMulOk q b2 := mulOk_of_bits hqb2 hb2b (by (first | lia | omega))
    refine lshift_int (by (first | lia | omega)) (by have := bits_of_lt hr0 hrn; (first | lia | omega)) ?_
    rw [Int.toNat_natCast]
    have hor := or_low (k := n) hr0 h3.1 h3.2
    walk_at "m_run8"
    (rename Fr _ _ _ _ => F3); (rename News _ _ _ _ => N3)
    rw [hor] at F3
    refine While_inv2 (n₀ := (- (r * 2 ^ n + a3 - q * b2)).toNat) (fun k m news => ∃ (q' r' : Int), q' * b + r' = a12 * 2 ^ n + a3 ∧ r' < b ∧ k = (-r').toNat ∧
      (∃ t, m (Str.ofString "b") = some (.int b t)) ∧ (∃ t, m (Str.ofString "q") = some (.int q' t)) ∧ ∃ t, m (Str.ofString "r") = some (.int r' t)) F3 N3 ?_ ?_
    · refine ⟨q, r * 2 ^ n + a3 - q * b2, ?_, hR, rfl, ⟨_, rfl⟩, ⟨_, rfl⟩, _, rfl⟩
      rw [hqr, hb, Int.mul_add, Int.add_mul, Int.mul_assoc q b1]
      (first | lia | omega)
    · rintro k m₁ news₁ h₂ tk₂ F4 N4 hJ7
      refine hideG ?_; intro XX kXX
      obtain ⟨q', r', he, hrb, hk', ⟨tb', mb'⟩, ⟨tq', mq'⟩, tr', mr'⟩ := hJ7
      refine kXX ?_; clear kXX XX
      walk_at "m_run9"
      · (rename Fr _ _ _ _ => F5); (rename News _ _ _ _ => N5); (rename r' < 0 => hneg)
        exact ⟨_, _, _, _, (-(r' + b)).toNat, rfl, F5, N5, by (first | lia | omega), q' - 1, r' + b, by rw [Int.sub_mul]; (first | lia | omega), by (first | lia | omega), rfl, ⟨_, mb'⟩, ⟨_, rfl⟩, _, rfl⟩
      · (rename ¬ (r' < 0) => hneg); (rename Fr _ _ _ _ => F5); (rename News _ _ _ _ => N5)
        have hu := (Int.ediv_emod_unique (a := a12 * 2 ^ n + a3) (b := b) (r := r') (q := q') (by (first | lia | omega))).mpr ⟨by rw [Int.mul_comm]; (first | lia | omega), by (first | lia | omega), hrb⟩
        have z := N5 _ (.head _)
        rw [← hu.1, ← hu.2] at z
        exact hret _ _ _ _ _ _ F5.keep z.2.2 z.1
theorem lt_of_bits {a : Int} {k : Nat} (h0 : 0 ≤ a) (h : Builtin.Int.intBits a ≤ k) : a < 2 ^ k := by
  have := PySem.intBits_le_iff.mp h
  have e : ((2 ^ k : Nat) : Int) = 2 ^ k := by rw [Int.natCast_pow]; rfl
  (first | lia | omega)
theorem irshift_int {prog : Program} {w : World} {A : Around} {s : Shared} {Q E : Value → Shared → Prop} {a : Int} {k : Nat} {t u : Tok} (ha : 0 ≤ a) (h : Q (.int (a / 2 ^ k) s.toks) { s with toks := s.toks + 1 }) : wpAny (model prog w) A (inplaceOp .RShift (.int a t) (.int k u)) Q E s := by
  by_cases hk : (k : Int) ≥ ((Builtin.Int.intBits a : Nat) : Int)
  · refine PySem.AutoIntOps.irshift_1 (by (first | lia | omega)) hk ?_
    have hb : a < 2 ^ k := lt_of_bits ha (by (first | lia | omega))
    rw [if_neg (by (first | lia | omega)), ← Int.ediv_eq_zero_of_lt ha hb]
    exact h
  · refine PySem.AutoIntOps.irshift_2 (by (first | lia | omega)) hk ?_
    rw [Int.toNat_natCast, Int.fdiv_eq_ediv_of_nonneg _ (Int.pow_nonneg (by decide))]
    exact h
theorem shift_shift (a : Int) (m : Nat) : a / 2 ^ (m + m) * 2 ^ m + a / 2 ^ m % 2 ^ m = a / 2 ^ m := by
  have hp : (0 : Int) < 2 ^ m := Int.pow_pos (by decide)
  rw [Int.pow_add, ← Int.ediv_ediv_of_nonneg (by (first | lia | omega))]
  have := Int.emod_add_mul_ediv (a / 2 ^ m) (2 ^ m)
  rw [Int.mul_comm] at this
  (first | lia | omega)
theorem two_steps {a b : Int} {m : Nat} (hb : 0 < b) : a / 2 ^ m / b * 2 ^ m + (a / 2 ^ m % b * 2 ^ m + a % 2 ^ m) / b = a / b ∧ (a / 2 ^ m % b * 2 ^ m + a % 2 ^ m) % b = a % b := by
  have h1 := Int.emod_add_mul_ediv a (2 ^ m)
  have h2 := Int.emod_add_mul_ediv (a / 2 ^ m) b
  have h3 := Int.emod_add_mul_ediv (a / 2 ^ m % b * 2 ^ m + a % 2 ^ m) b
  have h4 : a = a / 2 ^ m % b * 2 ^ m + a % 2 ^ m + b * (a / 2 ^ m / b * 2 ^ m) := by
    have : a / 2 ^ m * 2 ^ m = a / 2 ^ m % b * 2 ^ m + b * (a / 2 ^ m / b * 2 ^ m) := by
      rw [← Int.mul_assoc, ← Int.add_mul, h2]
    rw [Int.mul_comm (2 ^ m)] at h1
    (first | lia | omega)
  have h5 : a / b = (a / 2 ^ m % b * 2 ^ m + a % 2 ^ m) / b + a / 2 ^ m / b * 2 ^ m := by
    conv => lhs; rw [h4]
    rw [Int.add_mul_ediv_left _ _ (by (first | lia | omega))]
  have h6 : a % b = (a / 2 ^ m % b * 2 ^ m + a % 2 ^ m) % b := by
    conv => lhs; rw [h4]
    rw [Int.add_mul_emod_self_left]
  exact ⟨by (first | lia | omega), h6.symm⟩
theorem div2_spec {n : Nat} {a b : Int} {ta tb tn : Tok} (C : Cx (d + 3) w p loose mean mg mb A h₀ s.heap)
    (ha : 0 ≤ a) (hab : a < b * 2 ^ n) (hb : b < 2 ^ n) (hb0 : 2 ^ n ≤ b * 2) (hn : n ≤ 7990) (hret : DivRet s.heap a b Q s) :
    wpAny (MM w) A (call (.ref 46) [.int a ta, .int b tb, .int n tn]) Q E s := by
  walk_at "m_fill"
  refine' enterK (binds := [(Str.ofString "a", .int a ta), (Str.ofString "b", .int b tb), (Str.ofString "n", .int n tn)]) C ?ho ?hcd ?hb ?hl ?_ ?c1 ?c2 ?c3 ?c4
  walk_at "m_enter"
  intro L h₁ F0 F
  have X' := C.X.keeps C.k
  have T := C.T.keeps C.k
  have N : News s.heap L h₁ [] := News.nil
  clear F0
  have hA := C.hh
  have hp : (0 : Int) < 2 ^ n := Int.pow_pos (by decide)
  have hbits : Builtin.Int.intBits a ≤ n + n := bits_of_lt ha (by
    rw [Int.pow_add]
    exact Int.lt_trans hab (Int.mul_lt_mul_of_pos_right hb (Int.pow_pos (by decide))))
  have hbb : Builtin.Int.intBits b ≤ n := bits_of_lt (by (first | lia | omega)) hb
  have hpad := bitAnd_m1 n
  walk_at "m_run8"
  · refine divmod_N F N (by (first | lia | omega)) ?_ (.inl (noLong (by (first | lia | omega)) hb (by (first | lia | omega))))
    intro h' F' N'
    have z := N' _ (.head _)
    rw [Int.fdiv_eq_ediv_of_nonneg _ (by (first | lia | omega)), Int.fmod_eq_emod_of_nonneg _ (by (first | lia | omega))] at z
    exact hret _ _ _ _ _ _ F'.keep z.2.2 z.1
  · (rename Fr _ _ _ _ => F1)
    (rename Builtin.bitAnd _ _ ≠ 0 => hpn)
    obtain ⟨m, hm⟩ : ∃ m, n + 1 = m + m := ⟨(n + 1) / 2, by (first | lia | omega)⟩
    refine ilshift_int (by (first | lia | omega)) (by (first | lia | omega)) ?_
    obtain ⟨a2, ha2⟩ : ∃ x, x = a * 2 ^ Int.toNat 1 := ⟨_, rfl⟩
    rw [← ha2]
    have ha3 : a2 = a * 2 := ha2
    walk_at "m_run8"
    refine ilshift_int (by (first | lia | omega)) (by (first | lia | omega)) ?_
    obtain ⟨bb, hbb2⟩ : ∃ x, x = b * 2 ^ Int.toNat 1 := ⟨_, rfl⟩
    rw [← hbb2]
    have hbb3 : bb = b * 2 := hbb2
    walk_at "m_run9"
    have hpw : (2 : Int) ^ (m + m) = 2 ^ n * 2 := by rw [← hm, Int.pow_succ]
    have hab2 : a2 < bb * 2 ^ (m + m) := by rw [hpw, hbb3, ha3, ← Int.mul_assoc, Int.mul_assoc b 2, Int.mul_comm 2, ← Int.mul_assoc]; (first | lia | omega)
    have hb2 : bb < 2 ^ (m + m) := by (first | lia | omega)
    have hb02 : 2 ^ (m + m) ≤ bb * 2 := by (first | lia | omega)
    have hb0' : 0 ≤ bb := by (first | lia | omega)
    have ha' : 0 ≤ a2 := by (first | lia | omega)
    have hbig : a2 < 2 ^ (n + n + 2) := by
      have : a < 2 ^ (n + n + 1) := lt_of_bits ha (by (first | lia | omega))
      rw [Int.pow_succ]; (first | lia | omega)
    clear hab hb hb0
    have hab := hab2
    have hb := hb2
    have hb0 := hb02
    refine rshift_int (k := 1) (by (first | lia | omega)) ?_
    rw [show ((n : Int) + 1) / 2 ^ 1 = (m : Int) by (first | lia | omega)]
    walk_at "m_run8"
    refine lshift_int (by (first | lia | omega)) (by rw [show Builtin.Int.intBits 1 = 1 from rfl]; (first | lia | omega)) ?_
    rw [Int.toNat_natCast, Int.one_mul]
    walk_at "m_run8"
    refine rshift_int hb0' ?_
    walk_at "m_run8"
    have hpm : (0 : Int) < 2 ^ m := Int.pow_pos (by decide)
    have hbp : 0 < bb := by
      have : (0 : Int) < 2 ^ (m + m) := Int.pow_pos (by decide)
      (first | lia | omega)
    have hm0 : 0 < m := by
      rcases Nat.eq_zero_or_pos m with h | h
      · (first | lia | omega)
      · exact h
    have ham : 0 ≤ a2 / 2 ^ m := Int.ediv_nonneg ha' (by (first | lia | omega))
    have hmb := and_mask (k := m) hb0'
    have hma := and_mask (k := m) ha'
    have hmc := and_mask (k := m) ham
    have hb1a := Int.emod_add_mul_ediv (bb) (2 ^ m)
    have hl1 := Int.emod_nonneg (bb) (show (2 : Int) ^ m ≠ 0 by (first | lia | omega))
    have hl2 := Int.emod_lt_of_pos (bb) hpm
    have hl3 := Int.emod_nonneg (a2) (show (2 : Int) ^ m ≠ 0 by (first | lia | omega))
    have hl4 := Int.emod_lt_of_pos (a2) hpm
    have hl5 := Int.emod_nonneg (a2 / 2 ^ m) (show (2 : Int) ^ m ≠ 0 by (first | lia | omega))
    have hl6 := Int.emod_lt_of_pos (a2 / 2 ^ m) hpm
    have hb10 : 0 < bb / 2 ^ m := by
      have : 1 ≤ bb / 2 ^ m := (Int.le_ediv_iff_mul_le hpm).mpr (by
        have : (2 : Int) ^ (m + m) = 2 ^ (m - 1) * 2 * 2 ^ m := by rw [← Int.pow_succ, ← Int.pow_add]; congr 1; (first | lia | omega)
        have h1 : (1 : Int) * 2 ^ m ≤ 2 ^ (m - 1) * 2 ^ m := Int.mul_le_mul_of_nonneg_right (Int.add_one_le_of_lt (Int.pow_pos (by decide))) (by (first | lia | omega))
        rw [Int.mul_assoc, Int.mul_comm 2, ← Int.mul_assoc] at this
        (first | lia | omega))
      (first | lia | omega)
    have hb11 : bb / 2 ^ m < 2 ^ m := Int.ediv_lt_of_lt_mul hpm (by rw [← Int.pow_add]; exact hb)
    have ha12 : a2 / 2 ^ (m + m) < bb := Int.ediv_lt_of_lt_mul (Int.pow_pos (by decide)) hab
    have hss := shift_shift (a2) m
    have hts := two_steps (a := a2) (m := m) hbp
    have hr0 := Int.emod_nonneg (a2 / 2 ^ m) (show bb ≠ 0 by (first | lia | omega))
    have hr1 := Int.emod_lt_of_pos (a2 / 2 ^ m) hbp
    have hq0 : 0 ≤ a2 / 2 ^ m / (bb) := Int.ediv_nonneg ham (by (first | lia | omega))
    have hqb : Builtin.Int.intBits (a2 / 2 ^ m / (bb)) ≤ n + n + 2 := by
      refine bits_of_lt hq0 ?_
      have h1 : a2 / 2 ^ m / (bb) ≤ a2 / 2 ^ m := Int.ediv_le_self _ ham
      have h2 : a2 / 2 ^ m ≤ a2 := Int.ediv_le_self _ ha'
      exact Int.lt_of_le_of_lt h1 (Int.lt_of_le_of_lt h2 hbig)
    have hq20 : 0 ≤ (a2 / 2 ^ m % (bb) * 2 ^ m + a2 % 2 ^ m) / (bb) := Int.ediv_nonneg (by have := Int.mul_nonneg hr0 (Int.le_of_lt hpm); (first | lia | omega)) (by (first | lia | omega))
    have hq21 : (a2 / 2 ^ m % (bb) * 2 ^ m + a2 % 2 ^ m) / (bb) < 2 ^ m := by
      refine Int.ediv_lt_of_lt_mul hbp ?_
      have := Int.mul_le_mul_of_nonneg_right (show a2 / 2 ^ m % (bb) ≤ bb - 1 by (first | lia | omega)) (Int.le_of_lt hpm)
      rw [Int.sub_mul, Int.mul_comm (bb)] at this
      (first | lia | omega)
    have hor := or_low (k := m) hq0 hq20 hq21
    rw [Int.mul_comm] at hb1a
    rw [show (n : Int) + 1 = ((m + m : Nat) : Int) by (first | lia | omega)]
    refine rshift_int ha' ?_
    walk_at "m_run8"
    refine rshift_int ha' ?_
    walk_at "m_run8"
    (rename Fr _ _ _ _ => F2); (rename News _ _ _ _ => N2)
    rw [hmb] at F2
    rw [hmc, hmb]
    refine div3_spec (C.inner _ C.k F2) (Int.ediv_nonneg ha' (Int.le_of_lt (Int.pow_pos (by decide)))) ha12 ⟨hl5, hl6⟩ (by (first | lia | omega)) hb10 hb11 ⟨hl1, hl2⟩ (by (first | lia | omega)) ?_
    rw [hss]
    intro h4 T4 c4 tq4 tr4 tk4 hk4 hT40 hT4
    have N4 := News.got F2 N2 hk4 hT40 hT4
    have F4 := Fr.ext F2 hk4
    clear F2 N2 hT40
    walk_at "m_run8"
    (rename Fr _ _ _ _ => F5); (rename News _ _ _ _ => N5)
    rw [hma]
    refine div3_spec (C.inner _ C.k F5) hr0 hr1 ⟨hl3, hl4⟩ (by (first | lia | omega)) hb10 hb11 ⟨hl1, hl2⟩ (by (first | lia | omega)) ?_
    intro h6 T6 c6 tq6 tr6 tk6 hk6 hT60 hT6
    have N6 := News.got F5 N5 hk6 hT60 hT6
    have F6 := Fr.ext F5 hk6
    clear F5 N5 hT60
    walk_at "m_run8"
    · refine irshift_int (k := 1) (Int.emod_nonneg _ (by (first | lia | omega))) ?_
      have e1 : a2 / bb = a / b := by rw [ha3, hbb3, Int.mul_ediv_mul_of_pos_left _ _ (by decide)]
      have e2 : a2 % bb / 2 ^ 1 = a % b := by
        rw [ha3, hbb3, Int.mul_comm a, Int.mul_comm b, Int.mul_emod_mul_of_pos _ _ (by decide)]
        exact Int.mul_ediv_cancel_left _ (by decide)
      walk_at "m_run8"
      refine lshift_int (by (first | lia | omega)) (by (first | lia | omega)) ?_
      rw [Int.toNat_natCast]
      walk_at "m_run8"
      (rename Fr _ _ _ _ => F7); (rename News _ _ _ _ => N7)
      have z := N7 _ (.head _)
      rw [hor, hts.1, hts.2, e1, e2] at z
      exact hret _ _ _ _ _ _ F7.keep z.2.2 z.1
    all_goals exact absurd (by assumption : Builtin.bitAnd n 1 = 0) hpn
  · obtain ⟨m, hm⟩ : ∃ m, n = m + m := ⟨n / 2, by (first | lia | omega)⟩
    have hb0' : 0 ≤ b := by (first | lia | omega)
    have ha' := ha
    have hbig : a < 2 ^ (n + n + 2) := lt_of_bits ha (by (first | lia | omega))
    rw [hm] at hab hb hb0
    refine rshift_int (k := 1) (by (first | lia | omega)) ?_
    rw [show ((n : Int)) / 2 ^ 1 = (m : Int) by (first | lia | omega)]
    walk_at "m_run8"
    refine lshift_int (by (first | lia | omega)) (by rw [show Builtin.Int.intBits 1 = 1 from rfl]; (first | lia | omega)) ?_
    rw [Int.toNat_natCast, Int.one_mul]
    walk_at "m_run8"
    refine rshift_int hb0' ?_
    walk_at "m_run8"
    have hpm : (0 : Int) < 2 ^ m := Int.pow_pos (by decide)
    have hbp : 0 < b := by
      have : (0 : Int) < 2 ^ (m + m) := Int.pow_pos (by decide)
      (first | lia | omega)
    have hm0 : 0 < m := by
      rcases Nat.eq_zero_or_pos m with h | h
      · (first | lia | omega)
      · exact h
    have ham : 0 ≤ a / 2 ^ m := Int.ediv_nonneg ha' (by (first | lia | omega))
    have hmb := and_mask (k := m) hb0'
    have hma := and_mask (k := m) ha'
    have hmc := and_mask (k := m) ham
    have hb1a := Int.emod_add_mul_ediv (b) (2 ^ m)
    have hl1 := Int.emod_nonneg (b) (show (2 : Int) ^ m ≠ 0 by (first | lia | omega))
    have hl2 := Int.emod_lt_of_pos (b) hpm
    have hl3 := Int.emod_nonneg (a) (show (2 : Int) ^ m ≠ 0 by (first | lia | omega))
    have hl4 := Int.emod_lt_of_pos (a) hpm
    have hl5 := Int.emod_nonneg (a / 2 ^ m) (show (2 : Int) ^ m ≠ 0 by (first | lia | omega))
    have hl6 := Int.emod_lt_of_pos (a / 2 ^ m) hpm
    have hb10 : 0 < b / 2 ^ m := by
      have : 1 ≤ b / 2 ^ m := (Int.le_ediv_iff_mul_le hpm).mpr (by
        have : (2 : Int) ^ (m + m) = 2 ^ (m - 1) * 2 * 2 ^ m := by rw [← Int.pow_succ, ← Int.pow_add]; congr 1; (first | lia | omega)
        have h1 : (1 : Int) * 2 ^ m ≤ 2 ^ (m - 1) * 2 ^ m := Int.mul_le_mul_of_nonneg_right (Int.add_one_le_of_lt (Int.pow_pos (by decide))) (by (first | lia | omega))
        rw [Int.mul_assoc, Int.mul_comm 2, ← Int.mul_assoc] at this
        (first | lia | omega))
      (first | lia | omega)
    have hb11 : b / 2 ^ m < 2 ^ m := Int.ediv_lt_of_lt_mul hpm (by rw [← Int.pow_add]; exact hb)
    have ha12 : a / 2 ^ (m + m) < b := Int.ediv_lt_of_lt_mul (Int.pow_pos (by decide)) hab
    have hss := shift_shift (a) m
    have hts := two_steps (a := a) (m := m) hbp
    have hr0 := Int.emod_nonneg (a / 2 ^ m) (show b ≠ 0 by (first | lia | omega))
    have hr1 := Int.emod_lt_of_pos (a / 2 ^ m) hbp
    have hq0 : 0 ≤ a / 2 ^ m / (b) := Int.ediv_nonneg ham (by (first | lia | omega))
    have hqb : Builtin.Int.intBits (a / 2 ^ m / (b)) ≤ n + n + 2 := by
      refine bits_of_lt hq0 ?_
      have h1 : a / 2 ^ m / (b) ≤ a / 2 ^ m := Int.ediv_le_self _ ham
      have h2 : a / 2 ^ m ≤ a := Int.ediv_le_self _ ha'
      exact Int.lt_of_le_of_lt h1 (Int.lt_of_le_of_lt h2 hbig)
    have hq20 : 0 ≤ (a / 2 ^ m % (b) * 2 ^ m + a % 2 ^ m) / (b) := Int.ediv_nonneg (by have := Int.mul_nonneg hr0 (Int.le_of_lt hpm); (first | lia | omega)) (by (first | lia | omega))
    have hq21 : (a / 2 ^ m % (b) * 2 ^ m + a % 2 ^ m) / (b) < 2 ^ m := by
      refine Int.ediv_lt_of_lt_mul hbp ?_
      have := Int.mul_le_mul_of_nonneg_right (show a / 2 ^ m % (b) ≤ b - 1 by (first | lia | omega)) (Int.le_of_lt hpm)
      rw [Int.sub_mul, Int.mul_comm (b)] at this
      (first | lia | omega)
    have hor := or_low (k := m) hq0 hq20 hq21
    rw [Int.mul_comm] at hb1a
    rw [show (n : Int) = ((m + m : Nat) : Int) by (first | lia | omega)]
    refine rshift_int ha' ?_
    walk_at "m_run8"
    refine rshift_int ha' ?_
    walk_at "m_run8"
    (rename Fr _ _ _ _ => F2); (rename News _ _ _ _ => N2)
    rw [hmb] at F2
    rw [hmc, hmb]
    refine div3_spec (C.inner _ C.k F2) (Int.ediv_nonneg ha' (Int.le_of_lt (Int.pow_pos (by decide)))) ha12 ⟨hl5, hl6⟩ (by (first | lia | omega)) hb10 hb11 ⟨hl1, hl2⟩ (by (first | lia | omega)) ?_
    rw [hss]
    intro h4 T4 c4 tq4 tr4 tk4 hk4 hT40 hT4
    have N4 := News.got F2 N2 hk4 hT40 hT4
    have F4 := Fr.ext F2 hk4
    clear F2 N2 hT40
    walk_at "m_run8"
    (rename Fr _ _ _ _ => F5); (rename News _ _ _ _ => N5)
    rw [hma]
    refine div3_spec (C.inner _ C.k F5) hr0 hr1 ⟨hl3, hl4⟩ (by (first | lia | omega)) hb10 hb11 ⟨hl1, hl2⟩ (by (first | lia | omega)) ?_
    intro h6 T6 c6 tq6 tr6 tk6 hk6 hT60 hT6
    have N6 := News.got F5 N5 hk6 hT60 hT6
    have F6 := Fr.ext F5 hk6
    clear F5 N5 hT60
    walk_at "m_run8"
    all_goals first | exact absurd (by assumption) (by assumption : ¬ Builtin.bitAnd n 1 = 0) | skip
    refine lshift_int (by (first | lia | omega)) (by (first | lia | omega)) ?_
    rw [Int.toNat_natCast]
    walk_at "m_run8"
    (rename Fr _ _ _ _ => F7); (rename News _ _ _ _ => N7)
    have z := N7 _ (.head _)
    rw [hor, hts.1, hts.2] at z
    exact hret _ _ _ _ _ _ F7.keep z.2.2 z.1
end
section
theorem News.got2 {g h h' : Heap} {L T P : Addr} {m : Str → Option Value} {news : List (Addr × Obj)} {o : Obj} (F : Fr g L h m) (N : News g L h news) (hoff : ∀ p ∈ news, p.1 ≠ P) (hk : ∀ b o, b ≠ P → h.get? b = some o → h'.get? b = some o) (h0 : h.get? T = none) (hT : h'.get? T = some o) : News g L h' ((T, o) :: news) := by
  refine List.forall_mem_cons.mpr ⟨⟨hT, fun e => ?_, ?_⟩, fun p hp => ⟨hk _ _ (hoff p hp) (N p hp).1, (N p hp).2⟩⟩
  · obtain ⟨oL, _, _, a, _⟩ := F.ns
    have e2 : T = L := e
    rw [e2, a] at h0; cases h0
  · cases e : g.get? T with
    | none => rfl
    | some o => rw [F.keep _ _ e] at h0; cases h0
theorem News.ext2 {g h h' : Heap} {L P : Addr} {news : List (Addr × Obj)} (N : News g L h news) (hoff : ∀ p ∈ news, p.1 ≠ P) (hk : ∀ b o, b ≠ P → h.get? b = some o → h'.get? b = some o) : News g L h' news := fun p hp => ⟨hk _ _ (hoff p hp) (N p hp).1, (N p hp).2⟩
theorem TabOk.keep2 {P P' : Addr} {pos pos' : Pos} {qual qual' : Str} {h h' : Heap} (x : TabOk P pos qual h) (y : TabOk P' pos' qual' h) (hne : P ≠ P') (k : ∀ b o, b ≠ P' → h.get? b = some o → h'.get? b = some o) : TabOk P pos qual h' := by
  obtain ⟨ps, h1, h2, h3⟩ := x
  obtain ⟨ps', g1, g2, _⟩ := y
  refine ⟨ps, k _ _ hne h1, h2, h3.imp id fun ⟨c', e1, e2⟩ => ⟨c', e1, (codeRec_hide e2 g1 g2).keeps fun b o e => ?_⟩⟩
  refine k b o (fun q => ?_) (of_hideAll _ e)
  rw [q, hideAll_none _ (.head _)] at e
  cases e
theorem bits_eq {b : Int} {n : Nat} (h1 : b < 2 ^ n) (h2 : 2 ^ n ≤ b * 2) : Builtin.Int.intBits b = n := by
  have hp : (0 : Int) < 2 ^ n := Int.pow_pos (by decide)
  have h3 := bits_of_lt (by (first | lia | omega)) h1
  have h4 := lt_of_bits (a := b) (by (first | lia | omega)) (Nat.le_refl (Builtin.Int.intBits b))
  rcases Nat.lt_or_eq_of_le h3 with h | h
  · obtain ⟨m, hm⟩ : ∃ m, n = m + 1 := ⟨n - 1, by (first | lia | omega)⟩
    subst hm
    rw [Int.pow_succ] at h2
    have h5 := lt_of_bits (a := b) (by (first | lia | omega)) (show Builtin.Int.intBits b ≤ m by (first | lia | omega))
    (first | lia | omega)
  · exact h
theorem dval_snoc_rev {n : Nat} {q : Int} {qd : List Int} : dval n (qd ++ [q]).reverse = q + 2 ^ n * dval n qd.reverse := by
  rw [List.reverse_append]; rfl
theorem TabOk.pack {g h : Heap} {L P : Addr} {m : Str → Option Value} {pos : Pos} {qual : Str} (x : TabOk P pos qual h) (F : Fr g L h m) (hg : g.get? P = none) (hPL : P ≠ L) :
    ∃ ps c₂ oc, News g L h [(P, tabObj ps), (c₂, oc)] ∧ ∀ h' : Heap, (∀ b o, g.get? b = some o → h'.get? b = some o) → h'.get? P = some (tabObj ps) → h'.get? c₂ = some oc → TabOk P pos qual h' := by
  obtain ⟨ps, h1, h2, h3⟩ := x
  have z : h.get? P = some (tabObj ps) ∧ P ≠ L ∧ g.get? P = none := ⟨h1, hPL, hg⟩
  have dup : News g L h [(P, tabObj ps), (P, tabObj ps)] := List.forall_mem_cons.mpr ⟨z, List.forall_mem_singleton.mpr z⟩
  rcases h3 with hn | ⟨c', e1, c₂, oc, vs, t, e2, hoc, hd, hv⟩
  · exact ⟨ps, P, _, dup, fun h' hk hP _ => ⟨ps, hP, h2, .inl hn⟩⟩
  · cases e : g.get? c₂ with
    | some o =>
      have e3 := F.keep _ _ e
      rw [hoc] at e3
      cases e3
      exact ⟨ps, P, _, dup, fun h' hk hP _ => ⟨ps, hP, h2, .inr ⟨c', e1, c₂, oc, vs, t, e2, hk _ _ e, hd, hv⟩⟩⟩
    | none =>
      have hne : c₂ ≠ L := fun q => by
        obtain ⟨oL, _, _, a, b, _⟩ := F.ns
        rw [q, a] at hoc
        cases hoc
        rw [b] at hd
        cases hd
      exact ⟨ps, c₂, oc, List.forall_mem_cons.mpr ⟨z, List.forall_mem_singleton.mpr ⟨hoc, hne, e⟩⟩, fun h' hk hP hc => ⟨ps, hP, h2, .inr ⟨c', e1, c₂, oc, vs, t, e2, hc, hd, hv⟩⟩⟩
theorem bits_half {b : Int} (hb : 0 < b) : 2 ^ Builtin.Int.intBits b ≤ b * 2 := by
  rcases Nat.eq_zero_or_pos (Builtin.Int.intBits b) with h | h
  · rw [h, Int.pow_zero]; (first | lia | omega)
  · obtain ⟨m, hm⟩ : ∃ m, Builtin.Int.intBits b = m + 1 := ⟨Builtin.Int.intBits b - 1, by (first | lia | omega)⟩
    false_or_by_contra
    rename_i hc
    rw [hm, Int.pow_succ] at hc
    have := bits_of_lt (x := b) (m := m) (by (first | lia | omega)) (by (first | lia | omega))
    (first | lia | omega)
theorem divmod_step {a b A D' P : Int} (hb : 0 < b) (hA : A = a) : (b * (A / b) + A % b) * P + D' = (A % b * P + D') + b * (A / b * P) := by
  rw [Int.add_mul, Int.mul_assoc]; (first | lia | omega)
theorem digs_getD {n : Nat} : ∀ (k i : Nat) (x : Int), i < k → (digs n k x).getD i 0 = x / 2 ^ (n * i) % 2 ^ n
  | 0, i, x, h => by (first | lia | omega)
  | k + 1, 0, x, h => by simp [digs]
  | k + 1, i + 1, x, h => by
    have := digs_getD (n := n) k i (x / 2 ^ n) (by (first | lia | omega))
    rw [digs, List.getD_cons_succ, this, Int.ediv_ediv_of_nonneg (Int.pow_nonneg (by decide)), ← Int.pow_add, Nat.mul_succ, Nat.add_comm n]
theorem dpos_spec {a b : Int} {ta tb : Tok} (C : Cx (d + 41) w p loose mean mg mb A h₀ s.heap)
    (ha : 0 ≤ a) (hb0 : 0 < b) (hn : Builtin.Int.intBits b ≤ 7990) (hab : a < 2 ^ (Builtin.Int.intBits b * 19)) (hT1 : TabOk 62 pos62 qual62 s.heap) (hT2 : TabOk 55 pos55 qual55 s.heap) (hn1 : h₀.get? 62 = none) (hn2 : h₀.get? 55 = none)
    (hret : ∀ h' T c tq tr tk', (∀ b o, b ≠ 62 → b ≠ 55 → s.heap.get? b = some o → h'.get? b = some o) → TabOk 62 pos62 qual62 h' → TabOk 55 pos55 qual55 h' → s.heap.get? T = none → h'.get? T = some (tupV [.int (a / b) tq, .int (a % b) tr] c) → Q (.ref T) { s with heap := h', toks := tk' }) :
    wpAny (MM w) A (call (.ref 74) [.int a ta, .int b tb]) Q E s := by
  walk_at "m_fill"
  refine' enterK (binds := [(Str.ofString "a", .int a ta), (Str.ofString "b", .int b tb)]) C ?ho ?hcd ?hb ?hl ?_ ?c1 ?c2 ?c3 ?c4
  walk_at "m_enter"
  intro L h₁ F0 F1
  have F := hide_fr (as := [62, 55]) F1
  have hk := hide_keep (s := s) (as := [62, 55]) C.k (by intro x hx; simp at hx; rcases hx with rfl | rfl <;> assumption)
  have X := C.X.keeps hk
  have T := C.T.keeps hk
  have hg62 : (hideAll s.heap [62, 55]).get? 62 = none := hideAll_none _ (.head _)
  have hg55 : (hideAll s.heap [62, 55]).get? 55 = none := hideAll_none _ (.tail _ (.head _))
  have h62 : @LT.lt Nat _ 62 L := by obtain ⟨ps, h, _⟩ := hT1; exact Nat.lt_of_lt_of_le (Heap.lt_size h) F1.above
  have h55 : @LT.lt Nat _ 55 L := by (first | lia | omega)
  refine hideG ?_; intro XX kXX
  obtain ⟨ps1, c1, o1, N1, hp1⟩ := (hT1.keep F1.keep).pack F hg62 (Nat.ne_of_lt h62)
  refine kXX ?_; clear kXX XX
  refine hideG ?_; intro XX kXX
  obtain ⟨ps2, c2, o2, N2, hp2⟩ := (hT2.keep F1.keep).pack F hg55 (Nat.ne_of_lt h55)
  refine kXX ?_; clear kXX XX
  have N : News (hideAll s.heap [62, 55]) L h₁ [(62, tabObj ps1), (c1, o1), (55, tabObj ps2), (c2, o2)] := List.forall_mem_append.mpr ⟨N1, N2⟩
  clear N1 N2
  have hA := C.hh
  have hbs : b < 2 ^ Builtin.Int.intBits b := lt_of_bits (by (first | lia | omega)) (Nat.le_refl _)
  have hbh : 2 ^ Builtin.Int.intBits b ≤ b * 2 := bits_half hb0
  have hnp : 0 < Builtin.Int.intBits b := by
    rcases Nat.eq_zero_or_pos (Builtin.Int.intBits b) with h | h
    · rw [h] at hbs; simp at hbs; (first | lia | omega)
    · exact h
  walk_at "m_run"
  generalize hnn : Builtin.Int.intBits b = n at *
  (rename Fr _ _ _ _ => F2); (rename News _ _ _ _ => N2)
  clear F0
  refine i2d_spec (C.inner _ hk F2) ⟨hnp, by (first | lia | omega)⟩ ⟨ha, hab⟩ (hp2 _ F2.keep (N2 _ (.tail _ (.tail _ (.head _)))).1 (N2 _ (.tail _ (.tail _ (.tail _ (.head _))))).1) hg55 ?_
  have hT1' := hp1 _ F2.keep (N2 _ (.head _)).1 (N2 _ (.tail _ (.head _))).1
  have hT2' := hp2 _ F2.keep (N2 _ (.tail _ (.tail _ (.head _)))).1 (N2 _ (.tail _ (.tail _ (.tail _ (.head _))))).1
  intro h3 D vs c tk3 hk3 hT3 hD0 hD hI
  have hT13 := TabOk.keep2 hT1' hT2' (by decide) hk3
  have F3 := Fr.ext2 F2 hg55 (Nat.ne_of_lt h55) hk3
  have hDn := News.got2 F2 News.nil (fun _ h => by cases h) hk3 hD0 hD
  clear N2 hp1 hp2
  refine hideG ?_; intro XX kXX
  obtain ⟨ps1, c1, o1, N1, hp1⟩ := hT13.pack F3 hg62 (Nat.ne_of_lt h62)
  refine kXX ?_; clear kXX XX
  refine hideG ?_; intro XX kXX
  obtain ⟨ps2, c2, o2, N2, hp2⟩ := hT3.pack F3 hg55 (Nat.ne_of_lt h55)
  refine kXX ?_; clear kXX XX
  have N3 : News (hideAll s.heap [62, 55]) L h3 [(62, tabObj ps1), (c1, o1), (55, tabObj ps2), (c2, o2), (D, listV vs c)] := List.forall_mem_append.mpr ⟨N1, List.forall_mem_append.mpr ⟨N2, hDn⟩⟩
  clear N1 N2 hDn F2
  walk_at "m_run"
  refine wpAny_For ?_
  walk_at "m_run"
  (rename Fr _ _ _ _ => F4); (rename News _ _ _ _ => N4)
  rename_i Qa _ lQ _
  refine hideG ?_; intro XX kXX
  obtain ⟨q1, q2, q3, q4, q5⟩ : @LT.lt Nat _ 62 Qa ∧ @LT.lt Nat _ c1 Qa ∧ @LT.lt Nat _ 55 Qa ∧ @LT.lt Nat _ c2 Qa ∧ @LT.lt Nat _ D Qa := lQ
  refine kXX ?_; clear kXX XX
  have hvl : vs.length = digCount n a := by rw [hI.length, digs_len]
  have hK19 : digCount n a ≤ 19 := by
    have h1 := bits_of_lt ha hab
    unfold digCount
    rw [← Nat.lt_succ_iff, Nat.div_lt_iff_lt_mul hnp, Nat.succ_mul, Nat.mul_comm]
    (first | lia | omega)
  have hKa : a < 2 ^ (n * digCount n a) := by
    refine lt_of_bits ha ?_
    unfold digCount
    have := Nat.div_add_mod (Builtin.Int.intBits a + n - 1) n
    have := Nat.mod_lt (Builtin.Int.intBits a + n - 1) hnp
    (first | lia | omega)
  generalize hKK : digCount n a = K at *
  refine krv_reversed F4 N4 (N4.isList (.tail _ (.tail _ (.tail _ (.tail _ (.tail _ (.head _))))))) ?_
  intro I h5 F5 N5 lI
  clear F4 N4
  walk_at "m_run"
  refine for_revN (L := L) (l := D) (c := c) (vs := vs) (rest := _) (fun i m news => ∃ (qs : List Value) (cq : Nat) (qd : List Int), news = [(Qa, listV qs cq), (62, tabObj ps1), (c1, o1), (55, tabObj ps2), (c2, o2), (D, listV vs c)] ∧ IntsAre qs qd ∧ qd.length = i ∧ (∀ x ∈ qd, 0 ≤ x ∧ x < 2 ^ n) ∧
      dval n qd.reverse = a / 2 ^ (n * (K - i)) / b ∧ (∃ t, m (Str.ofString "r") = some (.int (a / 2 ^ (n * (K - i)) % b) t)) ∧ m (Str.ofString "q_digits") = some (.ref Qa) ∧ (∃ t, m (Str.ofString "n") = some (.int n t)) ∧ m (Str.ofString "b") = some (.int b tb))
    hA ?hl (.head _) rfl rfl rfl (fun p hp => .tail _ hp) (fun p hp => Nat.ne_of_lt (lI p hp)) F5 N5 ?J0 ?turn ?done
  case hl => rintro i m' news' ⟨_, _, _, rfl, _⟩; exact .tail _ (.tail _ (.tail _ (.tail _ (.tail _ (.head _)))))
  case J0 =>
    have h0 : a / 2 ^ (n * (K - 0)) = 0 := by rw [Nat.sub_zero]; exact Int.ediv_eq_zero_of_lt ha hKa
    refine ⟨[], 0, [], rfl, .nil, rfl, (fun x hx => by cases hx), ?_, ?_, rfl, ⟨_, rfl⟩, rfl⟩
    · rw [h0, Int.zero_ediv]; rfl
    · rw [h0, Int.zero_emod]; exact ⟨_, rfl⟩
  case turn =>
    rintro i v m₁ news₁ h tk oI hi hv hJ9 hoff F6 N6
    refine hideG ?_; intro XX kXX
    obtain ⟨qs, cq, qd, rfl, hIq, hql, hqd, hdv, ⟨tr, mr⟩, mq, ⟨tn, mn⟩, mb'⟩ := hJ9
    refine kXX ?_; clear kXX XX
    obtain ⟨tx, rfl⟩ := hI.int_at _ v hv
    have hdg := digs_getD (n := n) K (vs.length - 1 - i) a (by (first | lia | omega))
    generalize (digs n K a).getD (vs.length - 1 - i) 0 = dg at hdg hv F6
    have hpn : (0 : Int) < 2 ^ n := Int.pow_pos (by decide)
    have hA1 : a / 2 ^ (n * (K - i)) = a / 2 ^ (n * (K - (i + 1))) / 2 ^ n := by
      rw [Int.ediv_ediv_of_nonneg (Int.pow_nonneg (by decide)), ← Int.pow_add, ← Nat.mul_succ]
      congr 3
      (first | lia | omega)
    rw [show vs.length - 1 - i = K - (i + 1) by (first | lia | omega)] at hdg
    rw [hA1] at hdv mr
    have hA0 : 0 ≤ a / 2 ^ (n * (K - (i + 1))) := Int.ediv_nonneg ha (Int.pow_nonneg (by decide))
    have hgoal : a / 2 ^ (n * (K - (i + 1))) = a / 2 ^ (n * (K - (i + 1))) := rfl
    generalize hA1e : a / 2 ^ (n * (K - (i + 1))) = A1 at hdg hdv mr hA0
    have hts := two_steps (a := A1) (m := n) hb0
    rw [← hdg] at hts
    have hr0 := Int.emod_nonneg (A1 / 2 ^ n) (show b ≠ 0 by (first | lia | omega))
    have hr1 := Int.emod_lt_of_pos (A1 / 2 ^ n) hb0
    have hd0 : 0 ≤ dg := by rw [hdg]; exact Int.emod_nonneg _ (by (first | lia | omega))
    have hd1 : dg < 2 ^ n := by rw [hdg]; exact Int.emod_lt_of_pos _ hpn
    have hX0 : 0 ≤ A1 / 2 ^ n % b * 2 ^ n := Int.mul_nonneg hr0 (by (first | lia | omega))
    have hX1 : A1 / 2 ^ n % b * 2 ^ n + dg < b * 2 ^ n := by
      have := Int.mul_le_mul_of_nonneg_right (show A1 / 2 ^ n % b ≤ b - 1 by (first | lia | omega)) (Int.le_of_lt hpn)
      rw [Int.sub_mul] at this
      (first | lia | omega)
    have hq0 : 0 ≤ (A1 / 2 ^ n % b * 2 ^ n + dg) / b := Int.ediv_nonneg (by (first | lia | omega)) (by (first | lia | omega))
    have hq1 : (A1 / 2 ^ n % b * 2 ^ n + dg) / b < 2 ^ n := Int.ediv_lt_of_lt_mul hb0 (by rw [Int.mul_comm (2 ^ n) b]; exact hX1)
    have hrb := bits_of_lt hr0 (show A1 / 2 ^ n % b < 2 ^ n by (first | lia | omega))
    walk_at "m_run"
    refine lshift_int (by (first | lia | omega)) (by (first | lia | omega)) ?_
    rw [Int.toNat_natCast]
    walk_at "m_run"
    refine div2_spec (C.inner _ hk F6) (by (first | lia | omega)) hX1 hbs hbh (by (first | lia | omega)) ?_
    intro h7 T7 c7 tq7 tr7 tk7 hk7 hT70 hT7
    have N7 := News.got F6 N6 hk7 hT70 hT7
    have F7 := Fr.ext F6 hk7
    clear F6 N6
    walk_at "m_run"
    (rename Fr _ _ _ _ => F8); (rename News _ _ _ _ => N8)
    have hQI : @Ne Nat Qa I := hoff _ (.head _)
    have hvq := hIq.length
    have N9 := fun p (hp : p ∈ [(I, oI), (Qa, listV qs cq), (62, tabObj ps1), (c1, o1), (55, tabObj ps2), (c2, o2), (D, listV vs c)]) => N8 p (.tail _ hp)
    replace N9 : News (hideAll s.heap [62, 55]) L _ [(I, oI), (Qa, listV qs cq), (62, tabObj ps1), (c1, o1), (55, tabObj ps2), (c2, o2), (D, listV vs c)] := N9
    clear N8
    walk_at "m_app"
    walk_at "m_run"
    (rename Fr _ _ _ _ => F9); (rename News _ _ _ _ => N9)
    refine Turned.mk F9 N9 (List.forall_mem_cons.mpr ⟨hQI, fun p hp => hoff p (.tail _ hp)⟩) ⟨_, _, qd ++ [(A1 / 2 ^ n % b * 2 ^ n + dg) / b], rfl, hIq.append (.cons _ _ .nil), by simp; (first | lia | omega), ?_, ?_, ?_, mq, ⟨_, mn⟩, mb'⟩
    · intro x hx
      rcases List.mem_append.mp hx with hx | hx
      · exact hqd x hx
      · rw [List.mem_singleton.mp hx]; exact ⟨hq0, hq1⟩
    · rw [dval_snoc_rev, hdv, ← hts.1, Int.mul_comm (2 ^ n)]; (first | lia | omega)
    · rw [← hts.2]; exact ⟨_, rfl⟩
  case done =>
    rintro m₁ news₁ h tk hJ4 F6 N6
    refine hideG ?_; intro XX kXX
    obtain ⟨qs, cq, qd, rfl, hIq, hql, hqd, hdv, ⟨tr, mr⟩, mq, ⟨tn, mn⟩, mb'⟩ := hJ4
    refine kXX ?_; clear kXX XX
    rw [hvl, Nat.sub_self, Nat.mul_zero, Int.pow_zero, Int.ediv_one] at hdv mr
    try dsimp only
    have hoffQ : ∀ p ∈ [(c1, o1), (55, tabObj ps2), (c2, o2), (D, listV vs c)], p.1 ≠ Qa := by
      refine List.forall_mem_cons.mpr ⟨Nat.ne_of_lt q2, List.forall_mem_cons.mpr ⟨Nat.ne_of_lt q3, List.forall_mem_cons.mpr ⟨Nat.ne_of_lt q4, List.forall_mem_singleton.mpr (Nat.ne_of_lt q5)⟩⟩⟩
    have hvq := hIq.length
    have hIr := hIq.reverse
    walk_at "m_run"
    try dsimp only
    refine kl_reverse (l := qs.reverse) F6 N6 (by rw [List.toList_toArray]) (.head (List.forall_mem_cons.mpr ⟨Nat.ne_of_lt q1, hoffQ⟩)) (by rw [List.toList_toArray, show sizeLine = 16777216 from rfl]; (first | lia | omega)) ?_
    intro h7 F7 N7
    walk_at "m_run"
    have hp1' := hp1 _ F7.keep (N7 _ (.tail _ (.head _))).1 (N7 _ (.tail _ (.tail _ (.head _)))).1
    have hp2' := hp2 _ F7.keep (N7 _ (.tail _ (.tail _ (.tail _ (.head _))))).1 (N7 _ (.tail _ (.tail _ (.tail _ (.tail _ (.head _)))))).1
    refine dig_spec (C.inner _ hk F7) (N7.isList (.head _)) hIr ?_ ⟨hnp, by (first | lia | omega)⟩ (fun x hx => hqd x (List.mem_reverse.mp hx)) hp1' hg62 ?_
    · rw [List.length_reverse]; (first | lia | omega)
    intro h8 t8 tk8 hk8 hT8
    have hT82 := TabOk.keep2 hp2' hp1' (by decide) hk8
    have F8 := Fr.ext2 F7 hg62 (Nat.ne_of_lt h62) hk8
    clear F6 N6 F7 N7 hp1 hp2
    refine hideG ?_; intro XX kXX
    obtain ⟨ps3, c3, o3, N1, hp1⟩ := hT8.pack F8 hg62 (Nat.ne_of_lt h62)
    refine kXX ?_; clear kXX XX
    refine hideG ?_; intro XX kXX
    obtain ⟨ps4, c4, o4, N2, hp2⟩ := hT82.pack F8 hg55 (Nat.ne_of_lt h55)
    refine kXX ?_; clear kXX XX
    have N8 : News (hideAll s.heap [62, 55]) L h8 [(62, tabObj ps3), (c3, o3), (55, tabObj ps4), (c4, o4)] := List.forall_mem_append.mpr ⟨N1, N2⟩
    clear N1 N2
    walk_at "m_run"
    (rename Fr _ _ _ _ => F9); (rename News _ _ _ _ => N9)
    rename_i T9 _ l9
    have l62 : @LT.lt Nat _ 62 T9 := l9.1
    have z := N9 _ (.head _)
    rw [hdv] at z
    refine hret _ _ _ _ _ _ (fun b o hb1 hb2 e => F9.keep _ _ (hideAll_get _ e (by simp; exact ⟨hb1, hb2⟩))) (hp1 _ F9.keep (N9 _ (.tail _ (.head _))).1 (N9 _ (.tail _ (.tail _ (.head _)))).1) (hp2 _ F9.keep (N9 _ (.tail _ (.tail _ (.tail _ (.head _))))).1 (N9 _ (.tail _ (.tail _ (.tail _ (.tail _ (.head _)))))).1) ?_ z.1
    cases e : s.heap.get? T9 with
    | none => rfl
    | some o =>
      have e2 := hideAll_get [62, 55] e (by simp only [List.mem_cons, List.not_mem_nil, or_false, not_or]; exact ⟨Nat.ne_of_gt l62, fun (q : @Eq Nat T9 55) => by (first | lia | omega)⟩)
      have z2 := z.2.2
      rw [show (T9, (_ : Obj)).1 = T9 from rfl, e2] at z2
      cases z2
theorem intdiv_spec {a b : Int} {ta tb : Tok} (C : Cx (d + 42) w p loose mean mg mb A h₀ s.heap)
    (ha : 0 ≤ a) (hb0 : 0 < b) (hn : Builtin.Int.intBits b ≤ 7990) (hab : a < 2 ^ (Builtin.Int.intBits b * 19)) (hT1 : TabOk 62 pos62 qual62 s.heap) (hT2 : TabOk 55 pos55 qual55 s.heap) (hn1 : h₀.get? 62 = none) (hn2 : h₀.get? 55 = none)
    (hret : ∀ h' T c tq tr tk', (∀ b o, b ≠ 62 → b ≠ 55 → s.heap.get? b = some o → h'.get? b = some o) → TabOk 62 pos62 qual62 h' → TabOk 55 pos55 qual55 h' → s.heap.get? T = none → h'.get? T = some (tupV [.int (a / b) tq, .int (a % b) tr] c) → Q (.ref T) { s with heap := h', toks := tk' }) :
    wpAny (MM w) A (call (.ref 81) [.int a ta, .int b tb]) Q E s := by
  walk_at "m_fill"
  refine' enterK (binds := [(Str.ofString "a", .int a ta), (Str.ofString "b", .int b tb)]) C ?ho ?hcd ?hb ?hl ?_ ?c1 ?c2 ?c3 ?c4
  walk_at "m_enter"
  intro L h₁ F0 F1
  have F := hide_fr (as := [62, 55]) F1
  have hk := hide_keep (s := s) (as := [62, 55]) C.k (by intro x hx; simp at hx; rcases hx with rfl | rfl <;> assumption)
  have X := C.X.keeps hk
  have T := C.T.keeps hk
  have hg62 : (hideAll s.heap [62, 55]).get? 62 = none := hideAll_none _ (.head _)
  have hg55 : (hideAll s.heap [62, 55]).get? 55 = none := hideAll_none _ (.tail _ (.head _))
  have h62 : @LT.lt Nat _ 62 L := by obtain ⟨ps, h, _⟩ := hT1; exact Nat.lt_of_lt_of_le (Heap.lt_size h) F1.above
  have h55 : @LT.lt Nat _ 55 L := by (first | lia | omega)
  refine hideG ?_; intro XX kXX
  obtain ⟨ps1, c1, o1, N1, hp1⟩ := (hT1.keep F1.keep).pack F hg62 (Nat.ne_of_lt h62)
  refine kXX ?_; clear kXX XX
  refine hideG ?_; intro XX kXX
  obtain ⟨ps2, c2, o2, N2, hp2⟩ := (hT2.keep F1.keep).pack F hg55 (Nat.ne_of_lt h55)
  refine kXX ?_; clear kXX XX
  have N : News (hideAll s.heap [62, 55]) L h₁ [(62, tabObj ps1), (c1, o1), (55, tabObj ps2), (c2, o2)] := List.forall_mem_append.mpr ⟨N1, N2⟩
  clear N1 N2
  walk_at "m_run"
  · (first | lia | omega)
  refine dpos_spec (C.inner _ hk F) ha hb0 hn hab (hT1.keep F1.keep) (hT2.keep F1.keep) hg62 hg55 ?_
  intro h' T c tq tr tk' hk' hT1' hT2' hTn hT'
  refine hret _ _ _ _ _ _ (fun b o hb1 hb2 e => hk' _ _ hb1 hb2 (F1.keep _ _ e)) hT1' hT2' ?_ hT'
  cases e : s.heap.get? T with
  | none => rfl
  | some o =>
    have e2 := F1.keep _ _ e
    have e3 : h₁.get? T = none := hTn
    rw [e3] at e2
    cases e2
end
section
noncomputable def find4 (x y : Str) (i j : Int) : Int := match Builtin.Str.occurrences x y (fromIndex x.length i) (min (fromIndex x.length j) x.length) 1 with | k :: _ => (k : Int) | [] => -1
theorem gives_find4 (x y : Str) (i j : Int) (t u v v' : Tok) : Gives (Builtin.«str.find» ⟨[.str x t, .str y u, .int i v, .int j v'], []⟩) (.int (find4 x y i j)) := by
  show Gives (match Builtin.Str.occurrences x y (fromIndex x.length i) (min (fromIndex x.length j) x.length) 1 with | k :: _ => retInt k | [] => (do rule "str.find.not-found"; retInt (-1))) _
  unfold find4
  cases Builtin.Str.occurrences x y (fromIndex x.length i) (min (fromIndex x.length j) x.length) 1 with
  | nil => exact .rule (.of_eq rfl)
  | cons k _ => exact .of_eq rfl
theorem call_find4 {w : World} {A : Around} {s : Shared} {Q E : Value → Shared → Prop} {x y : Str} {i j : Int} {t u v v' : Tok} (hq : Q (.int (find4 x y i j) s.toks) { s with toks := s.toks + 1 }) : wpAny (MM w) A (call (.builtin "str.find") [.str x t, .str y u, .int i v, .int j v']) Q E s :=
  call_gives F.slot_str_find (typeIs_str _ _ _) F.entry_str_find (F.args_str_find_4 _ _ _ _) (gives_find4 x y i j t u v v') hq
noncomputable def ellScan (got : Str) (hi : Int) : List Str → Int → Bool
  | [], _ => true
  | w :: ws, p => if find4 got w p hi < 0 then false else ellScan got hi ws (find4 got w p hi + w.length)
noncomputable def ellB (got : Str) (ws : List Str) (wl : Str) : Bool := Txt.endswith got wl && ellScan got ((got.length : Int) - wl.length) (Str.ofString "" :: ws) 0
theorem strs_at : ∀ {l : List (Str × Tok)} {i : Nat} {v : Value}, (strValues l)[i]? = some v → ∃ x t, v = .str x t ∧ (l.map (·.1))[i]? = some x := by
  intro l i v h
  unfold strValues at h
  rw [List.getElem?_map] at h
  cases e : l[i]? with
  | none => rw [e] at h; cases h
  | some a => rw [e] at h; cases h; exact ⟨a.1, a.2, rfl, by rw [List.getElem?_map, e]; rfl⟩
theorem ell_spec {want got : Str} {t1 t2 : Tok} {ws : List Str} {wl : Str} (C : Cx (d + 2) w p loose mean mg mb A h₀ s.heap)
    (hin : (Builtin.Str.occurrences want (Str.ofString "...") 0 want.length 1).isEmpty = false) (hsp : Txt.split want (Str.ofString "...") = Str.ofString "" :: (ws ++ [wl])) (hwl : wl.length ≠ 0) (hwl2 : wl.length ≤ 100000) (hws : ∀ x ∈ ws, x.length ≤ 100000) (hlen : ws.length < 1000) (hg : got.length < 100000) (hwa : True → want.length < 100000)
    (hret : ∀ h' tk', (∀ b o, s.heap.get? b = some o → h'.get? b = some o) → Q (.bool (ellB got ws wl)) { s with heap := h', toks := tk' }) :
    wpAny (MM w) A (call (.ref 88) [.str want t1, .str got t2]) Q E s := by
  walk_at "m_fill"
  refine' enterK (binds := [(Str.ofString "want", .str want t1), (Str.ofString "got", .str got t2)]) C ?ho ?hcd ?hb ?hl ?_ ?c1 ?c2 ?c3 ?c4
  walk_at "m_enter"
  intro L h₁ F0 F
  have X' := C.X.keeps C.k
  have T := C.T.keeps C.k
  have N : News s.heap L h₁ [] := News.nil
  clear F0
  have hA := C.hh
  walk_at "m_run"
  refine KSpl.split1 F N (by decide) ?_ (by have := hwa trivial; rw [show sizeLine = 16777216 from rfl]; (first | lia | omega))
  intro D l h2 tk2 hl hSA F2 N2 _
  rw [hsp] at hl
  refine hideG ?_; intro XX kXX
  obtain ⟨⟨x0, t0⟩, l0, rfl⟩ : ∃ a r, l = a :: r := by cases l with | nil => cases hl | cons a r => exact ⟨a, r, rfl⟩
  refine kXX ?_; clear kXX XX
  rw [List.map_cons] at hl
  obtain ⟨hx0, hl1⟩ := List.cons.inj hl
  have hx00 : x0 = Str.ofString "" := hx0
  subst hx00
  refine hideG ?_; intro XX kXX
  obtain ⟨la, lb, rfl, hla, hlb⟩ := List.map_eq_append_iff.mp hl1
  refine kXX ?_; clear kXX XX
  refine hideG ?_; intro XX kXX
  obtain ⟨⟨xl, tl⟩, rfl, hxl⟩ : ∃ a, lb = [a] ∧ a.1 = wl := by
    cases lb with
    | nil => cases hlb
    | cons a r =>
      rw [List.map_cons] at hlb
      obtain ⟨h1, h2⟩ := List.cons.inj hlb
      cases r with
      | nil => exact ⟨a, rfl, h1⟩
      | cons _ _ => cases h2
  refine kXX ?_; clear kXX XX
  have hxl' : xl = wl := hxl
  subst hxl'
  clear hl hl1 hlb hx0 hxl hSA
  have hvs : strValues ((Str.ofString "", t0) :: (la ++ [(xl, tl)])) = .str (Str.ofString "") t0 :: (strValues la ++ [.str xl tl]) := by simp [strValues]
  rw [hvs] at N2
  have hll : (strValues la).length = ws.length := by rw [← hla]; simp [strValues]
  generalize hva : strValues la = va at *
  walk_at "m_run"
  (rename Fr _ _ _ _ => F3); (rename News _ _ _ _ => N3)
  refine KM.len_K (n := ws.length + 2) N3 (.head _) (by simp; (first | lia | omega)) (by (first | lia | omega)) ?_
  walk_at "m_run"
  (rename Fr _ _ _ _ => F4); (rename News _ _ _ _ => N4)
  have hls := N4.isList (.tail _ (.head _))
  refine subscriptTail_builtin hls.typeIs slot_list_getitem.lookup (wpAny_getItem_list_neg (x := .str xl tl) hls (by decide) (by simp; (first | lia | omega)) (by decide) ?_ ?_) (by intros; rfl) (by intros; rfl)
  · rw [show ((-1 : Int) + ((Value.str (Str.ofString "") t0 :: (va ++ [Value.str xl tl])).toArray.size : Nat)).toNat = va.length + 1 by simp; (first | lia | omega)]
    simp
  walk_at "m_run"
  · (rename Fr _ _ _ _ => F5); (rename News _ _ _ _ => N5)
    rename_i hend _ _ _
    have N6 : News s.heap L _ [(D, listV (Value.str (Str.ofString "") t0 :: (va ++ [Value.str xl tl])) 0)] := fun p hp => N5 p (.tail _ hp)
    clear N5
    refine del_L (k := va.length + 1) F5 N6 (.head (List.forall_mem_nil _)) (by decide) ?_ (by simp) ?_ (by simp; (first | lia | omega))
    · unfold seqIndex?; simp; (first | lia | omega)
    rw [show (Value.str (Str.ofString "") t0 :: (va ++ [Value.str xl tl])).eraseIdx (va.length + 1) = Value.str (Str.ofString "") t0 :: va by simp [List.eraseIdx_append_of_length_le]]
    intro h6 F6 N7
    clear F5 N6
    walk_at "m_run"
    · exfalso
      have : xl.length ≤ got.length := by
        have h1 : Txt.endswith got xl = true := by assumption
        unfold Txt.endswith at h1
        simp at h1
        (first | lia | omega)
      (first | lia | omega)
    refine wpAny_For ?_
    walk_at "m_run"
    (rename Fr _ _ _ _ => F8); (rename News _ _ _ _ => N8)
    have hend' : Txt.endswith got xl = true := by assumption
    have hvs2 : Value.str (Str.ofString "") t0 :: va = strValues ((Str.ofString "", t0) :: la) := by rw [← hva]; rfl
    have hws2 : ((Str.ofString "", t0) :: la).map (·.1) = Str.ofString "" :: ws := by rw [List.map_cons, hla]
    have hlen2 : (Value.str (Str.ofString "") t0 :: va).length = ws.length + 1 := by simp [hll]
    refine for_listN (L := L) (l := D) (c := 0 + 1) (vs := Value.str (Str.ofString "") t0 :: va) (fun i m news => news = [(D, listV (Value.str (Str.ofString "") t0 :: va) (0 + 1))] ∧ m (Str.ofString "got") = some (.str got t2) ∧ (∃ t, m (Str.ofString "endpos") = some (.int ((got.length : Int) - xl.length) t)) ∧
      ∃ p t, m (Str.ofString "startpos") = some (.int p t) ∧ ellScan got ((got.length : Int) - xl.length) ((Str.ofString "" :: ws).drop i) p = ellScan got ((got.length : Int) - xl.length) (Str.ofString "" :: ws) 0)
      hA ?hl rfl rfl rfl F8 N8 ?J0 ?turn ?done
    case hl => rintro i m' news' ⟨rfl, _⟩; exact .head _
    case J0 => exact ⟨rfl, rfl, ⟨_, rfl⟩, 0, _, rfl, rfl⟩
    case turn =>
      rintro I i v m₁ news₁ h tk oI hi hv hI1 hJ11 hoff F9 N9
      refine hideG ?_; intro XX kXX
      obtain ⟨rfl, mg', ⟨te, me⟩, p, tp, mp, hsc⟩ := hJ11
      refine kXX ?_; clear kXX XX
      refine hideG ?_; intro XX kXX
      obtain ⟨x, tx, rfl, hx⟩ := strs_at (hvs2 ▸ hv)
      refine kXX ?_; clear kXX XX
      rw [hws2] at hx
      obtain ⟨hlt, hx2⟩ := List.getElem?_eq_some_iff.mp hx
      rw [List.drop_eq_getElem_cons hlt, hx2] at hsc
      rw [ellScan] at hsc
      have hxs : x.length ≤ 100000 := by
        rcases List.mem_cons.mp (List.mem_of_getElem? hx) with rfl | hm
        · decide
        · exact hws x hm
      have hDI : @LT.lt Nat _ D I := hI1 _ (.head _)
      walk_at "m_run"
      refine call_find4 ?_
      generalize find4 got x p ((got.length : Int) - xl.length) = fp at hsc ⊢
      walk_at "m_run"
      · (rename fp < 0 => hneg); (rename Fr _ _ _ _ => F10)
        rw [if_pos hneg] at hsc
        have hB : ellB got ws xl = false := by unfold ellB; rw [hend', ← hsc]; rfl
        rw [hB] at hret
        exact hret _ _ F10.keep
      · (rename ¬ fp < 0 => hneg); (rename Fr _ _ _ _ => F10); (rename News _ _ _ _ => N10)
        rw [if_neg hneg] at hsc
        exact Turned.mk F10 N10 hoff ⟨rfl, mg', ⟨_, me⟩, _, _, rfl, hsc⟩
    case done =>
      rintro m₁ news₁ h tk hJ4 F9 N9
      refine hideG ?_; intro XX kXX
      obtain ⟨rfl, mg', ⟨te, me⟩, p, tp, mp, hsc⟩ := hJ4
      refine kXX ?_; clear kXX XX
      rw [hlen2, List.drop_of_length_le (by simp), ellScan] at hsc
      try dsimp only
      walk_at "m_run"
      have hB : ellB got ws xl = true := by unfold ellB; rw [hend', ← hsc]; rfl
      rw [hB] at hret
      exact hret _ _ F9.keep
  · have hend' : Txt.endswith got xl = false := by assumption
    (rename Fr _ _ _ _ => F5)
    have hB : ellB got ws xl = false := by unfold ellB; rw [hend']; rfl
    rw [hB] at hret
    exact hret _ _ F5.keep
  · (first | lia | omega)
end
section
structure IsWs (h : Heap) (x : Addr) (cs : List Int) (tr nt : Int) : Prop where
  ex : ∃ (dx Tn Tc : Addr) (es : List DictEntry) (n : Nat) (sl : Array (Option Value)) (vs : List Value) (c cn : Nat) (t t' : Tok), h.get? x = some ⟨.ref 150, some dx, .plain, sl⟩ ∧ h.get? dx = some (dictOf es n) ∧
    getL (Str.ofString "norm") es = some (some (.ref Tn)) ∧ h.get? Tn = some (tupV [.ref Tc, .int tr t] cn) ∧ h.get? Tc = some (tupV vs c) ∧ IntsAre vs cs ∧ getL (Str.ofString "nt") es = some (some (.int nt t')) ∧
    getL (Str.ofString "longest_run_of_spaces") es = some none ∧ getL (Str.ofString "indent_level") es = some none ∧ getL (Str.ofString "not_less_witness") es = some none
theorem IsWs.keep {h h' : Heap} {x : Addr} {cs : List Int} {tr nt : Int} (W : IsWs h x cs tr nt) (k : ∀ b o, h.get? b = some o → h'.get? b = some o) : IsWs h' x cs tr nt := by
  obtain ⟨dx, Tn, Tc, es, n, sl, vs, c, cn, t, t', a1, a2, a3, a4, a5, a6⟩ := W.ex
  exact ⟨dx, Tn, Tc, es, n, sl, vs, c, cn, t, t', k _ _ a1, k _ _ a2, a3, k _ _ a4, k _ _ a5, a6⟩
theorem ws_get {w : World} {A : Around} {g : Heap} {L x dx : Addr} {m : Str → Option Value} {s : Shared} {Q E : Value → Shared → Prop} {sl : Array (Option Value)} {es : List DictEntry} {n : Nat} {name : Str} {v : Value} {expr : Bool} (F : Fr g L s.heap m) (X₀ : (Mine.kf.heap_1 w.params).In g)
    (h1 : g.get? x = some ⟨.ref 150, some dx, .plain, sl⟩) (h2 : g.get? dx = some (dictOf es n)) (hl : getL name es = some (some v)) (hg : plainGet (Mine.kf.heap_1 w.params) 150 name = true) (hh : hasDictIn (Mine.kf.heap_1 w.params) 150 = true)
    (ha : findIn (Mine.kf.heap_1 w.params) (.ref 150) name = some none) (hn : noGet (Mine.kf.heap_1 w.params) none = true) (hv : handedIn v = true) (h : Q v { s with toks := s.toks + 1 }) :
    wpAny (MM w) A (getAttr (.ref x) name expr) Q E s :=
  get_own F X₀ ⟨F.keep _ _ h1, rfl, rfl, F.keep _ _ h2⟩ hg hh ha hn hl hv h
theorem longest_spec {x : Addr} {cs : List Int} {tr nt : Int} (C : Cx (d + 2) w p loose mean mg mb A h₀ s.heap) (W : IsWs s.heap x cs tr nt) (hcs : cs.length < 1000)
    (hret : ∀ h' t tk', (∀ b o, s.heap.get? b = some o → h'.get? b = some o) → Q (.int (max ((cs.length : Int) - 1) tr) t) { s with heap := h', toks := tk' }) :
    wpAny (MM w) A (call (.ref 112) [.ref x]) Q E s := by
  walk_at "m_fill"
  refine' enterK (binds := [(Str.ofString "self", .ref x)]) C ?ho ?hcd ?hb ?hl ?_ ?c1 ?c2 ?c3 ?c4
  walk_at "m_enter"
  intro L h₁ F0 F
  have X' := C.X.keeps C.k
  have T := C.T.keeps C.k
  have N : News s.heap L h₁ [] := News.nil
  clear F0
  have hA := C.hh
  refine hideG ?_; intro XX kXX
  obtain ⟨dx, Tn, Tc, es, n, sl, vs, c, cn, t, t', a1, a2, a3, a4, a5, hI, a7, a8, a9, a10⟩ := W.ex
  refine kXX ?_; clear kXX XX
  have b4 : IsTup s.heap Tn [Value.ref Tc, .int tr t].toArray := ⟨_, a4, rfl, _, rfl⟩
  have b5 : IsTup s.heap Tc vs.toArray := ⟨_, a5, rfl, _, rfl⟩
  have hvl := hI.length
  walk_at "m_run"
  refine ws_get F X' a1 a2 a3 ?g1 ?g2 ?g3 ?g4 ?g5 ?_
  case g1 => k_is
  case g2 => k_is
  case g3 => k_is
  case g4 => k_is
  case g5 => rfl
  walk_at "m_run"
  (rename Fr _ _ _ _ => F2)
  refine len_tuple (b5.keeps F2.keep) (by simp; (first | lia | omega)) ?_
  walk_at "m_run"
  (rename News _ _ _ _ => N2)
  refine max_two_N hA F2 N2 ?_
  intro h3 tk3 F3 N3
  have hm : (if tr > ((vs.toArray.size : Nat) : Int) - 1 then tr else ((vs.toArray.size : Nat) : Int) - 1) = max ((cs.length : Int) - 1) tr := by
    rw [List.size_toArray, hvl]
    split <;> (first | lia | omega)
  rw [hm]
  exact hret _ _ _ F3.keep
noncomputable def ilK (ts : Int) (cs : List Int) : Nat → Int
  | 0 => 0
  | k + 1 => ilK ts cs k + (ts + k) / ts * cs.getD (ts + k).toNat 0
theorem indent_spec {x : Addr} {cs : List Int} {tr nt ts : Int} {tt : Tok} (C : Cx (d + 2) w p loose mean mg mb A h₀ s.heap) (W : IsWs s.heap x cs tr nt) (hcs : cs.length < 1000) (hts : 0 < ts ∧ ts < 1000) (hnt : 0 ≤ nt ∧ nt < 1000) (hce : ∀ c ∈ cs, 0 ≤ c ∧ c < 1000)
    (hret : ∀ h' t tk', (∀ b o, s.heap.get? b = some o → h'.get? b = some o) → Q (.int (tr + ts * (ilK ts cs (cs.length - ts).toNat + nt)) t) { s with heap := h', toks := tk' }) :
    wpAny (MM w) A (call (.ref 119) [.ref x, .int ts tt]) Q E s := by
  walk_at "m_fill"
  refine' enterK (binds := [(Str.ofString "self", .ref x), (Str.ofString "tabsize", .int ts tt)]) C ?ho ?hcd ?hb ?hl ?_ ?c1 ?c2 ?c3 ?c4
  walk_at "m_enter"
  intro L h₁ F0 F
  have X' := C.X.keeps C.k
  have T := C.T.keeps C.k
  have N : News s.heap L h₁ [] := News.nil
  clear F0
  have hA := C.hh
  refine hideG ?_; intro XX kXX
  obtain ⟨dx, Tn, Tc, es, n, sl, vs, c, cn, t, t', a1, a2, a3, a4, a5, hI, a7, a8, a9, a10⟩ := W.ex
  refine kXX ?_; clear kXX XX
  have b4 : IsTup s.heap Tn [Value.ref Tc, .int tr t].toArray := ⟨_, a4, rfl, _, rfl⟩
  have b5 : IsTup s.heap Tc vs.toArray := ⟨_, a5, rfl, _, rfl⟩
  have hvl := hI.length
  walk_at "m_run"
  refine ws_get F X' a1 a2 a3 ?g1 ?g2 ?g3 ?g4 ?g5 ?_
  case g1 => k_is
  case g2 => k_is
  case g3 => k_is
  case g4 => k_is
  case g5 => rfl
  walk_at "m_run"
  refine wpAny_For ?_
  walk_at "m_run"
  (rename Fr _ _ _ _ => F2)
  refine len_tuple (b5.keeps F2.keep) (by simp; (first | lia | omega)) ?_
  walk_at "m_run"
  (rename Fr _ _ _ _ => F3); (rename News _ _ _ _ => N3)
  refine range2_rows F3 N3 ?_
  intro h4 tk4 t1 u1 v1 hR F4 N4 _
  have hsz : ((vs.toArray.size : Nat) : Int) = cs.length := by rw [List.size_toArray, hvl]
  rw [hsz] at hR
  walk_at "m_run"
  have small : ∀ a : Int, 0 ≤ a → a < 1024 → Builtin.Int.intBits a ≤ 10 := fun a h0 h1 => bits_of_lt h0 (by (first | lia | omega))
  refine for_range (h₀ := s.heap) (L := L) (cs.length - ts).toNat (fun i m news => news = [] ∧ (∃ t, m (Str.ofString "il") = some (.int (ilK ts cs i) t)) ∧ m (Str.ofString "self") = some (.ref x) ∧ m (Str.ofString "tabsize") = some (.int ts tt) ∧ m (Str.ofString "count") = some (.ref Tc) ∧ ∃ t, m (Str.ofString "trailing") = some (.int tr t))
    hA hR rfl (by (first | lia | omega)) (by (first | lia | omega)) rfl rfl rfl F4 N4 ⟨rfl, ⟨_, rfl⟩, rfl, rfl, rfl, _, rfl⟩ ?_ ?_
  · rintro I i v m₁ news₁ h tk oI hi hJ9 hI1 hJ11 hoff F5 N5
    refine hideG ?_; intro XX kXX
    obtain ⟨ti, rfl⟩ := hJ9
    obtain ⟨rfl, ⟨tl, ml⟩, ms, mt, mc, t3, mr⟩ := hJ11
    refine kXX ?_; clear kXX XX
    have hq : (ts + (i : Int)).fdiv ts = (ts + i) / ts := Int.fdiv_eq_ediv_of_nonneg _ (by (first | lia | omega))
    have hq0 : 0 ≤ (ts + (i : Int)) / ts := Int.ediv_nonneg (by (first | lia | omega)) (by (first | lia | omega))
    have hq1 : (ts + (i : Int)) / ts ≤ ts + i := Int.ediv_le_self _ (by (first | lia | omega))
    have hc : 0 ≤ cs.getD (ts + (i : Int)).toNat 0 ∧ cs.getD (ts + (i : Int)).toNat 0 < 1000 := by
      have hlt : (ts + (i : Int)).toNat < cs.length := by (first | lia | omega)
      rw [List.getD_eq_getElem?_getD, List.getElem?_eq_getElem hlt]
      exact hce _ (List.getElem_mem hlt)
    have hIM : PySem.IntMulOk ((ts + (i : Int)).fdiv ts) (cs.getD (ts + (i : Int)).toNat 0) := by
      rw [hq]; exact mulOk_of_bits (small _ hq0 (by (first | lia | omega))) (small _ hc.1 (by (first | lia | omega))) (by decide)
    walk_at "m_run"
    (rename Fr _ _ _ _ => F6); (rename News _ _ _ _ => N6)
    rw [hq] at F6
    exact Turned.mk F6 N6 hoff ⟨rfl, ⟨_, rfl⟩, ms, mt, mc, _, mr⟩
  · rintro m₁ news₁ h tk hJ4 F5 N5
    refine hideG ?_; intro XX kXX
    obtain ⟨rfl, ⟨tl, ml⟩, ms, mt, mc, t3, mr⟩ := hJ4
    refine kXX ?_; clear kXX XX
    try dsimp only
    walk_at "m_run"
    refine ws_get F5 X' a1 a2 a7 ?g1 ?g2 ?g3 ?g4 ?g5 ?_
    case g1 => k_is
    case g2 => k_is
    case g3 => k_is
    case g4 => k_is
    case g5 => rfl
    walk_at "m_run"
    exact hret _ _ _ F5.keep
end
section
theorem ws_meth {w : World} {A : Around} {g : Heap} {L x dx f : Addr} {m : Str → Option Value} {s : Shared} {Q : Value × List Value → Shared → Prop} {E : Value → Shared → Prop} {sl : Array (Option Value)} {es : List DictEntry} {n : Nat} {name : Str} {pl : Sem Bool} (F : Fr g L s.heap m) (X₀ : (Mine.kf.heap_1 w.params).In g)
    (h1 : g.get? x = some ⟨.ref 150, some dx, .plain, sl⟩) (h2 : g.get? dx = some (dictOf es n)) (hl : getL name es = some none) (hg : plainGet (Mine.kf.heap_1 w.params) 150 name = true)
    (hf : findIn (Mine.kf.heap_1 w.params) (.ref 150) name = some (some (.ref f))) (ht : isFn (Mine.kf.heap_1 w.params) (.ref f) = true) (h : Q (.ref f, [.ref x]) s) :
    wpAny (MM w) A (getMethod (.ref x) name pl) Q E s :=
  method_inst F X₀ ⟨F.keep _ _ h1, rfl, rfl, F.keep _ _ h2⟩ hg hf ht hl h
local macro_rules | `(tactic| walk_at "getMethod ref") => `(tactic| (k_dflt (refine' ws_meth ?F ?X ?h1 ?h2 ?hl ?g1 ?g2 ?g3 ?_; (case F => with_reducible assumption); (case X => with_reducible assumption); (case h1 => with_reducible assumption); (case h2 => with_reducible assumption); (case hl => with_reducible assumption); (case g1 => k_is); (case g2 => k_is); (case g3 => k_is))))
local macro_rules | `(tactic| walk_at "m_run2") => `(tactic| repeat' (walk_at "m_stop"; first | (with_reducible refine wpAny_execs_cons ?_) | walk_at "m_step"))
/-- rows of three ints, each a tuple on the heap -/
inductive Rows3 (h : Heap) : List Value → List (Int × Int × Int) → Prop
  | nil : Rows3 h [] []
  | cons {T : Addr} {c : Nat} {a b e : Int} {t u v : Tok} {vs : List Value} {rs : List (Int × Int × Int)} : h.get? T = some (tupV [.int a t, .int b u, .int e v] c) → Rows3 h vs rs → Rows3 h (.ref T :: vs) ((a, b, e) :: rs)
theorem Rows3.keep {h h' : Heap} : ∀ {vs : List Value} {rs : List (Int × Int × Int)}, Rows3 h vs rs → (∀ T o, .ref T ∈ vs → h.get? T = some o → h'.get? T = some o) → Rows3 h' vs rs
  | _, _, .nil, _ => .nil
  | _, _, .cons a r, k => .cons (k _ _ (.head _) a) (r.keep fun T o hm e => k T o (.tail _ hm) e)
theorem Rows3.snoc {h : Heap} {T : Addr} {c : Nat} {a b e : Int} {t u v : Tok} (hT : h.get? T = some (tupV [.int a t, .int b u, .int e v] c)) : ∀ {vs : List Value} {rs : List (Int × Int × Int)}, Rows3 h vs rs → Rows3 h (vs ++ [.ref T]) (rs ++ [(a, b, e)])
  | _, _, .nil => .cons hT .nil
  | _, _, .cons x r => .cons x (Rows3.snoc hT r)
theorem Rows3.length {h : Heap} : ∀ {vs : List Value} {rs : List (Int × Int × Int)}, Rows3 h vs rs → vs.length = rs.length
  | _, _, .nil => rfl
  | _, _, .cons _ r => by rw [List.length_cons, List.length_cons, r.length]
noncomputable def indV (cs : List Int) (tr nt ts : Int) : Int := tr + ts * (ilK ts cs (cs.length - ts).toNat + nt)
noncomputable def nlwL (f g : Int → Int) : Nat → List (Int × Int × Int)
  | 0 => []
  | k + 1 => nlwL f g k ++ (if f (1 + k) ≥ g (1 + k) then [((1 + k : Int), f (1 + k), g (1 + k))] else [])
noncomputable def nlwN (cs1 : List Int) (tr1 : Int) (cs2 : List Int) (tr2 : Int) : Int := max (max ((cs1.length : Int) - 1) tr1) (max ((cs2.length : Int) - 1) tr2) + 1
theorem nlw_spec {x y : Addr} {cs1 cs2 : List Int} {tr1 tr2 nt1 nt2 : Int} (C : Cx (d + 3) w p loose mean mg mb A h₀ s.heap) (W1 : IsWs s.heap x cs1 tr1 nt1) (W2 : IsWs s.heap y cs2 tr2 nt2) (hcs1 : cs1.length < 900) (hcs2 : cs2.length < 900)
    (hnt1 : 0 ≤ nt1 ∧ nt1 < 1000) (hnt2 : 0 ≤ nt2 ∧ nt2 < 1000) (hce1 : ∀ c ∈ cs1, 0 ≤ c ∧ c < 1000) (hce2 : ∀ c ∈ cs2, 0 ≤ c ∧ c < 1000) (htr1 : 0 ≤ tr1 ∧ tr1 < 900) (htr2 : 0 ≤ tr2 ∧ tr2 < 900)
    (hret : ∀ h' D vs c tk', (∀ b o, s.heap.get? b = some o → h'.get? b = some o) → s.heap.get? D = none → h'.get? D = some (listV vs c) → Rows3 h' vs (nlwL (indV cs1 tr1 nt1) (indV cs2 tr2 nt2) (nlwN cs1 tr1 cs2 tr2).toNat) → (∀ T, .ref T ∈ vs → s.heap.get? T = none) → Q (.ref D) { s with heap := h', toks := tk' }) :
    wpAny (MM w) A (call (.ref 147) [.ref x, .ref y]) Q E s := by
  walk_at "m_fill"
  refine' enterK (binds := [(Str.ofString "self", .ref x), (Str.ofString "other", .ref y)]) C ?ho ?hcd ?hb ?hl ?_ ?c1 ?c2 ?c3 ?c4
  walk_at "m_enter"
  intro L h₁ F0 F
  have X' := C.X.keeps C.k
  have T := C.T.keeps C.k
  have N : News s.heap L h₁ [] := News.nil
  clear F0
  have hA := C.hh
  refine hideG ?_; intro XX kXX
  obtain ⟨dx, Tn, Tc, es, n, sl, vs, c, cn, t, t', a1, a2, a3, a4, a5, hI, a7, a8, a9, a10⟩ := W1.ex
  refine kXX ?_; clear kXX XX
  refine hideG ?_; intro XX kXX
  obtain ⟨dy, Tn', Tc', es', n', sl', vs', c', cn', t1, t1', b1, b2, b3, b4, b5, hI', b7, b8, b9, b10⟩ := W2.ex
  refine kXX ?_; clear kXX XX
  walk_at "m_run"
  try dsimp only
  refine longest_spec (C.inner _ C.k F) (W1.keep F.keep) (by omega) ?_
  intro h2 t2 tk2 hk2
  have F2 := Fr.ext F hk2
  have N2 := News.ext N hk2
  clear F N
  walk_at "m_run"
  try dsimp only
  refine longest_spec (C.inner _ C.k F2) (W2.keep F2.keep) (by omega) ?_
  intro h3 t3 tk3 hk3
  have F3 := Fr.ext F2 hk3
  have N3 := News.ext N2 hk3
  clear F2 N2
  walk_at "m_run"
  refine max_two_N hA F3 N3 ?_
  intro h4 tk4 F4 N4
  have hm : (if max ((cs2.length : Int) - 1) tr2 > max ((cs1.length : Int) - 1) tr1 then max ((cs2.length : Int) - 1) tr2 else max ((cs1.length : Int) - 1) tr1) = nlwN cs1 tr1 cs2 tr2 - 1 := by
    unfold nlwN; split <;> omega
  rw [hm]
  clear F3 N3
  walk_at "m_run2"
  refine wpAny_For ?_
  walk_at "m_run"
  (rename Fr _ _ _ _ => F5); (rename News _ _ _ _ => N5)
  rename_i D _ _ _
  refine range2_rows F5 N5 ?_
  intro h6 tk6 tr1' tu1 tv1 hR F6 N6 _
  clear F5 N5
  have hind1 : indV cs1 tr1 nt1 = fun ts => tr1 + ts * (ilK ts cs1 (cs1.length - ts).toNat + nt1) := rfl
  have hind2 : indV cs2 tr2 nt2 = fun ts => tr2 + ts * (ilK ts cs2 (cs2.length - ts).toNat + nt2) := rfl
  have hn0 : 0 ≤ nlwN cs1 tr1 cs2 tr2 ∧ nlwN cs1 tr1 cs2 tr2 < 901 := by unfold nlwN; omega
  have hret1 : ∀ ts, indV cs1 tr1 nt1 ts = tr1 + ts * (ilK ts cs1 (cs1.length - ts).toNat + nt1) := fun _ => rfl
  have hret2 : ∀ ts, indV cs2 tr2 nt2 ts = tr2 + ts * (ilK ts cs2 (cs2.length - ts).toNat + nt2) := fun _ => rfl
  generalize indV cs1 tr1 nt1 = f at *
  generalize indV cs2 tr2 nt2 = g at *
  generalize nlwN cs1 tr1 cs2 tr2 = K at *
  walk_at "m_run"
  refine for_range (h₀ := s.heap) (L := L) K.toNat (fun i m news => ∃ vsD cD tups, news = (D, listV vsD cD) :: tups ∧ (∀ p ∈ tups, p.1 ≠ D) ∧ (∀ T, Value.ref T ∈ vsD → s.heap.get? T = none) ∧ vsD.length ≤ i ∧ (∀ h' : Heap, (∀ p ∈ tups, h'.get? p.1 = some p.2) → Rows3 h' vsD (nlwL f g i)) ∧
      m (Str.ofString "self") = some (.ref x) ∧ m (Str.ofString "other") = some (.ref y) ∧ m (Str.ofString "a") = some (.ref D))
    hA hR (by omega) (by omega) (by omega) rfl rfl rfl F6 N6 ⟨[], 0, [], rfl, (fun _ h => by cases h), (fun _ h => by cases h), Nat.le_refl _, (fun _ _ => .nil), rfl, rfl, rfl⟩ ?_ ?_
  · rintro I i v m₁ news₁ h tk oI hi hJ9 hI1 hJ11 hoff F7 N7
    refine hideG ?_; intro XX kXX
    obtain ⟨ti, rfl⟩ := hJ9
    obtain ⟨vsD, cD, tups, rfl, hoffD, hTn, hlen, hrows, mx, my, ma⟩ := hJ11
    refine kXX ?_; clear kXX XX
    walk_at "m_run"
    try dsimp only
    refine indent_spec (C.inner _ C.k F7) (W1.keep F7.keep) (by omega) (by omega) hnt1 hce1 ?_
    rw [← hret1]
    intro h8 t8 tk8 hk8
    have F8 := Fr.ext F7 hk8
    have N8 := News.ext N7 hk8
    clear F7 N7
    walk_at "m_run"
    try dsimp only
    refine indent_spec (C.inner _ C.k F8) (W2.keep F8.keep) (by omega) (by omega) hnt2 hce2 ?_
    rw [← hret2]
    intro h9 t9 tk9 hk9
    have F9 := Fr.ext F8 hk9
    have N9 := News.ext N8 hk9
    clear F8 N8
    walk_at "m_run"
    · (rename g _ ≤ f _ => hge)
      try dsimp only
      refine indent_spec (C.inner _ C.k F9) (W1.keep F9.keep) (by omega) (by omega) hnt1 hce1 ?_
      rw [← hret1]
      intro h10 t10 tk10 hk10
      have F10 := Fr.ext F9 hk10
      have N10 := News.ext N9 hk10
      clear F9 N9
      walk_at "m_run"
      try dsimp only
      refine indent_spec (C.inner _ C.k F10) (W2.keep F10.keep) (by omega) (by omega) hnt2 hce2 ?_
      rw [← hret2]
      intro h11 t11 tk11 hk11
      have F11 := Fr.ext F10 hk11
      have N11 := News.ext N10 hk11
      clear F10 N10
      walk_at "m_run"
      rename_i T' _ F12 N12 hlt
      have hIT : @LT.lt Nat _ I T' := hlt.1
      have hDT : @LT.lt Nat _ D T' := hlt.2.1
      have hDI : @LT.lt Nat _ D I := hI1 _ (.head _)
      refine append_L F12 N12 (.tail (Nat.ne_of_gt hDT) (.tail (Nat.ne_of_gt hDI) (.head hoffD))) ?_ (by omega)
      intro h13 F13 N13
      have N14 : News s.heap L h13 ((I, oI) :: (D, listV (vsD ++ [.ref T']) (cD + 1)) :: (T', tupV [.int (1 + (i : Int)) ti, .int (f (1 + i)) t10, .int (g (1 + i)) t11] 0) :: tups) := by
        intro p hp
        refine N13 p ?_
        rcases List.mem_cons.mp hp with h | hp
        · exact h ▸ .tail _ (.head _)
        rcases List.mem_cons.mp hp with h | hp
        · exact h ▸ .tail _ (.tail _ (.head _))
        rcases List.mem_cons.mp hp with h | hp
        · exact h ▸ .head _
        · exact .tail _ (.tail _ (.tail _ hp))
      clear N13
      walk_at "m_run"
      refine Turned.mk F13 N14 ?_ ⟨vsD ++ [.ref T'], cD + 1, (T', tupV [.int (1 + (i : Int)) ti, .int (f (1 + i)) t10, .int (g (1 + i)) t11] 0) :: tups, rfl, ?_, ?_, ?_, ?_, mx, my, ma⟩
      · intro p hp
        rcases List.mem_cons.mp hp with h | hp
        · rw [h]; exact Nat.ne_of_lt hDI
        rcases List.mem_cons.mp hp with h | hp
        · rw [h]; exact Nat.ne_of_gt hIT
        · exact hoff p (.tail _ hp)
      · intro p hp
        rcases List.mem_cons.mp hp with h | hp
        · rw [h]; exact Nat.ne_of_gt hDT
        · exact hoffD p hp
      · intro T₀ hT0
        rcases List.mem_append.mp hT0 with h | h
        · exact hTn T₀ h
        · have e : T₀ = T' := by simpa using h
          rw [e]
          exact (N14 _ (.tail _ (.tail _ (.head _)))).2.2
      · rw [List.length_append]; show vsD.length + 1 ≤ i + 1; omega
      · intro h' hh
        rw [nlwL, if_pos hge]
        exact Rows3.snoc (hh _ (.head _)) (hrows h' fun p hp => hh p (.tail _ hp))
    · (rename ¬ _ ≤ f _ => hlt)
      refine Turned.mk F9 N9 hoff ⟨vsD, cD, tups, rfl, hoffD, hTn, by omega, fun h' hh => ?_, mx, my, ma⟩
      rw [nlwL, if_neg hlt, List.append_nil]
      exact hrows h' hh
  · rintro m₁ news₁ h tk hJ4 F7 N7
    refine hideG ?_; intro XX kXX
    obtain ⟨vsD, cD, tups, rfl, hoffD, hTn, hlen, hrows, mx, my, ma⟩ := hJ4
    refine kXX ?_; clear kXX XX
    try dsimp only
    walk_at "m_run"
    exact hret h D vsD cD _ F7.keep (N7 _ (.head _)).2.2 (N7 _ (.head _)).1 (hrows h fun p hp => (N7 p (.tail _ hp)).1) hTn
end
section
noncomputable def IsBis (xs : List Int) (x : Int) (r : Nat) : Prop := r ≤ xs.length ∧ (∀ i : Nat, i < r → xs.getD i 0 < x) ∧ ∀ i : Nat, r ≤ i → i < xs.length → x ≤ xs.getD i 0
theorem sorted_le {xs : List Int} (hs : xs.Pairwise (· ≤ ·)) {i j : Nat} (h : i ≤ j) (hj : j < xs.length) : xs.getD i 0 ≤ xs.getD j 0 := by
  rw [List.getD_eq_getElem?_getD, List.getD_eq_getElem?_getD, List.getElem?_eq_getElem hj, List.getElem?_eq_getElem (show i < xs.length by (first | lia | omega))]
  simp only [Option.getD_some]
  rcases Nat.lt_or_eq_of_le h with h | h
  · exact List.pairwise_iff_getElem.mp hs i j (by (first | lia | omega)) hj h
  · subst h; exact Int.le_refl _
theorem bis_spec {l : Addr} {vs : List Value} {xs : List Int} {x : Int} {tx t0 : Tok} {pos : List Value} (hp : (pos = [.ref l, .int x tx] ∧ t0 = 209) ∨ pos = [.ref l, .int x tx, .int 0 t0, .none]) (C : Cx d w p loose mean mg mb A h₀ s.heap)
    (hl : s.heap.IsList l vs.toArray) (hI : IntsAre vs xs) (hlen : xs.length < 1000) (hs : xs.Pairwise (· ≤ ·))
    (hret : ∀ h' (r : Nat) t tk', IsBis xs x r → (∀ b o, s.heap.get? b = some o → h'.get? b = some o) → Q (.int r t) { s with heap := h', toks := tk' }) :
    wpAny (MM w) A (call (.ref 39) pos) Q E s := by
  walk_at "m_fill"
  refine' enterK (binds := [(Str.ofString "a", .ref l), (Str.ofString "x", .int x tx), (Str.ofString "lo", .int 0 t0), (Str.ofString "hi", .none), (Str.ofString "key", .none)]) C ?ho ?hcd ?hb ?hl ?_ ?c1 ?c2 ?c3 ?c4
  case ho => k_is
  case hb => rcases hp with ⟨rfl, rfl⟩ | rfl <;> exact fun _ => rfl
  walk_at "m_enter"
  intro L h₁ F0 F
  have X' := C.X.keeps C.k
  have T := C.T.keeps C.k
  have N : News s.heap L h₁ [] := News.nil
  clear F0
  walk_at "m_run"
  refine While_inv2 (n₀ := xs.length) (fun n m news => news = [] ∧ ∃ (lo hi : Nat), lo ≤ hi ∧ hi ≤ xs.length ∧ n = hi - lo ∧ (∀ i : Nat, i < lo → xs.getD i 0 < x) ∧ (∀ i : Nat, hi ≤ i → i < xs.length → x ≤ xs.getD i 0) ∧
      m (Str.ofString "a") = some (.ref l) ∧ m (Str.ofString "x") = some (.int x tx) ∧ (∃ t, m (Str.ofString "lo") = some (.int lo t)) ∧ ∃ t, m (Str.ofString "hi") = some (.int hi t)) (by assumption) (by assumption) ?_ ?_
  · have hvl := hI.length
    refine ⟨rfl, 0, xs.length, Nat.zero_le _, Nat.le_refl _, rfl, fun i hi => by (first | lia | omega), fun i h1 h2 => by (first | lia | omega), rfl, rfl, ⟨_, rfl⟩, ?_⟩
    rw [← hvl]
    exact ⟨_, rfl⟩
  · rintro n m₁ news₁ h₂ tk₂ F2 N2 hJ7
    refine hideG ?_; intro XX kXX
    obtain ⟨rfl, lo, hi, hlh, hhl, hn, hlt, hge, ma, mx, ⟨tlo, mlo⟩, thi, mhi⟩ := hJ7
    refine kXX ?_; clear kXX XX
    have hmid : ((lo : Int) + hi).fdiv 2 = ((lo + hi) / 2 : Nat) := by rw [Int.fdiv_eq_ediv_of_nonneg _ (by (first | lia | omega))]; (first | lia | omega)
    walk_at "m_run"
    · (rename xs.getD _ _ < _ => hm); (rename Fr _ _ _ _ => F3); (rename News _ _ _ _ => N3)
      rw [hmid] at hm F3
      rw [Int.toNat_natCast] at hm
      refine ⟨_, _, _, _, hi - ((lo + hi) / 2 + 1), rfl, F3, N3, by (first | lia | omega), rfl, (lo + hi) / 2 + 1, hi, by (first | lia | omega), by (first | lia | omega), rfl, fun i h => ?_, hge, ma, mx, ⟨_, rfl⟩, _, mhi⟩
      exact Int.lt_of_le_of_lt (sorted_le hs (by (first | lia | omega)) (by (first | lia | omega))) hm
    · (rename ¬ (xs.getD _ _ < _) => hm); (rename Fr _ _ _ _ => F3); (rename News _ _ _ _ => N3)
      rw [hmid] at hm F3
      rw [Int.toNat_natCast] at hm
      refine ⟨_, _, _, _, (lo + hi) / 2 - lo, rfl, F3, N3, by (first | lia | omega), rfl, lo, (lo + hi) / 2, by (first | lia | omega), by (first | lia | omega), rfl, hlt, fun i h1 h2 => ?_, ma, mx, ⟨_, mlo⟩, _, rfl⟩
      exact Int.le_trans (Int.not_lt.mp hm) (sorted_le hs h1 h2)
    · (rename ¬ (_ : Int) < (_ : Int) => hc)
      exact hret _ lo _ _ ⟨by (first | lia | omega), hlt, fun i h1 h2 => hge i (by (first | lia | omega)) h2⟩ (Fr.keep F2)
end
section
noncomputable def leadL (rs : List Int) : List Nat := rs.flatMap fun r => List.replicate r.toNat 32 ++ [9]
noncomputable def leadS (rs : List Int) : Str := ⟨(leadL rs).toArray⟩
theorem strs_of {F : Int → Str} : ∀ {rs : List Int} {ys : List Value}, Paired (fun n y => ∃ t, y = .str (F n) t) rs ys → ∃ l : List (Str × Tok), ys = strValues l ∧ l.map (·.1) = rs.map F
  | [], ys, h => by cases h; exact ⟨[], rfl, rfl⟩
  | n :: rs, ys, h => by
    cases h with
    | cons hF hr =>
      obtain ⟨t, rfl⟩ := hF
      obtain ⟨l, rfl, e⟩ := strs_of hr
      exact ⟨(F n, t) :: l, rfl, by simp [e]⟩
theorem join_nil_cps : ∀ l : List Str, (Str.join ⟨#[]⟩ l).cps.toList = l.flatMap fun x => x.cps.toList
  | [] => rfl
  | [x] => by simp [Str.join]
  | x :: y :: r => by
    have := join_nil_cps (y :: r)
    show (x ++ ⟨#[]⟩ ++ Str.join ⟨#[]⟩ (y :: r)).cps.toList = _
    rw [Str.cps_append, Str.cps_append, List.flatMap_cons, ← this]
    simp
theorem join_L {s : Shared} {w : World} {A : Around} {Q E : Value → Shared → Prop} {D : Addr} {x : Str} {t : Tok} {l : List (Str × Tok)} (hl : s.heap.IsList D (strValues l).toArray) (hok : JoinOk x (l.map (·.1)) = true)
    (h : ∀ t' k, Q (.str (Txt.join x (l.map (·.1))) t') { s with toks := k }) : wpAny (MM w) A (call (.builtin "str.join") [.str x t, .ref D]) Q E s := by
  have hok' := hok
  unfold JoinOk at hok'
  rw [Bool.not_eq_true'] at hok'
  exact call_meets F.slot_str_join (typeIs_str _ _ _) F.entry_str_join (F.args_str_join_2 _ _) (meets_str_join_list x t D l hok') ⟨hl, post_join l ⟨joinOk_length hok, h⟩⟩
theorem joinOk_of {x : Str} {l : List Str} {b : Nat} (h : ∀ y ∈ l, y.length ≤ b) (hl : l.length * (b + x.length) ≤ 10000000) : JoinOk x l = true := by
  have key : ∀ (l : List Str) (acc : Nat), (∀ y ∈ l, y.length ≤ b) → l.foldl (fun a y => a + y.length + x.length) acc ≤ acc + l.length * (b + x.length) := by
    intro l
    induction l with
    | nil => intro acc _; simp
    | cons y l ih =>
      intro acc h
      rw [List.foldl_cons, List.length_cons, Nat.succ_mul]
      have := ih (acc + y.length + x.length) fun z hz => h z (.tail _ hz)
      have := h y (.head _)
      (first | lia | omega)
  unfold JoinOk
  rw [Bool.not_eq_true']
  unfold Builtin.Str.tooLong
  rw [decide_eq_false_iff_not, show sizeLine = 16777216 from rfl]
  have := key l 0 h
  rw [← Array.foldl_toList]
  simp only
  (first | lia | omega)
theorem mulOk_small {x : Str} {n : Int} (hx : x.length ≤ 1000) (h0 : 0 ≤ n) (hn : n < 1000) : MulOk x n := by
  refine ⟨by simp only [Bool.or_eq_false_iff, decide_eq_false_iff_not]; (first | lia | omega), fun h1 _ => ?_, fun _ _ => ?_⟩
  · have : (x.length : Int) ≤ (2 ^ 63 - 1) / n := by
      rw [Int.le_ediv_iff_mul_le (by (first | lia | omega))]
      calc (x.length : Int) * n ≤ 1000 * 1000 := Int.mul_le_mul (by (first | lia | omega)) (by (first | lia | omega)) h0 (by (first | lia | omega))
        _ ≤ _ := by decide
    (first | lia | omega)
  · unfold Builtin.Str.tooLong
    rw [decide_eq_false_iff_not, show sizeLine = 16777216 from rfl]
    have : x.length * n.toNat ≤ 1000 * 1000 := Nat.mul_le_mul hx (by (first | lia | omega))
    (first | lia | omega)
theorem lead_elt (n : Int) : (Txt.mul (Str.ofString " ") n ++ Str.ofString "\t" : Str) = leadS [n] := by
  apply Str.ext'
  have h1 : (Str.ofString " ") = ⟨#[32]⟩ := by decide
  have h2 : (Str.ofString "\t") = ⟨#[9]⟩ := by decide
  rw [h1, h2, Str.cps_append]
  apply Array.toList_inj.mp
  rw [Array.toList_append, mul_one_list]
  simp [leadS, leadL]
theorem lead_join (rs : List Int) : Txt.join (Str.ofString "") (rs.map fun n => leadS [n]) = leadS rs := by
  apply Str.ext'
  apply Array.toList_inj.mp
  show (Builtin.Str.glued _ _).cps.toList = _
  rw [StrLaws.glued_eq_join, show Str.ofString "" = ⟨#[]⟩ by decide, join_nil_cps]
  simp [leadS, leadL, List.flatMap_map]
theorem leadL_len : ∀ (rs : List Int) (b : Nat), (∀ r ∈ rs, 0 ≤ r ∧ r < b) → (leadL rs).length ≤ rs.length * b
  | [], b, _ => by simp [leadL]
  | r :: rs, b, h => by
    have := leadL_len rs b fun z hz => h z (.tail _ hz)
    have h2 := h r (.head _)
    simp only [leadL, List.flatMap_cons, List.length_append, List.length_replicate, List.length_cons, List.length_nil, Nat.succ_mul] at this ⊢
    (first | lia | omega)
theorem lead_spec {l : Addr} {rs : List Int} (C : Cx (d + 1) w p loose mean mg mb A h₀ s.heap)
    (hl : SrcInts s.heap l rs) (hlen : rs.length < 1000) (hr : ∀ r ∈ rs, 0 ≤ r ∧ r < 1000)
    (hret : ∀ h' t tk', (∀ b o, s.heap.get? b = some o → h'.get? b = some o) → Q (.str (leadS rs) t) { s with heap := h', toks := tk' }) :
    wpAny (MM w) A (call (.ref 180) [.ref l]) Q E s := by
  walk_at "m_fill"
  refine' enterK (binds := [(Str.ofString "runs", .ref l)]) C ?ho ?hcd ?hb ?hl ?_ ?c1 ?c2 ?c3 ?c4
  walk_at "m_enter"
  intro L h₁ F0 F
  have X' := C.X.keeps C.k
  have T := C.T.keeps C.k
  have N : News s.heap L h₁ [] := News.nil
  clear F0
  walk_at "m_run"
  refine comp_open (cl := []) (fun n y => ∃ t, y = .str (leadS [n]) t) rfl (by decide) rfl (by decide) rfl ?_
  walk_at "m_run"
  refine' comp_src ?hh ?hl ?hn ?_ ?_
  case hh => exact C.hh
  case hl => exact hl.keep F.keep
  case hn => (first | lia | omega)
  · intro C' n t s₃ m₃ E' hn hC hN hm hk
    have hrn := hr n hn
    walk_at "m_run"
    · exact congrArg (fun z => Value.str z _) (lead_elt n)
    · exact ⟨_, _, rfl, fun _ _ e => e⟩
  · intro D h' tk ys c hD hD' hF hk
    walk_at "m_run"
    obtain ⟨l, rfl, hl2⟩ := strs_of (F := fun n => leadS [n]) hF
    refine join_L (l := l) ⟨_, hD', rfl, _, rfl⟩ ?_ fun t' k => ?_
    · rw [hl2]
      refine joinOk_of (b := 1000) (fun y hy => ?_) (by rw [List.length_map, show (Str.ofString "").length = 0 by decide, Nat.add_zero]; (first | lia | omega))
      obtain ⟨r, hr', rfl⟩ := List.mem_map.mp hy
      have := leadL_len [r] 1000 (by simpa using hr r hr')
      simpa [leadS, Str.length] using this
    · rw [hl2, lead_join]
      exact hret _ _ _ fun b o e => hk b o (F.keep b o e)
end
section
section
variable {name qual : Str} {params : Arguments} {body : List Stmt} {scope : Scope} {dV kV doc pm cdv ct oc : Value} {an od : Option Addr} {osl : Array (Option Value)} {f cls : Addr} {pos : List Value} {kw : List (Str × Value)} {binds : List (Str × Value)}
/-- a class whose __init__ is a def of the top is called -/
theorem makeX (C : Cx (d + 2) w p loose mean mg mb A h₀ s.heap) (hm : makesIn (Mine.kf.heap_1 w.params) cls = true) (hi : findIn (Mine.kf.heap_1 w.params) (.ref cls) "__init__" = some (some (.ref f))) (hf : isFn (Mine.kf.heap_1 w.params) (.ref f) = true)
    (ho : (Mine.kf.heap_1 w.params).lookup f = some ⟨oc, od, .func (fnOf name qual params body scope dV kV doc pm an cdv ct), osl⟩) (hcd : codeIn (Mine.kf.heap_1 w.params) cdv qual = true)
    (hbind : ∀ S, peek (Mine.kf.heap_1 w.params) S (bindArgs (fnOf name qual params body scope dV kV doc pm an cdv ct) ⟨.ref (s.heap.objs.size + 1) :: pos, kw⟩) = some binds) (hloc : ∀ y ∈ binds, scope.names.lookup y.1 = some .local)
    (h : ∀ x dx L h₁ B, x = s.heap.objs.size + 1 → @LT.lt Nat _ dx x → Around.handled B = none → Fr s.heap L h₁ (fun y => binds.reverse.lookup y) → News s.heap L h₁ [(x, instObj cls dx), (dx, dictOf [] 0)] →
      wpAny (MM w) B (execs body (envOf qual scope L f cdv))
        (fun fl s' => (match fl with | .ret v => v | _ => .none) = .none ∧ Q (.ref x) s') (fun _ _ => False) { s with heap := h₁, toks := s.toks + binds.length })
    (hcell : ∀ x ∈ scope.names, x.2 ≠ .cell) (hco : scope.isCoroutine = false) (hgen : scope.isGenerator = false) (hk : scope.kind = .function) :
    wpAny (MM w) A (call (.ref cls) pos kw) Q E s := by
  obtain ⟨hh, g, dr, t, os⟩ := s
  have X := C.X.keeps C.k
  have k : ∀ b o, hh.get? b = some o → ((hh.push emptyDict).push (instObj cls hh.objs.size)).get? b = some o := fun b o e => Heap.get?_push_of_some _ (Heap.get?_push_of_some _ e)
  refine wpAny_call (make_core (makes_of X hm) (looks_findIn X hi) (fun self => bind_fn X self (beq_iff_eq.mp hf)) (.inl rfl) ?_)
  have hwt : (Code.builtin "type.__call__" ⟨.ref cls :: pos, kw⟩).weight = 1 := rfl
  refine codeAny_call_def (fd := fnOf name qual params body scope dV kV doc pm an cdv ct) (body := body) (binds := binds) ?_ (k _ _ (X _ _ ho)) rfl (((C.T.nolimit.keeps C.k)).keeps k) (codeRec_of (X.keeps k) hcd) rfl (kp_binds (X.keeps k) hbind) hcell hloc (fun h₁ hns hk₁ => ?_) hco hgen hk
  · show A.depth + _ < _
    rw [hwt]
    have := C.hd
    (first | lia | omega)
  · have F0 : Fr ((hh.push emptyDict).push (instObj cls hh.objs.size)) ((hh.push emptyDict).push (instObj cls hh.objs.size)).objs.size h₁ (fun y => binds.reverse.lookup y) := ⟨hns, hk₁, Nat.le_refl _⟩
    have hsz : ((hh.push emptyDict).push (instObj cls hh.objs.size)).objs.size = hh.objs.size + 1 + 1 := by rw [Heap.size_push, Heap.size_push]
    have F : Fr hh ((hh.push emptyDict).push (instObj cls hh.objs.size)).objs.size h₁ (fun y => binds.reverse.lookup y) := ⟨F0.ns, fun b o e => hk₁ _ _ (k _ _ e), by rw [hsz]; (first | lia | omega)⟩
    have hx : ((hh.push emptyDict).push (instObj cls hh.objs.size)).get? (hh.objs.size + 1) = some (instObj cls hh.objs.size) := by heap_get
    have hdx : ((hh.push emptyDict).push (instObj cls hh.objs.size)).get? hh.objs.size = some emptyDict := by heap_get
    have hno : ∀ a : Nat, hh.objs.size ≤ a → hh.get? a = none := fun a ha => by
      cases e : hh.get? a with
      | none => rfl
      | some o => exact absurd (Heap.lt_size e) (Nat.not_lt.mpr ha)
    have N : News hh ((hh.push emptyDict).push (instObj cls hh.objs.size)).objs.size h₁ [(hh.objs.size + 1, instObj cls hh.objs.size), (hh.objs.size, dictOf [] 0)] := by
      intro p hp
      rcases List.mem_cons.mp hp with rfl | hp
      · exact ⟨hk₁ _ _ hx, by rw [hsz]; exact Nat.ne_of_lt (Nat.lt_succ_self _), hno _ (Nat.le_succ _)⟩
      · rw [List.mem_singleton.mp hp]
        exact ⟨hk₁ _ _ hdx, by rw [hsz]; exact Nat.ne_of_lt (Nat.lt_succ_of_lt (Nat.lt_succ_self _)), hno _ (Nat.le_refl _)⟩
    refine wpAny_mono (h (hh.objs.size + 1) hh.objs.size _ h₁ _ rfl (Nat.lt_succ_self _) (show A.handled = none from C.hh) F N) (fun fl s' q => ?_) fun _ _ q => q.elim
    cases fl <;> exact q
end
noncomputable def cntOne (cs : List Int) (b : Nat) : List Int := (cs ++ List.replicate (b + 1 - cs.length) 0).set b ((cs ++ List.replicate (b + 1 - cs.length) 0).getD b 0 + 1)
noncomputable def cntOf (rs : List Int) : List Int := rs.foldl (fun cs r => cntOne cs r.toNat) []
noncomputable def chStep (st : List Int × Nat × Nat) (c : Nat) : List Int × Nat × Nat := if c = 32 then (st.1, st.2.1 + 1, st.2.2) else (cntOne st.1 st.2.1, 0, st.2.2 + 1)
noncomputable def chScan (l : List Nat) : List Int × Nat × Nat := l.foldl chStep ([], 0, 0)
theorem chScan_succ {l : List Nat} {i c : Nat} (h : l[i]? = some c) : chScan (l.take (i + 1)) = chStep (chScan (l.take i)) c := by
  unfold chScan
  rw [List.take_add_one, h, Option.toList_some, List.foldl_append]; rfl
theorem chFold_blank (cs : List Int) (nt : Nat) : ∀ (k b : Nat), (List.replicate k 32).foldl chStep (cs, b, nt) = (cs, b + k, nt)
  | 0, b => rfl
  | k + 1, b => by
    rw [List.replicate_succ, List.foldl_cons, show chStep (cs, b, nt) 32 = (cs, b + 1, nt) from rfl, chFold_blank cs nt k (b + 1)]
    congr 2; (first | lia | omega)
theorem chFold_lead : ∀ (rs : List Int) (cs : List Int) (nt : Nat), (leadL rs).foldl chStep (cs, 0, nt) = (rs.foldl (fun cs r => cntOne cs r.toNat) cs, 0, nt + rs.length)
  | [], _, _ => rfl
  | r :: rs, cs, nt => by
    rw [show leadL (r :: rs) = (List.replicate r.toNat 32 ++ [9]) ++ leadL rs from rfl, List.foldl_append, List.foldl_append, chFold_blank, Nat.zero_add]
    rw [show [9].foldl chStep (cs, r.toNat, nt) = (cntOne cs r.toNat, 0, nt + 1) from rfl, chFold_lead rs, List.foldl_cons, List.length_cons]
    congr 2; (first | lia | omega)
theorem chScan_lead (rs : List Int) : chScan (leadL rs) = (cntOf rs, 0, rs.length) := by
  unfold chScan
  rw [chFold_lead, Nat.zero_add]; rfl
theorem leadL_mem {rs : List Int} {c : Nat} (h : c ∈ leadL rs) : c = 32 ∨ c = 9 := by
  unfold leadL at h
  obtain ⟨r, _, h⟩ := List.mem_flatMap.mp h
  rcases List.mem_append.mp h with h | h
  · exact .inl (List.eq_of_mem_replicate h)
  · exact .inr (by simpa using h)
theorem opaque4 {P : Prop} {g h : Heap} {L dx : Addr} {a b c : Addr × Obj} {o : Obj} (N : News g L h [a, b, c, (dx, o)]) (k : ∀ od, od = o → News g L h [a, b, c, (dx, od)] → P) : P := k o rfl N
theorem cntOne_len (cs : List Int) (b : Nat) : (cntOne cs b).length ≤ max cs.length (b + 1) := by
  unfold cntOne; simp; (first | lia | omega)
theorem chScan_bound : ∀ (l : List Nat) (st : List Int × Nat × Nat) (k : Nat), st.1.length ≤ k → st.2.1 ≤ k → (l.foldl chStep st).1.length ≤ k + l.length ∧ (l.foldl chStep st).2.1 ≤ k + l.length
  | [], st, k, h1, h2 => ⟨by simpa using h1, by simpa using h2⟩
  | c :: l, st, k, h1, h2 => by
    rw [List.foldl_cons]
    have key : (chStep st c).1.length ≤ k + 1 ∧ (chStep st c).2.1 ≤ k + 1 := by
      unfold chStep
      split
      · exact ⟨by simp; (first | lia | omega), by simp; (first | lia | omega)⟩
      · have := cntOne_len st.1 st.2.1
        exact ⟨by simp; (first | lia | omega), by simp⟩
    obtain ⟨i1, i2⟩ := chScan_bound l (chStep st c) (k + 1) key.1 key.2
    rw [List.length_cons]
    exact ⟨by (first | lia | omega), by (first | lia | omega)⟩
theorem IsWs.of {h : Heap} {x : Addr} {cs : List Int} {tr nt : Int} {dx Tn Tc : Addr} {es : List DictEntry} {n : Nat} {sl : Array (Option Value)} {vs : List Value} {c cn : Nat} {t t' : Tok} (a1 : h.get? x = some ⟨.ref 150, some dx, .plain, sl⟩) (a2 : h.get? dx = some (dictOf es n))
    (a3 : getL (Str.ofString "norm") es = some (some (.ref Tn))) (a4 : h.get? Tn = some (tupV [.ref Tc, .int tr t] cn)) (a5 : h.get? Tc = some (tupV vs c)) (a6 : IntsAre vs cs) (a7 : getL (Str.ofString "nt") es = some (some (.int nt t')))
    (a8 : getL (Str.ofString "longest_run_of_spaces") es = some none) (a9 : getL (Str.ofString "indent_level") es = some none) (a10 : getL (Str.ofString "not_less_witness") es = some none) : IsWs h x cs tr nt :=
  ⟨⟨dx, Tn, Tc, es, n, sl, vs, c, cn, t, t', a1, a2, a3, a4, a5, a6, a7, a8, a9, a10⟩⟩
theorem ints_rep (t : Tok) : ∀ k : Nat, IntsAre (List.replicate k [Value.int 0 t]).flatten (List.replicate k 0)
  | 0 => .nil
  | k + 1 => by rw [List.replicate_succ, List.replicate_succ, List.flatten_cons]; exact .cons _ _ (ints_rep t k)
theorem ints_set {x : Int} {t : Tok} : ∀ {vs : List Value} {ns : List Int} (k : Nat), IntsAre vs ns → IntsAre (vs.set k (.int x t)) (ns.set k x)
  | _, _, _, .nil => .nil
  | _, _, 0, .cons _ _ h => .cons _ _ h
  | _, _, k + 1, .cons _ _ h => .cons _ _ (ints_set k h)
theorem ws_spec {rs : List Int} {t : Tok} (C : Cx (d + 2) w p loose mean mg mb A h₀ s.heap) (hlen : (leadL rs).length < 250)
    (hret : ∀ (h' : Heap) (x : Addr) (tk' : Nat) (Tl : List (Addr × Obj)), (∀ b o, s.heap.get? b = some o → h'.get? b = some o) → (∀ q ∈ Tl, h'.get? q.1 = some q.2 ∧ s.heap.get? q.1 = none ∧ q.2.cls ≠ .none ∧ ∀ v, q.2.data ≠ .cell v) → (∀ h'' : Heap, (∀ q ∈ Tl, h''.get? q.1 = some q.2) → IsWs h'' x (cntOf rs) 0 rs.length) → Q (.ref x) { s with heap := h', toks := tk' }) :
    wpAny (MM w) A (call (.ref 150) [.str (leadS rs) t]) Q E s := by
  walk_at "m_fill"
  refine' makeX (f := 105) (binds := [(Str.ofString "self", .ref (s.heap.objs.size + 1)), (Str.ofString "ws", .str (leadS rs) t)]) C ?hm ?hi ?hf ?ho ?hcd ?hb ?hl ?_ ?c1 ?c2 ?c3 ?c4
  case hm => k_is
  case hi => k_is
  case hf => k_is
  walk_at "m_enter"
  intro x dx L h₁ B hxe hdx hA F N
  rw [← hxe] at F
  have X' := C.X.keeps C.k
  have T := C.T.keeps C.k
  walk_at "m_run"
  refine wpAny_For ?_
  walk_at "m_run"
  (rename Fr _ _ _ _ => F1); (rename News _ _ _ _ => N1)
  refine opaque4 N1 ?_
  intro od hod N2
  rename_i l0 _ hl0 _ _ _ _ _
  have hxl : @LT.lt Nat _ x l0 := hl0.2.1
  have N3 : News s.heap L _ [(l0, listV [] 0), (x, instObj 150 dx), (dx, od)] := fun p hp => N2 p (by
    rcases List.mem_cons.mp hp with h | hp
    · exact h ▸ .head _
    · exact .tail _ (.tail _ hp))
  clear N1 N2
  have hchars : ∀ (i c : Nat), (leadS rs).cps[i]? = some c → (leadL rs)[i]? = some c ∧ (c = 32 ∨ c = 9) := by
    intro i c h
    have h' : (leadL rs)[i]? = some c := by unfold leadS at h; simpa using h
    exact ⟨h', leadL_mem (List.mem_of_getElem? h')⟩
  refine for_str (h₀ := s.heap) (L := L) (fun i m news => ∃ Dc vsC nC, news = [(Dc, listV vsC nC), (x, instObj 150 dx), (dx, od)] ∧ IntsAre vsC (chScan ((leadL rs).take i)).1 ∧ @LT.lt Nat _ x Dc ∧
      m (Str.ofString "self") = some (.ref x) ∧ (∃ t, m (Str.ofString "S") = some (.str (Str.ofString " ") t)) ∧ (∃ t, m (Str.ofString "T") = some (.str (Str.ofString "\t") t)) ∧ m (Str.ofString "count") = some (.ref Dc) ∧
      (∃ t, m (Str.ofString "b") = some (.int (chScan ((leadL rs).take i)).2.1 t)) ∧ (∃ z t, m (Str.ofString "n") = some (.int z t)) ∧ ∃ t, m (Str.ofString "nt") = some (.int (chScan ((leadL rs).take i)).2.2 t))
    hA ?ha rfl rfl rfl F1 N3 ⟨_, _, _, rfl, .nil, hxl, rfl, ⟨_, rfl⟩, ⟨_, rfl⟩, rfl, ⟨_, rfl⟩, ⟨_, _, rfl⟩, ⟨_, rfl⟩⟩ ?_ ?_
  case ha =>
    rw [Array.all_eq_true]
    intro i hi
    have := (hchars i _ (Array.getElem?_eq_getElem hi)).2
    rw [decide_eq_true_eq]; (first | lia | omega)
  · rintro I i v m₁ news₁ h tk oI hi hJ9 hI1 hJ11 hoff F4 N4
    refine hideG ?_; intro XX kXX
    obtain ⟨c, u, hc, rfl⟩ := hJ9
    obtain ⟨Dc, vsC, nC, rfl, hIC, hxD, ms, ⟨tS, mS⟩, ⟨tT, mT⟩, mc, ⟨tb, mb'⟩, ⟨z, tz, mn⟩, ⟨tn, mnt⟩⟩ := hJ11
    refine kXX ?_; clear kXX XX
    obtain ⟨hc1, hc2⟩ := hchars i c hc
    have hsucc := chScan_succ hc1
    have hbd : (chScan ((leadL rs).take i)).1.length ≤ 0 + ((leadL rs).take i).length ∧ (chScan ((leadL rs).take i)).2.1 ≤ 0 + ((leadL rs).take i).length := chScan_bound ((leadL rs).take i) ([], 0, 0) 0 (Nat.le_refl _) (Nat.le_refl _)
    have hi2 : i < (leadL rs).length := (List.getElem?_eq_some_iff.mp hc1).1
    rw [List.length_take] at hbd
    clear hc hchars
    generalize chScan ((leadL rs).take i) = st at *
    have hvC := hIC.length
    have hoff' : ∀ o, ∀ p ∈ [(Dc, o), (x, instObj 150 dx), (dx, od)], p.1 ≠ I := by
      intro o p hp
      rcases List.mem_cons.mp hp with h | hp
      · rw [h]; exact hoff (Dc, listV vsC nC) (.head _)
      · exact hoff p (.tail _ hp)
    rcases hc2 with rfl | rfl
    · rw [show chStep st 32 = (st.1, st.2.1 + 1, st.2.2) from rfl] at hsucc
      walk_at "m_run"
      (rename Fr _ _ _ _ => F5); (rename News _ _ _ _ => N5)
      exact Turned.mk F5 N5 hoff ⟨Dc, vsC, nC, rfl, by rw [hsucc]; exact hIC, hxD, ms, ⟨_, mS⟩, ⟨_, mT⟩, mc, ⟨_, by rw [hsucc]; rfl⟩, ⟨_, _, rfl⟩, ⟨_, by rw [hsucc]; exact mnt⟩⟩
    · rw [show chStep st 9 = (cntOne st.1 st.2.1, 0, st.2.2 + 1) from rfl] at hsucc
      have hdD : @LT.lt Nat _ dx Dc := Nat.lt_trans hdx hxD
      have hDI : Dc ≠ I := hoff _ (.head _)
      walk_at "m_run"
      · (rename (st.1.length : Int) ≤ _ => hle)
        (rename Fr _ _ _ _ => F5); (rename News _ _ _ _ => N5)
        refine KMa.mul F5 N5 (N5.isList (.head _)) (by (first | lia | omega)) (by (first | lia | omega)) ?_ rfl ?_
        · simp; (first | lia | omega)
        intro D6 h6 F6 N6 hD6
        refine kmk_add_ints F6 N6 (N6.isList (.tail _ (.tail _ (.tail _ (.head _))))) (N6.isList (.head _)) hIC (ints_rep _ _) ?_ ?_
        rotate_left
        · rw [List.length_replicate, show sizeLine = 16777216 from rfl]; (first | lia | omega)
        intro D7 us h7 F7 N7 hD7 hI7
        have hke : (((st.2.1 : Int) - st.1.length + 1)).toNat = st.2.1 + 1 - st.1.length := by (first | lia | omega)
        rw [hke] at hI7
        have hxD7 : @LT.lt Nat _ x D7 := hD7 _ (.tail _ (.tail _ (.tail _ (.tail _ (.head _)))))
        have hID7 : @LT.lt Nat _ I D7 := hD7 _ (.tail _ (.tail _ (.head _)))
        have hdD7 : @LT.lt Nat _ dx D7 := Nat.lt_trans hdx hxD7
        have N8 : News s.heap L h7 [(D7, listV us 0), (I, oI), (x, instObj 150 dx), (dx, od)] := fun p hp => N7 p (by
          rcases List.mem_cons.mp hp with h | hp
          · exact h ▸ .head _
          rcases List.mem_cons.mp hp with h | hp
          · exact h ▸ .tail _ (.tail _ (.tail _ (.head _)))
          · exact .tail _ (.tail _ (.tail _ (.tail _ (.tail _ hp)))))
        clear N7 N6 N5
        have hus := hI7.length
        rw [List.length_append, List.length_replicate] at hus
        have hnl : (st.1 ++ List.replicate (st.2.1 + 1 - st.1.length) 0 : List Int).length = st.2.1 + 1 := by rw [List.length_append, List.length_replicate]; (first | lia | omega)
        have hc1 : cntOne st.1 st.2.1 = (st.1 ++ List.replicate (st.2.1 + 1 - st.1.length) 0).set st.2.1 ((st.1 ++ List.replicate (st.2.1 + 1 - st.1.length) 0).getD st.2.1 0 + 1) := rfl
        rw [hc1] at hsucc
        clear hc1
        generalize st.1 ++ List.replicate (st.2.1 + 1 - st.1.length) 0 = cs' at *
        walk_at "m_run"
        (rename Fr _ _ _ _ => F9); (rename News _ _ _ _ => N9)
        refine ki_set F9 N9 (by (first | lia | omega)) (by (first | lia | omega)) (setL_set _ _ _ ?z) (.head ?u) ?_
        case z => simp; (first | lia | omega)
        case u =>
          intro p hp
          rcases List.mem_cons.mp hp with h | hp
          · rw [h]; exact Nat.ne_of_lt hID7
          rcases List.mem_cons.mp hp with h | hp
          · rw [h]; exact Nat.ne_of_lt hxD7
          · rw [List.mem_singleton.mp hp]; exact Nat.ne_of_lt hdD7
        intro h10 F10 N10
        walk_at "m_run"
        (rename Fr _ _ _ _ => F11); (rename News _ _ _ _ => N11)
        have N12 : News s.heap L _ [(I, oI), (D7, listV _ 0), (x, instObj 150 dx), (dx, od)] := fun p hp => N11 p (by
          rcases List.mem_cons.mp hp with h | hp
          · exact h ▸ .tail _ (.head _)
          rcases List.mem_cons.mp hp with h | hp
          · exact h ▸ .head _
          · exact .tail _ (.tail _ hp))
        refine Turned.mk F11 N12 ?_ ⟨D7, _, 0, rfl, ?_, hxD7, ms, ⟨_, mS⟩, ⟨_, mT⟩, rfl, ⟨_, by rw [hsucc]; rfl⟩, ⟨_, _, rfl⟩, ⟨_, by rw [hsucc]; rfl⟩⟩
        · intro p hp
          rcases List.mem_cons.mp hp with h | hp
          · rw [h]; exact Nat.ne_of_gt hID7
          · exact hoff p (.tail _ hp)
        · rw [hsucc]
          simp only [Int.toNat_natCast]
          exact ints_set _ hI7
      · (rename ¬ (st.1.length : Int) ≤ _ => hlt)
        (rename Fr _ _ _ _ => F5); (rename News _ _ _ _ => N5)
        refine ki_set F5 N5 (by (first | lia | omega)) (by (first | lia | omega)) (setL_set _ _ _ ?z) (.tail (Ne.symm hDI) (.head ?u)) ?_
        case z => simp; (first | lia | omega)
        case u =>
          intro p hp
          rcases List.mem_cons.mp hp with h | hp
          · rw [h]; exact Nat.ne_of_lt hxD
          · rw [List.mem_singleton.mp hp]; exact Nat.ne_of_lt hdD
        intro h6 F6 N6
        walk_at "m_run"
        (rename Fr _ _ _ _ => F7); (rename News _ _ _ _ => N7)
        refine Turned.mk F7 N7 (hoff' _) ⟨Dc, _, nC, rfl, ?_, hxD, ms, ⟨_, mS⟩, ⟨_, mT⟩, mc, ⟨_, by rw [hsucc]; rfl⟩, ⟨_, _, rfl⟩, ⟨_, by rw [hsucc]; rfl⟩⟩
        rw [hsucc]
        simp only [Int.toNat_natCast]
        unfold cntOne
        rw [show st.2.1 + 1 - st.1.length = 0 by (first | lia | omega), List.replicate_zero, List.append_nil]
        exact ints_set _ hIC
  · rintro m₁ news₁ h tk hJ4 F4 N4
    refine hideG ?_; intro XX kXX
    obtain ⟨Dc, vsC, nC, rfl, hIC, hxD, ms, ⟨tS, mS⟩, ⟨tT, mT⟩, mc, ⟨tb, mb'⟩, ⟨z, tz, mn⟩, ⟨tn, mnt⟩⟩ := hJ4
    refine kXX ?_; clear kXX XX
    subst hod
    have hsz : (leadS rs).cps.size = (leadL rs).length := by unfold leadS; simp
    have hdD : @LT.lt Nat _ dx Dc := Nat.lt_trans hdx hxD
    rw [hsz, List.take_length, chScan_lead] at hIC mb' mnt
    dsimp only at hIC mb' mnt
    have mb2 : m₁ (Str.ofString "b") = some (.int 0 tb) := mb'
    clear mb'
    have hvC := hIC.length
    have hcl : (cntOf rs).length ≤ 250 := by
      have := chScan_bound (leadL rs) ([], 0, 0) 0 (Nat.le_refl _) (Nat.le_refl _)
      rw [show (leadL rs).foldl chStep ([], 0, 0) = chScan (leadL rs) from rfl, chScan_lead] at this
      have := this.1
      dsimp only at this
      (first | lia | omega)
    walk_at "m_run"
    (rename Fr _ _ _ _ => F5); (rename News _ _ _ _ => N5)
    refine kde_tupleOf F5 N5 (N5.isList (.head _)) (by simp; (first | lia | omega)) rfl ?_
    intro D6 h6 F6 N6 hD6
    have hDcD6 : @LT.lt Nat _ Dc D6 := hD6 _ (.head _)
    have hxD6 : @LT.lt Nat _ x D6 := hD6 _ (.tail _ (.head _))
    have hdxD6 : @LT.lt Nat _ dx D6 := hD6 _ (.tail _ (.tail _ (.head _)))
    walk_at "m_run"
    (rename Fr _ _ _ _ => F9); (rename News _ _ _ _ => N9)
    refine hret _ x _ _ F9.keep (fun q hq => ⟨(N9 q hq).1, (N9 q hq).2.2, ?_⟩) (fun h'' hT => ?_)
    · simp only [List.mem_cons, List.not_mem_nil, or_false] at hq
      rcases hq with rfl | rfl | rfl | rfl | rfl
      · exact ⟨(by intro e; cases e), (by intro v e; cases e)⟩
      · exact ⟨(by intro e; cases e), (by intro v e; cases e)⟩
      · exact ⟨(by intro e; cases e), (by intro v e; cases e)⟩
      · exact ⟨(by intro e; cases e), (by intro v e; cases e)⟩
      · exact ⟨(by intro e; cases e), (by intro v e; cases e)⟩
    · refine' IsWs.of (tr := 0) (hT _ (.tail _ (.tail _ (.tail _ (.head _))))) (hT _ (.tail _ (.tail _ (.tail _ (.tail _ (.head _)))))) ?g1 (hT _ (.head _)) (hT _ (.tail _ (.head _))) hIC ?g2 ?g3 ?g4 ?g5
      case g1 => k_get
      case g2 => k_get
      case g3 => k_get
      case g4 => k_get
      case g5 => k_get
end
section
theorem passing_all (n : Nat) : passing (fun _ => true) n 0 = List.range n := by
  unfold passing; rw [List.drop_zero]; exact List.filter_eq_self.mpr fun _ _ => rfl
/-- a generator expression, made in a frame whose def's table of codes lies in the ledger, over a list of the base -/
theorem gen_any {env : Env} {elt iter : Expr} {x : Str} {px pos : Pos} {scope : Scope} {vs : List Value} {l c P L : Addr} {ps : Array Value} {g : Heap} {m : Str → Option Value} {news : List (Addr × Obj)} {Fx : Nat → Value → Prop}
    (F : Fr g L s.heap m) (N : News g L s.heap ((P, tabObj ps) :: news)) (hoff : ∀ p ∈ news, p.1 ≠ P) (T : Top p loose mean mg mb g) (C : CodeHd g c P) (hcode : env.code = .ref c) (hglob : env.globals = mainGlobals) (ht : TriplesOk ps.toList)
    (hc : codeAmong pos ps.toList = none ∨ ∃ c', codeAmong pos ps.toList = some (.ref c') ∧ s.heap.CodeRec (.ref c') (env.qual ++ "<genexpr>"))
    (hh : A.handled = none) (hco : scope.isCoroutine = false) (hclos : closureFor scope env = pure []) (hcell : ∀ y ∈ scope.names, y.2 ≠ .cell) (h0 : scope.names.lookup (".0" : Str) = some NameKind.local)
    (hx : scope.names.lookup x = some .local) (hkind : scope.kind = .function) (hroom : A.depth < recursionLimit) (hs : ∀ x, genFold iter env x = pure x)
    (hl : g.IsList l vs.toArray) (heval : ∀ Q' : Value → Shared → Prop, Q' (.ref l) s → wpAny (MM w) A (eval iter env) Q' E s)
    (helt : ∀ C' code A' E' i v s₂ m₂, Around.handled A' = none → vs[i]? = some v → Fr g C' s₂.heap m₂ → m₂ x = some v → wpAny (MM w) A' (eval elt (genEnv scope [] C' code builtinsNs env)) (fun y s₃ => Fx i y ∧ Keeps s₂ s₃) E' s₂)
    (h : ∀ a C' I oa oC oI c' ps' h' tk gs G St fp, gs.bare = true → Fr g L h' m → News g L h' ((P, tabObj ps') :: (a, oa) :: (C', oC) :: (I, oI) :: news) → TriplesOk ps'.toList → codeAmong pos ps'.toList = some (.ref c') → h'.CodeRec (.ref c') (env.qual ++ "<genexpr>") → (∀ p ∈ (a, oa) :: (C', oC) :: (I, oI) :: news, p.1 ≠ P) →
      WalksS PySem.Challenge.rw_sw0081_01.row.prog w A.in4 a fp [C', I] (GenOnlyQ G) vs.length Fx St → (∀ i s', St i s' → s'.TypeIs (.ref a) "generator") → a ∈ fp → s.heap.objs.size ≤ C' → s.heap.objs.size ≤ I → c' ≠ C' → c' ≠ I →
      (∀ h2 tk2, (∀ b o, g.get? b = some o → h2.get? b = some o) → h2.get? a = some oa → h2.get? C' = some oC → h2.get? I = some oI → St 0 { s with heap := h2, gens := s.gens.push gs, toks := tk2 } ∧ ∀ b ∈ fp, b < h2.objs.size) →
      Q (.ref a) { s with heap := h', gens := s.gens.push gs, toks := tk }) :
    wpAny (MM w) A (eval (.GeneratorExp elt [⟨.Name x px, iter, [], 0⟩] scope pos) env) Q E s := by
  have hPg := (N _ (.head _)).2.2
  have hPL := (N _ (.head _)).2.1
  have hPs : P < s.heap.objs.size := Heap.lt_size (N _ (.head _)).1
  have hLs : L < s.heap.objs.size := F.ns.lt
  refine wpAny_GeneratorExp_make hco hclos hcell h0 hkind hroom (heval _ ?_) hs
  have hl1 : s.heap.IsList l vs.toArray := by obtain ⟨o, e, r⟩ := hl; exact ⟨o, F.keep _ _ e, r⟩
  have hlg : ∃ o, g.get? l = some o := by obtain ⟨o, e, _⟩ := hl; exact ⟨o, e⟩
  refine wpAny_pyIter_list hl1 ?_
  have F2 : Fr g L (s.heap.push { cls := .type "list_iterator", data := .fields #[.ref l, .int 0 0] }) m := F.push _
  have N2 : News g L (s.heap.push { cls := .type "list_iterator", data := .fields #[.ref l, .int 0 0] }) ((P, tabObj ps) :: news) := fun q hq => ⟨Heap.get?_push_of_some _ (N q hq).1, (N q hq).2⟩
  have hI : (s.heap.push { cls := .type "list_iterator", data := .fields #[.ref l, .int 0 0] }).IsListIter s.heap.objs.size l 0 := ⟨_, Heap.get?_push_size _ rfl, rfl, rfl⟩
  have hl2 : (s.heap.push { cls := .type "list_iterator", data := .fields #[.ref l, .int 0 0] }).IsList l vs.toArray := hl1.push _
  have hIs : s.heap.objs.size < (s.heap.push { cls := .type "list_iterator", data := .fields #[.ref l, .int 0 0] }).objs.size := by rw [Heap.size_push]; exact Nat.lt_succ_self _
  have hkeep2 : ∀ b o, s.heap.get? b = some o → (s.heap.push { cls := .type "list_iterator", data := .fields #[.ref l, .int 0 0] }).get? b = some o := fun b o e => Heap.get?_push_of_some _ e
  generalize s.heap.push { cls := .type "list_iterator", data := .fields #[.ref l, .int 0 0] } = h2 at *
  refine ⟨T.nolimit.keeps F2.keep, ?_⟩
  have hlP : l ≠ P := fun e => by obtain ⟨o, e2⟩ := hlg; rw [e, hPg] at e2; cases e2
  have hIP : s.heap.objs.size ≠ P := Nat.ne_of_gt hPs
  obtain ⟨bm, ob, b1, b2, b3, b4, b5, b6⟩ := T.bmain
  have fresh : ∀ b : Nat, s.heap.objs.size ≤ b → g.get? b = none := fun b hb => by
    cases e : g.get? b with
    | none => rfl
    | some o => exact absurd (Heap.lt_size (F.keep _ _ e)) (Nat.not_lt.mpr hb)
  have fin : ∀ c' ps' h3 tk3, (∀ b o, b ≠ P → h2.get? b = some o → h3.get? b = some o) → h3.get? P = some (tabObj ps') → h2.objs.size ≤ h3.objs.size → TriplesOk ps'.toList → codeAmong pos ps'.toList = some (.ref c') → h3.CodeRec (.ref c') (env.qual ++ "<genexpr>") → c' ≠ h3.objs.size → c' ≠ s.heap.objs.size →
      wpAny (MM w) A (builtinsFor env.globals env.builtins) (fun bi s₄ =>
        ∀ h', h'.Ns s₄.heap.objs.size (fun y => if y = ".0" then some (.ref s.heap.objs.size) else none) → Heap.SameBut s₄.heap.objs.size (s₄.heap.push { cls := .type "frame", data := .dict #[] }) h' →
          Q (.ref h'.objs.size) { s₄ with
            gens := s₄.gens.push (.fresh (.compStart (.GeneratorExp elt [⟨.Name x px, iter, [], 0⟩] scope pos) 0 (.ref s.heap.objs.size) .none (genEnv scope [] s₄.heap.objs.size (.ref c') bi env))),
            toks := s₄.toks + 1 + 1 + 1,
            heap := h'.push { cls := .type "generator", data := .fields #[.int s₄.gens.size 0, .str "<genexpr>" (s₄.toks + 1), .str (env.qual ++ "<genexpr>") (s₄.toks + 1 + 1)] } }) E { s with heap := h3, toks := tk3 } := by
    intro c' ps' h3 tk3 hk3 hP3 hsz3 ht3 hf3 hr3 hc1 hc2
    have F3 : Fr g L h3 m := Fr.ext2 F2 hPg hPL hk3
    have hgl : (h3 : Heap).Ns env.globals mg := by rw [hglob]; exact T.g.keeps F3.keep
    refine wpAny_builtinsFor hgl b1 b2 (F3.keep _ _ b3) b4 b5 b6 ?_
    have hlI : l ≠ s.heap.objs.size := fun e => by
      obtain ⟨o, e2⟩ := hlg
      exact absurd (Heap.lt_size (F.keep _ _ e2)) (by rw [e]; exact Nat.lt_irrefl _)
    have hlist3 : h3.IsList l vs.toArray := by obtain ⟨o, e, r⟩ := hl2; exact ⟨o, hk3 _ _ hlP e, r⟩
    have hI3 : h3.IsListIter s.heap.objs.size l 0 := by obtain ⟨o, e, r⟩ := hI; exact ⟨o, hk3 _ _ hIP e, r⟩
    have hIC : s.heap.objs.size < h3.objs.size := Nat.lt_of_lt_of_le hIs hsz3
    intro h4 hn4 hs4
    have hsz4 : h4.objs.size = h3.objs.size + 1 := by rw [hs4.1]; exact Heap.size_push ..
    have keep4 : ∀ b o, h3.get? b = some o → h4.get? b = some o := fun b o e => hs4.extBut b o (Nat.ne_of_lt (Heap.lt_size e)) (Heap.get?_push_of_some _ e)
    have keep5 : ∀ b o, h3.get? b = some o → (h4.push { cls := .type "generator", data := .fields #[.int s.gens.size 0, .str "<genexpr>" (tk3 + 1), .str (env.qual ++ "<genexpr>") (tk3 + 1 + 1)] }).get? b = some o := fun b o e => Heap.get?_push_of_some _ (keep4 b o e)
    have hga : (h4.push { cls := .type "generator", data := .fields #[.int s.gens.size 0, .str "<genexpr>" (tk3 + 1), .str (env.qual ++ "<genexpr>") (tk3 + 1 + 1)] }).get? h4.objs.size = some { cls := .type "generator", data := .fields #[.int s.gens.size 0, .str "<genexpr>" (tk3 + 1), .str (env.qual ++ "<genexpr>") (tk3 + 1 + 1)] } := Heap.get?_push_size _ rfl
    have hn5 := hn4.push (o := { cls := .type "generator", data := .fields #[.int s.gens.size 0, .str "<genexpr>" (tk3 + 1), .str (env.qual ++ "<genexpr>") (tk3 + 1 + 1)] })
    generalize (h4.push { cls := .type "generator", data := .fields #[.int s.gens.size 0, .str "<genexpr>" (tk3 + 1), .str (env.qual ++ "<genexpr>") (tk3 + 1 + 1)] }) = h5 at *
    have F5 : Fr g L h5 m := Fr.ext F3 keep5
    have hmem : ∀ b o, g.get? b = some o → b ∈ s.heap.objs.size :: (List.range g.objs.size).filter (fun b => (g.get? b).isSome) := fun b o e => .tail _ (List.mem_filter.mpr ⟨List.mem_range.mpr (Heap.lt_size e), by rw [e]; rfl⟩)
    have hmem2 : ∀ b, b ∈ s.heap.objs.size :: (List.range g.objs.size).filter (fun b => (g.get? b).isSome) → b = s.heap.objs.size ∨ ∃ o, g.get? b = some o := fun b hb => by
      rcases List.mem_cons.mp hb with h | h
      · exact .inl h
      · exact .inr (Option.isSome_iff_exists.mp (List.mem_filter.mp h).2)
    have hnof : ∀ b : Nat, s.heap.objs.size < b → b ∉ s.heap.objs.size :: (List.range g.objs.size).filter (fun b => (g.get? b).isSome) := fun b hb hm => by
      rcases hmem2 b hm with e | ⟨o, e⟩
      · exact absurd e (Nat.ne_of_gt hb)
      · rw [fresh b (Nat.le_of_lt hb)] at e; cases e
    obtain ⟨oI, hoI, hIr⟩ := hI3
    obtain ⟨oC, esC, epC, hoC, hCd, _⟩ := id hn5
    have hcs : ∃ o, g.get? cStatics = some o := by obtain ⟨_, ⟨o, _, _, e, _⟩, _⟩ := T.nolimit; exact ⟨o, e⟩
    obtain ⟨ocs, hocs⟩ := hcs
    have hcs1 : cStatics ≠ h3.objs.size := fun e => by rw [e, fresh _ (Nat.le_of_lt hIC)] at hocs; cases hocs
    have hcs2 : cStatics ∉ [s.heap.objs.size] := fun hm => by rw [List.mem_singleton.mp hm, fresh _ (Nat.le_refl _)] at hocs; cases hocs
    have haC : h4.objs.size ≠ h3.objs.size := by rw [hsz4]; exact Nat.succ_ne_self _
    have hIa : s.heap.objs.size < h4.objs.size := by rw [hsz4]; exact Nat.lt_succ_of_lt hIC
    have W := WalksS.genexpQ (prog := PySem.Challenge.rw_sw0081_01.row.prog) (w := w) (A := A.in4) hh h4.objs.size s.gens.size h3.objs.size (s.heap.objs.size :: (List.range g.objs.size).filter (fun b => (g.get? b).isSome)) [s.heap.objs.size] (fun _ => true) vs.length Fx haC (hnof _ hIa)
      (fun b hb => by rw [List.mem_singleton.mp hb]; exact .head _) hroom (hmem _ _ hocs) hcs1 hcs2
    rw [passing_all, List.length_range] at W
    have W2 : WalksS PySem.Challenge.rw_sw0081_01.row.prog w A.in4 h4.objs.size (h4.objs.size :: h3.objs.size :: s.heap.objs.size :: (List.range g.objs.size).filter (fun b => (g.get? b).isSome)) [h3.objs.size, s.heap.objs.size] (GenOnlyQ s.gens.size) vs.length Fx
        (GenAt PySem.Challenge.rw_sw0081_01.row.prog w A.in4 h4.objs.size s.gens.size h3.objs.size (s.heap.objs.size :: (List.range g.objs.size).filter (fun b => (g.get? b).isSome)) [s.heap.objs.size] (fun _ => true) vs.length Fx) :=
      ⟨W.sub, W.grefl, W.gtrans, W.frame, fun i s' Q' E' hi st hQ => W.item i s' Q' E' hi st fun v s'' hp st' hm => hQ v s'' (by
        obtain ⟨j, hj, hF⟩ := hp
        rw [List.getElem?_range hi] at hj
        cases hj; exact hF) st' hm, W.done, W.self⟩
    have hgen : GenAt PySem.Challenge.rw_sw0081_01.row.prog w A.in4 h4.objs.size s.gens.size h3.objs.size (s.heap.objs.size :: (List.range g.objs.size).filter (fun b => (g.get? b).isSome)) [s.heap.objs.size] (fun _ => true) vs.length Fx 0
        { s with gens := s.gens.push (.fresh (.compStart (.GeneratorExp elt [⟨.Name x px, iter, [], 0⟩] scope pos) 0 (.ref s.heap.objs.size) .none (genEnv scope [] h3.objs.size (.ref c') builtinsNs env))), toks := tk3 + 1 + 1 + 1, heap := h5 } := by
      have hvl : vs.toArray.size = vs.length := by simp
      refine GenAt.fresh (A := A.in4) (cenv := genEnv scope [] h3.objs.size (.ref c') builtinsNs env) (m := fun y => if y = ".0" then some (.ref s.heap.objs.size) else none) hh
        (P := fun i v => vs.toArray[i]? = some v) (St₀ := fun i h => h.IsListIter s.heap.objs.size l i ∧ h.IsList l vs.toArray) (I := s.heap.objs.size)
        (fun A' hA => by
          have := (Walks.list (prog := PySem.Challenge.rw_sw0081_01.row.prog) (w := w) (A := A') hA s.heap.objs.size l hlI vs.toArray).mono_fp (fp' := s.heap.objs.size :: (List.range g.objs.size).filter (fun b => (g.get? b).isSome)) fun b hb => by
            rcases List.mem_cons.mp hb with rfl | hb
            · exact .head _
            · rw [List.mem_singleton.mp hb]
              obtain ⟨o, e⟩ := hlg
              exact hmem _ _ e
          rwa [hvl] at this) _ Fx hx (by simp [genEnv, hkind]) hco (hnof _ hIC) ?_ ⟨_, _, _, hga, rfl, rfl, rfl⟩ (Array.getElem?_push_size ..) ⟨⟨oI, keep5 _ _ hoI, hIr⟩, by obtain ⟨o, e, r⟩ := hlist3; exact ⟨o, keep5 _ _ e, r⟩⟩ hn5 (T.nolimit.keeps F5.keep)
      refine ⟨fun A' E' i v s₂ m₂ _ _ _ _ _ => wpAny_pure ⟨rfl, Keeps.here⟩, fun A' E' i v s₂ m₂ hA hv _ hns hm hk => helt _ _ A' E' i v s₂ m₂ hA (by simpa using hv) ⟨hns, fun b o e => ?_, ?_⟩ hm⟩
      · exact hk b (hmem _ _ e) (fun hm2 => by rw [List.mem_singleton.mp hm2, fresh _ (Nat.le_refl _)] at e; cases e) o (F5.keep _ _ e)
      · exact Nat.le_trans F.above (Nat.le_of_lt (Nat.lt_trans hLs hIC))
    obtain ⟨oa, hoa⟩ : ∃ oa, h5.get? h4.objs.size = some oa := ⟨_, hga⟩
    have nL : ∀ b : Nat, s.heap.objs.size ≤ b → b ≠ L := fun b hb e => absurd hLs (by rw [← e]; exact Nat.not_lt.mpr hb)
    have nP : ∀ b : Nat, s.heap.objs.size ≤ b → b ≠ P := fun b hb e => absurd hPs (by rw [← e]; exact Nat.not_lt.mpr hb)
    refine h h4.objs.size h3.objs.size s.heap.objs.size oa oC oI c' ps' h5 (tk3 + 1 + 1 + 1) _ s.gens.size _ _ rfl F5 ?_ ht3 hf3 (hr3.keeps keep5) ?_ W2 (fun i s' st => st.1.typeIs) (.head _) (Nat.le_of_lt hIC) (Nat.le_refl _) hc1 hc2 ?_
    · intro q hq
      rcases List.mem_cons.mp hq with rfl | hq
      · exact ⟨keep5 _ _ hP3, hPL, hPg⟩
      rcases List.mem_cons.mp hq with rfl | hq
      · exact ⟨hoa, nL _ (Nat.le_of_lt hIa), fresh _ (Nat.le_of_lt hIa)⟩
      rcases List.mem_cons.mp hq with rfl | hq
      · exact ⟨hoC, nL _ (Nat.le_of_lt hIC), fresh _ (Nat.le_of_lt hIC)⟩
      rcases List.mem_cons.mp hq with rfl | hq
      · exact ⟨keep5 _ _ hoI, nL _ (Nat.le_refl _), fresh _ (Nat.le_refl _)⟩
      · exact ⟨keep5 _ _ (hk3 _ _ (hoff q hq) (N2 q (.tail _ hq)).1), (N2 q (.tail _ hq)).2⟩
    · intro q hq
      rcases List.mem_cons.mp hq with rfl | hq
      · exact nP _ (Nat.le_of_lt hIa)
      rcases List.mem_cons.mp hq with rfl | hq
      · exact nP _ (Nat.le_of_lt hIC)
      rcases List.mem_cons.mp hq with rfl | hq
      · exact nP _ (Nat.le_refl _)
      · exact hoff q hq
    · intro h6 tk6 hk6 ha6 hC6 hI6
      have hoI5 := keep5 _ _ hoI
      have here : ∀ b ∈ h3.objs.size :: s.heap.objs.size :: (List.range g.objs.size).filter (fun b => (g.get? b).isSome), ∀ o, h5.get? b = some o → h6.get? b = some o := by
        intro b hb o e
        rcases List.mem_cons.mp hb with rfl | hb
        · rw [show h5.get? h3.objs.size = some oC from hoC] at e; cases e; exact hC6
        · rcases hmem2 b hb with rfl | ⟨o', e'⟩
          · rw [hoI5] at e; cases e; exact hI6
          · rw [F5.keep _ _ e'] at e; cases e; exact hk6 _ _ e'
      obtain ⟨⟨o, v1, v2, e, r⟩, _, gs, hgs, cont⟩ := hgen
      rw [show h5.get? h4.objs.size = some oa from hoa] at e
      cases e
      refine ⟨⟨⟨_, v1, v2, ha6, r⟩, T.nolimit.keeps hk6, gs, hgs, fun s'' hal => cont s'' fun b hb o e => hal b hb o (here b hb o e)⟩, ?_⟩
      intro b hb
      rcases List.mem_cons.mp hb with rfl | hb
      · exact Heap.lt_size ha6
      rcases List.mem_cons.mp hb with rfl | hb
      · exact Heap.lt_size hC6
      · rcases hmem2 b hb with rfl | ⟨o', e'⟩
        · exact Heap.lt_size hI6
        · exact Heap.lt_size (hk6 _ _ e')
  rcases hc with hn | ⟨c', hf, hr⟩
  · refine wpAny_genexprCodeX hcode ((C.keeps F2.keep).code (N2 _ (.head _)).1 ht) ((C.keeps F2.keep).tab (N2 _ (.head _)).1) hn fun c' h3 tk3 hx3 hge hlt hcode3 hrec3 htab3 _ => ?_
    exact fin c' _ h3 tk3 hx3 htab3.2 (Nat.le_trans hge (Nat.le_of_lt hlt)) (by rw [Array.toList_append]; exact TriplesOk_snoc _ _ _ _ ht) (by rw [Array.toList_append]; exact codeAmong_snoc _ ht hn) hrec3 (Nat.ne_of_lt hlt) (Nat.ne_of_gt (Nat.lt_of_lt_of_le hIs hge))
  · refine wpAny_genexprCode_hit hcode ((C.keeps F2.keep).code (N2 _ (.head _)).1 ht) hf ?_
    have hlt : c' < s.heap.objs.size := by
      obtain ⟨c₂, oc, _, _, e, hoc, _⟩ := hr
      cases e
      exact Heap.lt_size hoc
    exact fin c' ps h2 s.toks (fun _ _ _ e => e) (N2 _ (.head _)).1 (Nat.le_refl _) ht hf (hr.keeps hkeep2) (Nat.ne_of_lt (Nat.lt_trans hlt hIs)) (Nat.ne_of_lt hlt)
theorem tab_pack {g h : Heap} {L P c' : Addr} {m : Str → Option Value} {pos : Pos} {qual : Str} {ps : Array Value} (h1 : h.get? P = some (tabObj ps)) (h2 : TriplesOk ps.toList) (e1 : codeAmong pos ps.toList = some (.ref c')) (hr : h.CodeRec (.ref c') qual) (F : Fr g L h m) (hg : g.get? P = none) (hPL : P ≠ L) :
    ∃ c₂ oc, (c₂ = P ∨ c₂ = c') ∧ News g L h [(P, tabObj ps), (c₂, oc)] ∧ ∀ h' : Heap, (∀ b o, g.get? b = some o → h'.get? b = some o) → h'.get? P = some (tabObj ps) → h'.get? c₂ = some oc → TabOk P pos qual h' := by
  have z : h.get? P = some (tabObj ps) ∧ P ≠ L ∧ g.get? P = none := ⟨h1, hPL, hg⟩
  obtain ⟨c₂, oc, vs, t, e2, hoc, hd, hv⟩ := hr
  cases e2
  cases e : g.get? c' with
  | some o =>
    have e3 := F.keep _ _ e
    rw [hoc] at e3
    cases e3
    exact ⟨P, _, .inl rfl, List.forall_mem_cons.mpr ⟨z, List.forall_mem_singleton.mpr z⟩, fun h' hk hP _ => ⟨ps, hP, h2, .inr ⟨c', e1, c', oc, vs, t, rfl, hk _ _ e, hd, hv⟩⟩⟩
  | none =>
    have hne : c' ≠ L := fun q => by
      obtain ⟨oL, _, _, a, b, _⟩ := F.ns
      rw [q, a] at hoc
      cases hoc
      rw [b] at hd
      cases hd
    exact ⟨c', oc, .inr rfl, List.forall_mem_cons.mpr ⟨z, List.forall_mem_singleton.mpr ⟨hoc, hne, e⟩⟩, fun h' hk hP hc => ⟨ps, hP, h2, .inr ⟨c', e1, c', oc, vs, t, rfl, hc, hd, hv⟩⟩⟩
noncomputable def intT (a : Int) : Str := (toString a : String)
theorem join_len (sep : Str) (B : Nat) : ∀ ts : List Str, (∀ y ∈ ts, y.length ≤ B) → (Str.join sep ts).length ≤ ts.length * (B + sep.length)
  | [], _ => by rw [show (Str.join sep []).length = 0 from rfl]; exact Nat.zero_le _
  | [x], h => by
    have := h x (.head _)
    show x.length ≤ 1 * _
    (first | lia | omega)
  | x :: y :: r, h => by
    have h1 := h x (.head _)
    have h2 := join_len sep B (y :: r) fun z hz => h z (.tail _ hz)
    rw [show Str.join sep (x :: y :: r) = x ++ sep ++ Str.join sep (y :: r) from rfl, Str.length_append, Str.length_append, List.length_cons, Nat.add_mul]
    (first | lia | omega)
theorem intT_len {a : Int} (h : 0 ≤ a ∧ a < 10) : (intT a).length ≤ 4 := by
  have h1 : a = 0 ∨ a = 1 ∨ a = 2 ∨ a = 3 ∨ a = 4 ∨ a = 5 ∨ a = 6 ∨ a = 7 ∨ a = 8 ∨ a = 9 := by (first | lia | omega)
  rcases h1 with rfl | rfl | rfl | rfl | rfl | rfl | rfl | rfl | rfl | rfl <;> decide +kernel
theorem gl_builtin {env : Env} {g : Heap} {C' : Addr} {m : Str → Option Value} {x : Str} {pos : Pos} {v : Value} (F : Fr g C' s.heap m) (X : (Mine.kf.heap_1 w.params).In g) (T : Top p loose mean mg mb g) (e : nsIn (Mine.kf.heap_1 w.params) mainGlobals x = some none) (hv : bootBuiltins x = some v) (hn : x ≠ "__name__")
    (hg : env.globals = mainGlobals) (hbn : env.builtins = builtinsNs) (hk : env.scope.kind = .function) (hx : env.kindOf x = some .globalImplicit) (hd : (x == ("__debug__" : Str)) = false) (h : Q v s) : wpAny (MM w) A (eval (.Name x pos) env) Q E s :=
  Calls.Name_function_global hk hx (Calls.loadGlobal_builtin (env := env) (by rw [hg]; exact T.g.keeps F.keep) (mg_none_of X T.g e) (by rw [hbn]; exact T.b.keeps F.keep) ((T.builtins x hn).trans hv) h) hd
theorem Rows3.at {h : Heap} : ∀ {vs : List Value} {rs : List (Int × Int × Int)} (i : Nat) {v : Value}, Rows3 h vs rs → vs[i]? = some v → ∃ T c a b e t u t', v = .ref T ∧ h.get? T = some (tupV [.int a t, .int b u, .int e t'] c) ∧ rs[i]? = some (a, b, e)
  | _, _, i, _, .nil, h => by cases i <;> cases h
  | _, _, 0, _, .cons a r, h => by cases h; exact ⟨_, _, _, _, _, _, _, _, rfl, a, rfl⟩
  | _, _, i + 1, _, .cons a r, h => Rows3.at i r (by simpa using h)
theorem strs_list {α : Type} {f : α → Str} {rs : List α} {l : List (Str × Tok)} (hl : l.length = rs.length) (h : ∀ (i : Nat) (y : Str) (u : Tok), l[i]? = some (y, u) → ∃ r, rs[i]? = some r ∧ y = f r) : l.map (·.1) = rs.map f := by
  apply List.ext_getElem?
  intro i
  rw [List.getElem?_map, List.getElem?_map]
  cases e : l[i]? with
  | none => rw [List.getElem?_eq_none (by rw [← hl]; exact List.getElem?_eq_none_iff.mp e)]; rfl
  | some p =>
    obtain ⟨r, h1, h2⟩ := h i p.1 p.2 e
    rw [h1, Option.map_some, Option.map_some, h2]
noncomputable def qual156 : Str := Str.ofString "format_witnesses.<locals>.<genexpr>"
noncomputable def pos156 : Pos := ⟨191, 13, 191, 39⟩
noncomputable def witS (rs : List (Int × Int × Int)) : Str := Str.ofString "at tab sizes " ++ Txt.join (Str.ofString ", ") (rs.map fun r => intT r.1)
theorem fw_spec {l : Addr} {vs : List Value} {cl : Nat} {rs : List (Int × Int × Int)} (C : Cx (d + 5) w p loose mean mg mb A h₀ s.heap) (hl : s.heap.get? l = some (listV vs cl)) (hR : Rows3 s.heap vs rs) (hlen : 1 < rs.length ∧ rs.length < 1000) (hra : ∀ r ∈ rs, 0 ≤ r.1 ∧ r.1 < 10)
    (hT : TabOk 156 pos156 qual156 s.heap) (hn1 : h₀.get? 156 = none) (hG : AllBare s.gens)
    (hret : ∀ h' t tk' gs', AllBare gs' → (∀ b o, b ≠ 156 → s.heap.get? b = some o → h'.get? b = some o) → TabOk 156 pos156 qual156 h' → Q (.str (witS rs) t) { s with heap := h', gens := gs', toks := tk' }) :
    wpAny (MM w) A (call (.ref 161) [.ref l]) Q E s := by
  walk_at "m_fill"
  refine' enterK (binds := [(Str.ofString "w", .ref l)]) C ?ho ?hcd ?hb ?hl ?_ ?c1 ?c2 ?c3 ?c4
  walk_at "m_enter"
  intro L h₁ F0 F1
  have hA := C.hh
  refine hideG ?_; intro XX kXX
  obtain ⟨ps, hps, hpt, hpc⟩ := hT
  refine kXX ?_; clear kXX XX
  have F := hide_fr (as := [156]) F1
  have hk := hide_keep (s := s) (as := [156]) C.k (by simpa using hn1)
  have N : News (hideAll s.heap [156]) L h₁ [(156, tabObj ps)] := List.forall_mem_singleton.mpr (hide_new F1 hps (.head _))
  have X' := C.X.keeps hk
  have T := C.T.keeps hk
  walk_at "m_run"
  have hlT : (hideAll s.heap [156]).IsList l vs.toArray := by
    refine ⟨_, hideAll_get _ hl (fun q => ?_), rfl, _, rfl⟩
    rw [List.mem_singleton.mp q, hps] at hl
    cases hl
  refine' gen_any (P := 156) (c := 160) (l := l) (vs := vs) (Fx := fun i y => ∃ r t, rs[i]? = some r ∧ y = .str (intT r.1) t) F N (List.forall_mem_nil _) T (C.c3.keeps hk) ?gcode ?gglob hpt (hpc.imp id fun ⟨c', e1, e2⟩ => ⟨c', e1, e2.keeps F1.keep⟩)
    hA ?gco ?gclos ?gcell ?g0 ?gx ?gkind ?groom ?gs hlT ?geval ?gelt ?gend
  case gcode => exact rfl
  case gglob => exact rfl
  case gco => exact rfl
  case gclos => exact rfl
  case gcell => decide
  case g0 => exact rfl
  case gx => exact rfl
  case gkind => exact rfl
  case gs => exact fun _ => rfl
  case groom => have := C.hd; show A.depth + 1 < _; (first | lia | omega)
  case geval =>
    intro Q' hq
    walk_at "m_run"
    exact hq
  case gelt =>
    intro C' code A' E' i v s₂ m₂ hA' hv F2 hm
    refine hideG ?_; intro XX kXX
    obtain ⟨T1, c, a, b, e, t, u, t', rfl, hT1, hr⟩ := hR.at i hv
    refine kXX ?_; clear kXX XX
    have hT2 : (hideAll s.heap [156]).get? T1 = some (tupV [.int a t, .int b u, .int e t'] c) := hideAll_get _ hT1 (fun q => by rw [List.mem_singleton.mp q, hps] at hT1; cases hT1)
    have hT3 : IsTup s₂.heap T1 [Value.int a t, .int b u, .int e t'].toArray := ⟨_, F2.keep _ _ hT2, rfl, _, rfl⟩
    walk_at "m_step"
    refine gl_builtin F2 X' T (by k_is) (by boot_by_name) (by decide) (by exact rfl) (by exact rfl) (by exact rfl) (by exact rfl) (by decide) ?_
    walk_at "m_step"
    walk_at "m_step"
    walk_at "m_step"
    refine ldVarG F2 hm ?_
    walk_at "m_step"
    refine item_tupleL (j := 0) hT3 (by decide) (by decide) rfl rfl ?_
    walk_at "m_step"
    have hab := hra _ (List.mem_of_getElem? hr)
    have hab1 : 0 ≤ a ∧ a < 10 := hab
    have := Nat.log2_le_self a.natAbs
    exact P.str_of_int (by (first | lia | omega)) ⟨⟨_, _, hr, rfl⟩, _, _, rfl, fun _ _ e => e⟩
  case gend =>
    intro a C' I oa oC oI c' ps' h' tk gs G St fp hgs F2 N2 hpt2 hf2 hr2 hoff W hTy hafp hsC hsI hcC hcI hst
    have h156 := (N2 _ (.head _))
    refine hideG ?_; intro XX kXX
    obtain ⟨c₂, oc, hc2, N3, htab⟩ := tab_pack h156.1 hpt2 hf2 hr2 F2 h156.2.2 h156.2.1
    refine kXX ?_; clear kXX XX
    have N2 : News (hideAll s.heap [156]) L h' [(156, tabObj ps'), (c₂, oc), (a, oa), (C', oC), (I, oI)] := fun q hq => by
      rcases List.mem_cons.mp hq with rfl | hq
      · exact N2 _ (.head _)
      rcases List.mem_cons.mp hq with rfl | hq
      · exact N3 _ (.tail _ (.head _))
      · exact N2 _ (.tail _ hq)
    clear N3 h156
    have hvl := hR.length
    have hl5 : ∀ {h5 : Heap} {m5}, Fr (hideAll s.heap [156]) L h5 m5 → h5.IsList l vs.toArray := fun F5 => by obtain ⟨o, e, r⟩ := hlT; exact ⟨o, F5.keep _ _ e, r⟩
    walk_at "m_run"
    (rename Fr _ _ _ _ => F3)
    refine Calls.call_len_list (hl5 F3) (by simp; (first | lia | omega)) ?_
    have hn2 : ((vs.toArray.size : Nat) : Int) > 1 := by simp; (first | lia | omega)
    walk_at "m_run"
    (rename Fr _ _ _ _ => F4); (rename News _ _ _ _ => N4)
    have W := W.in4_2
    have gP := N4 _ (.head _)
    have gc := N4 _ (.tail _ (.head _))
    have ga := N4 _ (.tail _ (.tail _ (.head _)))
    have gC := N4 _ (.tail _ (.tail _ (.tail _ (.head _))))
    have gI := N4 _ (.tail _ (.tail _ (.tail _ (.tail _ (.head _)))))
    have hPs := Heap.lt_size (F1.keep _ _ hps)
    have hPn : 156 ∉ [C', I] := fun hm => by
      rcases List.mem_cons.mp hm with e | hm
      · exact absurd hsC (by rw [← e]; exact Nat.not_le.mpr hPs)
      · exact absurd hsI (by rw [← List.mem_singleton.mp hm]; exact Nat.not_le.mpr hPs)
    have hcn : c₂ ∉ [C', I] := fun hm => by
      rcases hc2 with rfl | rfl
      · exact hPn hm
      · rcases List.mem_cons.mp hm with e | hm
        · exact hcC e
        · exact hcI (List.mem_singleton.mp hm)
    have hsl : ∀ b o, (hideAll s.heap [156]).get? b = some o → b ∉ [C', I] := fun b o e hm => by
      rcases List.mem_cons.mp hm with q | hm
      · rw [q, gC.2.2] at e; cases e
      · rw [List.mem_singleton.mp hm, gI.2.2] at e; cases e
    refine SC.joinGen W hTy (hst _ _ F4.keep ga.1 gC.1 gI.1).1 (hst _ 0 F4.keep ga.1 gC.1 gI.1).2 hafp (fun j v hv => let ⟨r, t, _, e⟩ := hv; ⟨_, t, e⟩) (fun s' lt hm hacc => ?_) (by rw [show sizeLine = 16777216 from rfl]; (first | lia | omega))
    have hll : lt.length = rs.length := by
      have := hacc.1
      simp [strValues] at this
      (first | lia | omega)
    have hlm : lt.map (·.1) = rs.map fun r => intT r.1 := strs_list hll fun i y u h => by
      obtain ⟨r, t, hr, e⟩ := hacc.2 i (.str y u) (by simp [strValues, h])
      cases e
      exact ⟨r, hr, rfl⟩
    refine hideG ?_; intro XX kXX
    obtain ⟨h9, gs9, dr9, tk9, os9⟩ := s'
    refine kXX ?_; clear kXX XX
    have hdr : dr9 = s.drawn := hm.drawn
    have hos : os9 = s.os := hm.os
    subst hdr hos
    have hjl : (Txt.join (Str.ofString ", ") (lt.map (·.1))).length ≤ 100000 := by
      rw [hlm]
      unfold Txt.join
      rw [StrLaws.glued_eq_join]
      refine Nat.le_trans (join_len _ 4 _ fun y hy => ?_) ?_
      · obtain ⟨r, hr, rfl⟩ := List.mem_map.mp hy
        exact intT_len (hra r hr)
      · rw [List.length_map, show (Str.ofString ", ").length = 2 by decide]; (first | lia | omega)
    refine ⟨?_, fun t' k => ?_⟩
    · rw [hlm]
      refine joinOk_of (b := 4) (fun y hy => ?_) (by rw [List.length_map, show (Str.ofString ", ").length = 2 by decide]; (first | lia | omega))
      obtain ⟨r, hr, rfl⟩ := List.mem_map.mp hy
      exact intT_len (hra r hr)
    · refine add_str (fun t2 k2 => ?_) ?_
      · rw [hlm]
        refine hret h9 _ _ gs9 ((hG.push hgs).movedS hm) (fun b o hb e => ?_) (htab h9 (fun b o e => hm.heap _ _ (hsl b o e) (F4.keep _ _ e)) (hm.heap _ _ hPn gP.1) (hm.heap _ _ hcn gc.1))
        have e2 : (hideAll s.heap [156]).get? b = some o := hideAll_get _ e (fun q => hb (List.mem_singleton.mp q))
        exact hm.heap _ _ (hsl b o e2) (F4.keep _ _ e2)
      · rw [show sizeLine = 16777216 from rfl, show (Str.ofString "at tab sizes" ++ Str.ofString " ").length = 13 by decide]; (first | lia | omega)
end
section
noncomputable def ringGo (taken : List Int) (ring : Int) : Nat → Int → Int × Int
  | 0, s => (s, 0)
  | k + 1, s => if s ∈ taken then ((ringGo taken ring k ((s + 1) % ring)).1, (ringGo taken ring k ((s + 1) % ring)).2 + 1) else (s, 0)
noncomputable def ringOne (ring : Int) (st : List Int × Int) (wish : Int) : List Int × Int := (st.1 ++ [(ringGo st.1 ring ring.toNat wish).1], st.2 + (ringGo st.1 ring ring.toNat wish).2)
noncomputable def ringSt (ring : Int) (ws : List Int) : List Int × Int := ws.foldl (ringOne ring) ([], 0)
theorem ringSt_succ {ring : Int} {ws : List Int} {i : Nat} {x : Int} (h : ws[i]? = some x) : ringSt ring (ws.take (i + 1)) = ringOne ring (ringSt ring (ws.take i)) x := by
  unfold ringSt
  rw [List.take_add_one, h, Option.toList_some, List.foldl_append]; rfl
theorem ringSt_len (ring : Int) (ws : List Int) : (ringSt ring ws).1.length = ws.length := by
  have key : ∀ (ws : List Int) (st : List Int × Int), (ws.foldl (ringOne ring) st).1.length = st.1.length + ws.length := by
    intro ws
    induction ws with
    | nil => intro st; rfl
    | cons x ws ih => intro st; rw [List.foldl_cons, ih]; simp [ringOne]; (first | lia | omega)
  simpa [ringSt] using key ws ([], 0)
theorem ring_spec {l : Addr} {vs : List Value} {ws : List Int} {ring : Int} {tr : Tok} (C : Cx (d + 1) w p loose mean mg mb A h₀ s.heap)
    (hl : s.heap.IsList l vs.toArray) (hI : IntsAre vs ws) (hlen : ws.length < 1000) (hr : 0 < ring ∧ ring < 1000)
    (hfree : ∀ i x, ws[i]? = some x → (ringGo (ringSt ring (ws.take i)).1 ring ring.toNat x).1 ∉ (ringSt ring (ws.take i)).1)
    (hret : ∀ h' D T vsD nD t tk', IntsAre vsD (ringSt ring ws).1 → (∀ b o, s.heap.get? b = some o → h'.get? b = some o) → h'.get? D = some (listV vsD nD) → h'.get? T = some (tupV [.ref D, .int (ringSt ring ws).2 t] 0) →
      s.heap.get? D = none → s.heap.get? T = none → D < T → Q (.ref T) { s with heap := h', toks := tk' }) :
    wpAny (MM w) A (call (.ref 168) [.ref l, .int ring tr]) Q E s := by
  walk_at "m_fill"
  refine' enterK (binds := [(Str.ofString "wishes", .ref l), (Str.ofString "ring", .int ring tr)]) C ?ho ?hcd ?hb ?hl ?_ ?c1 ?c2 ?c3 ?c4
  walk_at "m_enter"
  intro L h₁ F0 F
  have X' := C.X.keeps C.k
  have T := C.T.keeps C.k
  have N : News s.heap L h₁ [] := News.nil
  clear F0
  walk_at "m_run"
  refine wpAny_For ?_
  walk_at "m_run"
  rename_i D _ _ _ _ _ F1 N1
  refine for_list (h₀ := s.heap) (L := L) (vs := vs) (fun i m news => ∃ vsD nD, news = [(D, listV vsD nD)] ∧ IntsAre vsD (ringSt ring (ws.take i)).1 ∧ m (Str.ofString "taken") = some (.ref D) ∧ (∃ t, m (Str.ofString "gone") = some (.int (ringSt ring (ws.take i)).2 t)) ∧ m (Str.ofString "ring") = some (.int ring tr))
    C.hh hl rfl rfl rfl F1 N1 ⟨[], 0, rfl, ?_, rfl, ⟨_, rfl⟩, rfl⟩ ?_ ?_
  · exact .nil
  · rintro I i v m₁ news₁ h tk oI hi hv hI1 hJ11 hoff F2 N2
    refine hideG ?_; intro XX kXX
    obtain ⟨vsD, nD, rfl, hID, mt, ⟨tg, mg'⟩, mr⟩ := hJ11
    refine kXX ?_; clear kXX XX
    refine hideG ?_; intro XX kXX
    obtain ⟨x, tx, rfl, hx⟩ := hI.at i v hv
    refine kXX ?_; clear kXX XX
    have hfr := hfree i x hx
    have hDI : @LT.lt Nat _ D I := hI1 _ (.head _)
    have hlD := ringSt_len ring (ws.take i)
    have hvD := hID.length
    have hlt : (ws.take i).length ≤ ws.length := by rw [List.length_take]; (first | lia | omega)
    generalize hst : ringSt ring (ws.take i) = st at *
    walk_at "m_run"
    (rename Fr _ _ _ _ => F3); (rename News _ _ _ _ => N3)
    refine While_inv2 (L := L) (n₀ := ring.toNat) (fun n m news => news = [(I, oI), (D, listV vsD nD)] ∧ ∃ (sp : Int), (ringGo st.1 ring n sp).1 = (ringGo st.1 ring ring.toNat x).1 ∧ m (Str.ofString "taken") = some (.ref D) ∧ m (Str.ofString "ring") = some (.int ring tr) ∧
        (∃ t, m (Str.ofString "spot") = some (.int sp t)) ∧ ∃ g t, m (Str.ofString "gone") = some (.int g t) ∧ g + (ringGo st.1 ring n sp).2 = st.2 + (ringGo st.1 ring ring.toNat x).2) F3 N3 ?_ ?_
    · exact ⟨rfl, x, rfl, mt, mr, ⟨_, rfl⟩, _, _, mg', rfl⟩
    · rintro n m₂ news₂ h₂ tk₂ F4 N4 hJ7
      refine hideG ?_; intro XX kXX
      obtain ⟨rfl, sp, hsp, mt2, mr2, ⟨tsp, msp⟩, g, tg2, mg2, hg⟩ := hJ7
      refine kXX ?_; clear kXX XX
      walk_at "m_run"
      · (rename Fr _ _ _ _ => F5); (rename News _ _ _ _ => N5); (rename _ = true => hin)
        have hin' : sp ∈ st.1 := by simpa using hin
        cases n with
        | zero => exact absurd hin' (by rw [show sp = _ from hsp]; exact hfr)
        | succ n =>
          simp only [ringGo, if_pos hin'] at hsp hg
          rw [Int.fmod_eq_emod_of_nonneg _ (by (first | lia | omega))] at F5
          exact ⟨_, _, _, _, n, rfl, F5, N5, by (first | lia | omega), rfl, (sp + 1) % ring, hsp, mt2, mr2, ⟨_, rfl⟩, g + 1, _, rfl, by (first | lia | omega)⟩
      · walk_at "m_app"
        walk_at "m_run"
        (rename Fr _ _ _ _ => F5); (rename News _ _ _ _ => N5); (rename _ = false => hin)
        have hin' : ¬ sp ∈ st.1 := fun hm => by simp at hin; exact hin sp hm rfl
        have hgo : ringGo st.1 ring n sp = (sp, 0) := by
          cases n with
          | zero => rfl
          | succ n => simp only [ringGo, if_neg hin']
        rw [hgo] at hsp hg
        have hone : ringSt ring (ws.take (i + 1)) = (st.1 ++ [sp], g) := by
          rw [ringSt_succ hx, hst, ringOne, ← hsp, ← hg]; simp
        refine Turned.mk F5 N5 (List.forall_mem_singleton.mpr (Nat.ne_of_lt hDI)) ⟨_, _, rfl, ?_, mt2, ⟨tg2, ?_⟩, mr2⟩
        · rw [hone]; exact hID.append (.cons _ _ .nil)
        · rw [hone]; exact mg2
  · rintro m₁ news₁ h tk hJ4 F2 N2
    refine hideG ?_; intro XX kXX
    obtain ⟨vsD, nD, rfl, hID, mt, ⟨tg, mg'⟩, mr⟩ := hJ4
    refine kXX ?_; clear kXX XX
    walk_at "m_run"
    rename_i T2 h3 F3 N3 hDT
    have hN := N3 _ (.head _)
    have hN2 := N3 _ (.tail _ (.head _))
    rw [hI.length, List.take_length] at *
    exact hret _ D T2 _ _ _ _ hID F3.keep hN2.1 hN.1 hN2.2.2 hN.2.2 hDT
end
section
noncomputable def bisN (xs : List Int) (x : Int) : Nat := (xs.takeWhile (· < x)).length
theorem IsBis.eq : ∀ {xs : List Int} {x : Int} {r : Nat}, IsBis xs x r → r = bisN xs x
  | [], x, r, h => by have := h.1; simp [bisN] at *; (first | lia | omega)
  | y :: ys, x, r, h => by
    obtain ⟨h1, h2, h3⟩ := h
    unfold bisN
    rw [List.takeWhile_cons]
    by_cases hy : y < x
    · rw [if_pos (by simpa using hy)]
      cases r with
      | zero => exact absurd hy (Int.not_lt.mpr (h3 0 (Nat.le_refl _) (by simp)))
      | succ r =>
        rw [List.length_cons]
        have := IsBis.eq (xs := ys) (x := x) (r := r) ⟨by simpa using h1, fun i hi => by simpa using h2 (i + 1) (by (first | lia | omega)), fun i hi hl => by simpa using h3 (i + 1) (by (first | lia | omega)) (by simpa using hl)⟩
        rw [this]; rfl
    · rw [if_neg (by simpa using hy)]
      cases r with
      | zero => rfl
      | succ r => exact absurd (h2 0 (by (first | lia | omega))) hy
noncomputable def streetRun : List Int → List Int → List Int → Option (List Int)
  | [], _, sp => some sp
  | x :: ws, e, sp => if bisN e x ≥ e.length then none else streetRun ws (e.eraseIdx (bisN e x)) (sp ++ [e.getD (bisN e x) 0])
theorem street_spec {l : Addr} {vs : List Value} {ws : List Int} {n : Nat} {ts : Tok} (C : Cx (d + 2) w p loose mean mg mb A h₀ s.heap)
    (hl : s.heap.IsList l vs.toArray) (hI : IntsAre vs ws) (hlen : ws.length < 1000) (hr : n < 1000)
    (hnone : ∀ h' tk', streetRun ws (rangeKs 0 n) [] = none → (∀ b o, s.heap.get? b = some o → h'.get? b = some o) → Q .none { s with heap := h', toks := tk' })
    (hsome : ∀ h' D vsD nD tk' ys, streetRun ws (rangeKs 0 n) [] = some ys → IntsAre vsD ys → (∀ b o, s.heap.get? b = some o → h'.get? b = some o) → h'.get? D = some (listV vsD nD) → s.heap.get? D = none → Q (.ref D) { s with heap := h', toks := tk' }) :
    wpAny (MM w) A (call (.ref 175) [.ref l, .int n ts]) Q E s := by
  walk_at "m_fill"
  refine' enterK (binds := [(Str.ofString "wishes", .ref l), (Str.ofString "street", .int n ts)]) C ?ho ?hcd ?hb ?hl ?_ ?c1 ?c2 ?c3 ?c4
  walk_at "m_enter"
  intro L h₁ F0 F
  have X' := C.X.keeps C.k
  have T := C.T.keeps C.k
  have N : News s.heap L h₁ [] := News.nil
  clear F0
  walk_at "m_run"
  refine range1_rows (by with_reducible assumption) (by with_reducible assumption) ?_
  intro h2 tk2 t1 u1 v1 hR F2 N2 _
  walk_at "m_run"
  refine list_range_L (n := n) C.hh F2 N2 hR (by (first | lia | omega)) (by (first | lia | omega)) (by (first | lia | omega)) (by (first | lia | omega)) ?_
  intro De us cE h3 tk3 F3 N3 hDe hus
  walk_at "m_run"
  refine wpAny_For ?_
  walk_at "m_run"
  rename_i Ds _ hDs _ F4 N4
  refine for_list (h₀ := s.heap) (L := L) (vs := vs) (fun i m news => ∃ e sp vE nE vS nS, news = [(Ds, listV vS nS), (De, listV vE nE)] ∧ IntsAre vE e ∧ IntsAre vS sp ∧ e.Pairwise (· ≤ ·) ∧ e.length ≤ n ∧ sp.length ≤ i ∧ streetRun (ws.drop i) e sp = streetRun ws (rangeKs 0 n) [] ∧
      m (Str.ofString "empty") = some (.ref De) ∧ m (Str.ofString "spots") = some (.ref Ds))
    C.hh hl rfl rfl rfl F4 N4 ⟨_, [], us, cE, [], 0, rfl, hus, .nil, ?_, ?_, Nat.le_refl _, rfl, rfl, rfl⟩ ?_ ?_
  · unfold rangeKs
    rw [List.pairwise_map]
    exact List.pairwise_lt_range.imp (fun h => by (first | lia | omega))
  · simp [rangeKs]
  · rintro I i v m₁ news₁ h tk oI hi hv hI1 hJ11 hoff F5 N5
    refine hideG ?_; intro XX kXX
    obtain ⟨e, sp, vE, nE, vS, nS, rfl, hIE, hIS, hse, hel, hspl, hrun, me, ms⟩ := hJ11
    refine kXX ?_; clear kXX XX
    refine hideG ?_; intro XX kXX
    obtain ⟨x, tx, rfl, hx⟩ := hI.at i v hv
    refine kXX ?_; clear kXX XX
    have hDeI : @LT.lt Nat _ De I := hI1 _ (.tail _ (.head _))
    have hDsI : @LT.lt Nat _ Ds I := hI1 _ (.head _)
    have hDD : @LT.lt Nat _ De Ds := hDs
    have hvE := hIE.length
    have hvS := hIS.length
    have hvl := hI.length
    have hcons : ws.drop i = x :: ws.drop (i + 1) := by
      obtain ⟨hlt, hx2⟩ := List.getElem?_eq_some_iff.mp hx
      rw [← hx2, List.drop_eq_getElem_cons hlt]
    walk_at "m_run"
    (rename Fr _ _ _ _ => F6); (rename News _ _ _ _ => N6)
    refine bis_spec (vs := vE) (xs := e) (x := x) (tx := tx) (t0 := 209) (.inl ⟨rfl, rfl⟩) (C.inner _ C.k F6) ?_ hIE (by (first | lia | omega)) hse ?_
    · exact N6.isList (.tail _ (.tail _ (.head _)))
    intro h7 r t7 tk7 hr7 hk7
    have F7 := Fr.ext F6 hk7
    have N7 := News.ext N6 hk7
    clear F6 N6
    have hrb := hr7.eq
    have hr1 := hr7.1
    walk_at "m_run"
    · (rename Fr _ _ _ _ => F8); (rename (e.length : Int) ≤ _ => hle)
      refine hnone _ _ ?_ F8.keep
      rw [← hrun, hcons, streetRun, if_pos (by (first | lia | omega))]
    · (rename ¬ ((e.length : Int) ≤ _) => hle)
      walk_at "m_app"
      walk_at "m_run"
      refine' del_L (k := r) (by with_reducible assumption) (by with_reducible assumption) ?U ?f ?k ?k2 ?_ ?z
      case U => k_upd
      case f => exact fits_idx (by (first | lia | omega)) (by (first | lia | omega))
      case k => rw [seqIndex_of (by (first | lia | omega)) (by (first | lia | omega)), Int.toNat_natCast]
      case k2 => (first | lia | omega)
      case z => (first | lia | omega)
      intro h9 F9 N9
      walk_at "m_run"
      have hvl2 : sp.length + 1 ≤ i + 1 := by (first | lia | omega)
      refine Turned.mk F9 N9 ?_ ⟨e.eraseIdx r, sp ++ [e.getD r 0], _, _, _, _, rfl, ?_, hIS.append (.cons _ _ .nil), ?_, ?_, by simpa using hspl, ?_, me, ms⟩
      · exact List.forall_mem_cons.mpr ⟨Nat.ne_of_lt hDsI, List.forall_mem_singleton.mpr (Nat.ne_of_lt hDeI)⟩
      · rw [List.eraseIdx_eq_take_drop_succ, List.eraseIdx_eq_take_drop_succ]
        exact (hIE.take r).append (hIE.drop (r + 1))
      · exact hse.sublist (List.eraseIdx_sublist ..)
      · rw [List.length_eraseIdx]; split <;> (first | lia | omega)
      · rw [← hrun, hcons, streetRun, ← hrb, if_neg (by (first | lia | omega))]
  · rintro m₁ news₁ h tk hJ4 F5 N5
    refine hideG ?_; intro XX kXX
    obtain ⟨e, sp, vE, nE, vS, nS, rfl, hIE, hIS, hse, hel, hspl, hrun, me, ms⟩ := hJ4
    refine kXX ?_; clear kXX XX
    walk_at "m_run"
    have hN := N5 _ (.head _)
    rw [hI.length, List.drop_length] at hrun
    exact hsome _ Ds vS nS _ sp hrun.symm hIS F5.keep hN.1 hN.2.2
end
section
noncomputable def rot (R t x : Int) : Int := (x + t) % R
theorem rot_inj {R t x y : Int} (hx : 0 ≤ x ∧ x < R) (hy : 0 ≤ y ∧ y < R) (h : rot R t x = rot R t y) : x = y := by
  unfold rot at h
  rw [Int.emod_add_cancel_right, Int.emod_eq_of_lt hx.1 hx.2, Int.emod_eq_of_lt hy.1 hy.2] at h
  exact h
theorem rot_range {R t x : Int} (hR : 0 < R) : 0 ≤ rot R t x ∧ rot R t x < R := ⟨Int.emod_nonneg _ (by (first | lia | omega)), Int.emod_lt_of_pos _ hR⟩
theorem rot_mem {R t x : Int} {taken : List Int} (ht : ∀ y ∈ taken, 0 ≤ y ∧ y < R) (hx : 0 ≤ x ∧ x < R) : rot R t x ∈ taken.map (rot R t) ↔ x ∈ taken := by
  rw [List.mem_map]
  constructor
  · rintro ⟨y, hy, e⟩
    rwa [← rot_inj (ht y hy) hx e]
  · exact fun h => ⟨x, h, rfl⟩
theorem rot_next (R t x : Int) : (rot R t x + 1) % R = rot R t ((x + 1) % R) := by
  unfold rot
  rw [Int.emod_add_emod, Int.emod_add_emod]
  congr 1; (first | lia | omega)
theorem ringGo_rot {R t : Int} {taken : List Int} (hR : 0 < R) (ht : ∀ y ∈ taken, 0 ≤ y ∧ y < R) : ∀ (n : Nat) (x : Int), 0 ≤ x ∧ x < R →
    ringGo (taken.map (rot R t)) R n (rot R t x) = (rot R t (ringGo taken R n x).1, (ringGo taken R n x).2)
  | 0, x, _ => rfl
  | n + 1, x, hx => by
    have ih := ringGo_rot (t := t) hR ht n ((x + 1) % R) ⟨Int.emod_nonneg _ (by (first | lia | omega)), Int.emod_lt_of_pos _ hR⟩
    unfold ringGo
    by_cases hm : x ∈ taken
    · rw [if_pos hm, if_pos ((rot_mem ht hx).mpr hm), rot_next, ih]
    · rw [if_neg hm, if_neg (fun h => hm ((rot_mem ht hx).mp h))]
theorem ringGo_range {R : Int} {taken : List Int} (hR : 0 < R) : ∀ (n : Nat) (x : Int), 0 ≤ x ∧ x < R → 0 ≤ (ringGo taken R n x).1 ∧ (ringGo taken R n x).1 < R
  | 0, x, hx => hx
  | n + 1, x, hx => by
    have ih := ringGo_range (taken := taken) hR n ((x + 1) % R) ⟨Int.emod_nonneg _ (by (first | lia | omega)), Int.emod_lt_of_pos _ hR⟩
    unfold ringGo
    split
    · exact ih
    · exact hx
theorem ringFold_range {R : Int} (hR : 0 < R) : ∀ (ws : List Int) (st : List Int × Int), (∀ w ∈ ws, 0 ≤ w ∧ w < R) → (∀ y ∈ st.1, 0 ≤ y ∧ y < R) → ∀ y ∈ (ws.foldl (ringOne R) st).1, 0 ≤ y ∧ y < R
  | [], st, _, h => h
  | w :: ws, st, hw, h => by
    rw [List.foldl_cons]
    refine ringFold_range hR ws _ (fun y hy => hw y (.tail _ hy)) ?_
    intro y hy
    rcases List.mem_append.mp hy with hy | hy
    · exact h y hy
    · rw [List.mem_singleton.mp hy]; exact ringGo_range hR _ _ (hw w (.head _))
theorem ringFold_rot {R t : Int} (hR : 0 < R) : ∀ (ws : List Int) (st : List Int × Int), (∀ w ∈ ws, 0 ≤ w ∧ w < R) → (∀ y ∈ st.1, 0 ≤ y ∧ y < R) →
    (ws.map (rot R t)).foldl (ringOne R) (st.1.map (rot R t), st.2) = ((ws.foldl (ringOne R) st).1.map (rot R t), (ws.foldl (ringOne R) st).2)
  | [], st, _, _ => rfl
  | w :: ws, st, hw, h => by
    rw [List.map_cons, List.foldl_cons, List.foldl_cons]
    have e := ringGo_rot (t := t) hR h R.toNat w (hw w (.head _))
    have h2 := ringFold_range hR [w] st (fun y hy => hw y (by rw [List.mem_singleton.mp hy]; exact .head _)) h
    have ih := ringFold_rot (t := t) hR ws (ringOne R st w) (fun y hy => hw y (.tail _ hy)) h2
    rw [← ih]
    congr 1
    unfold ringOne
    rw [e, List.map_append]; rfl
theorem ringSt_rot {R t : Int} (hR : 0 < R) {ws : List Int} (hw : ∀ w ∈ ws, 0 ≤ w ∧ w < R) : ringSt R (ws.map (rot R t)) = ((ringSt R ws).1.map (rot R t), (ringSt R ws).2) :=
  ringFold_rot (st := ([], 0)) hR ws hw (fun _ h => by cases h)
theorem pig : ∀ (n : Nat) (j : Int) (l : List Int), (∀ k : Nat, k < n → j + (k : Int) ∈ l) → n ≤ l.length
  | 0, _, _, _ => Nat.zero_le _
  | n + 1, j, l, h => by
    have hm := h n (by (first | lia | omega))
    have ih := pig n j (l.erase (j + (n : Int))) fun k hk => (List.mem_erase_of_ne (by (first | lia | omega))).mpr (h k (by (first | lia | omega)))
    rw [List.length_erase_of_mem hm] at ih
    have := List.length_pos_of_mem hm
    (first | lia | omega)
theorem pig2 : ∀ (n : Nat) (j : Int) (l : List Int), l.Nodup → (∀ y ∈ l, j ≤ y ∧ y < j + (n : Int)) → l.length ≤ n
  | 0, _, l, _, h => by
    cases l with
    | nil => exact Nat.le_refl _
    | cons y _ => have := h y (.head _); (first | lia | omega)
  | n + 1, j, l, hd, h => by
    by_cases hm : j + (n : Int) ∈ l
    · have ih := pig2 n j (l.erase (j + (n : Int))) (hd.erase _) fun y hy => by
        have := (List.Nodup.mem_erase_iff hd).mp hy
        have := h y this.2
        (first | lia | omega)
      rw [List.length_erase_of_mem hm] at ih
      (first | lia | omega)
    · have ih := pig2 n j l hd fun y hy => by
        have := h y hy
        have : y ≠ j + (n : Int) := fun e => hm (e ▸ hy)
        (first | lia | omega)
      (first | lia | omega)
theorem ringGo_bad {R : Int} {taken : List Int} (hR : 0 < R) : ∀ (n : Nat) (x : Int), 0 ≤ x ∧ x < R → (ringGo taken R n x).1 ∈ taken → ∀ k : Nat, k ≤ n → (x + (k : Int)) % R ∈ taken
  | 0, x, hx, h, k, hk => by
    have : k = 0 := by (first | lia | omega)
    subst this
    rw [Int.natCast_zero, Int.add_zero, Int.emod_eq_of_lt hx.1 hx.2]
    exact h
  | n + 1, x, hx, h, k, hk => by
    unfold ringGo at h
    by_cases hm : x ∈ taken
    · rw [if_pos hm] at h
      cases k with
      | zero => rwa [Int.natCast_zero, Int.add_zero, Int.emod_eq_of_lt hx.1 hx.2]
      | succ k =>
        have := ringGo_bad hR n ((x + 1) % R) ⟨Int.emod_nonneg _ (by (first | lia | omega)), Int.emod_lt_of_pos _ hR⟩ h k (by (first | lia | omega))
        rw [Int.emod_add_emod] at this
        rwa [show x + ((k + 1 : Nat) : Int) = x + 1 + (k : Int) by (first | lia | omega)]
    · rw [if_neg hm] at h
      exact absurd h hm
theorem ringGo_free {R : Int} {taken : List Int} {x : Int} (hR : 0 < R) (hx : 0 ≤ x ∧ x < R) (hl : (taken.length : Int) < R) : (ringGo taken R R.toNat x).1 ∉ taken := by
  intro h
  have hb := ringGo_bad hR R.toNat x hx h
  have : R.toNat ≤ taken.length := pig R.toNat 0 taken fun k hk => by
    have := hb (((k : Int) - x) % R).toNat (by have := Int.emod_lt_of_pos ((k : Int) - x) hR; (first | lia | omega))
    rw [Int.toNat_of_nonneg (Int.emod_nonneg _ (by (first | lia | omega))), Int.add_emod_emod, show x + ((k : Int) - x) = k by (first | lia | omega), Int.emod_eq_of_lt (by (first | lia | omega)) (by (first | lia | omega))] at this
    rwa [Int.zero_add]
  (first | lia | omega)
theorem ringGo_up {R : Int} {taken : List Int} (hg : R - 1 ∉ taken) : ∀ (n : Nat) (x : Int), 0 ≤ x → x < R → (R - 1 - x).toNat ≤ n →
    ∃ k : Int, ringGo taken R n x = (x + k, k) ∧ 0 ≤ k ∧ x + k ≤ R - 1 ∧ x + k ∉ taken ∧ ∀ y, x ≤ y → y < x + k → y ∈ taken
  | 0, x, h0, h1, hn => by
    have : x = R - 1 := by (first | lia | omega)
    refine ⟨0, by rw [Int.add_zero]; rfl, by (first | lia | omega), by (first | lia | omega), by rw [Int.add_zero, this]; exact hg, fun y h1 h2 => by (first | lia | omega)⟩
  | n + 1, x, h0, h1, hn => by
    unfold ringGo
    by_cases hm : x ∈ taken
    · have hx : x ≠ R - 1 := fun e => hg (e ▸ hm)
      obtain ⟨k, e, hk, hle, hf, hall⟩ := ringGo_up hg n (x + 1) (by (first | lia | omega)) (by (first | lia | omega)) (by (first | lia | omega))
      rw [if_pos hm, Int.emod_eq_of_lt (by (first | lia | omega)) (by (first | lia | omega)), e]
      refine ⟨k + 1, by rw [show x + 1 + k = x + (k + 1) by (first | lia | omega)], by (first | lia | omega), by (first | lia | omega), by rwa [show x + (k + 1) = x + 1 + k by (first | lia | omega)], fun y hy1 hy2 => ?_⟩
      by_cases hyx : y = x
      · rw [hyx]; exact hm
      · exact hall y (by (first | lia | omega)) (by (first | lia | omega))
    · rw [if_neg hm]
      exact ⟨0, by rw [Int.add_zero], by (first | lia | omega), by (first | lia | omega), by rwa [Int.add_zero], fun y h1 h2 => by (first | lia | omega)⟩
theorem bisN_cons_lt {y x : Int} {e : List Int} (h : y < x) : bisN (y :: e) x = bisN e x + 1 := by
  unfold bisN; rw [List.takeWhile_cons, if_pos (by simpa using h)]; rfl
theorem bisN_cons_ge {y x : Int} {e : List Int} (h : x ≤ y) : bisN (y :: e) x = 0 := by
  unfold bisN; rw [List.takeWhile_cons, if_neg (by simpa using h)]; rfl
theorem bisN_all {x : Int} : ∀ {e : List Int}, (∀ y ∈ e, y < x) → bisN e x = e.length
  | [], _ => rfl
  | y :: e, h => by rw [bisN_cons_lt (h y (.head _)), bisN_all fun z hz => h z (.tail _ hz)]; rfl
theorem bisN_at {x s' : Int} : ∀ {e : List Int}, e.Pairwise (· < ·) → s' ∈ e → x ≤ s' → (∀ y ∈ e, x ≤ y → s' ≤ y) →
    bisN e x < e.length ∧ e.getD (bisN e x) 0 = s' ∧ e.eraseIdx (bisN e x) = e.filter (fun y => decide (y ≠ s'))
  | [], _, hm, _, _ => by cases hm
  | y :: e, hp, hm, hx, hall => by
    obtain ⟨hp1, hp2⟩ := List.pairwise_cons.mp hp
    by_cases hy : y < x
    · have hm2 : s' ∈ e := by
        rcases List.mem_cons.mp hm with h | h
        · (first | lia | omega)
        · exact h
      obtain ⟨i1, i2, i3⟩ := bisN_at hp2 hm2 hx fun z hz => hall z (.tail _ hz)
      rw [bisN_cons_lt hy]
      refine ⟨by rw [List.length_cons]; (first | lia | omega), by rw [List.getD_cons_succ]; exact i2, ?_⟩
      rw [List.eraseIdx_cons_succ, i3, List.filter_cons, if_pos (by rw [decide_eq_true_eq]; (first | lia | omega))]
    · have hs : s' = y := by
        rcases List.mem_cons.mp hm with h | h
        · exact h
        · have := hp1 s' h; have := hall y (.head _) (by (first | lia | omega)); (first | lia | omega)
      subst hs
      rw [bisN_cons_ge (by (first | lia | omega))]
      refine ⟨by simp, by simp, ?_⟩
      rw [List.eraseIdx_cons_zero, List.filter_cons, if_neg (by simp), List.filter_eq_self.mpr]
      intro z hz
      have := hp1 z hz
      rw [decide_eq_true_eq]; (first | lia | omega)
noncomputable def freeL (taken : List Int) (n : Nat) : List Int := (rangeKs 0 n).filter fun y => decide (y ∉ taken)
theorem mem_freeL {taken : List Int} {n : Nat} {y : Int} : y ∈ freeL taken n ↔ (0 ≤ y ∧ y < n) ∧ y ∉ taken := by
  unfold freeL
  rw [List.mem_filter, decide_eq_true_eq]
  constructor
  · rintro ⟨h1, h2⟩
    have := mem_rangeKs h1
    exact ⟨by (first | lia | omega), h2⟩
  · rintro ⟨h1, h2⟩
    refine ⟨?_, h2⟩
    unfold rangeKs
    exact List.mem_map.mpr ⟨y.toNat, List.mem_range.mpr (by (first | lia | omega)), by (first | lia | omega)⟩
theorem freeL_sorted (taken : List Int) (n : Nat) : (freeL taken n).Pairwise (· < ·) := by
  unfold freeL rangeKs
  refine List.Pairwise.filter _ ?_
  rw [List.pairwise_map]
  exact List.pairwise_lt_range.imp (fun h => by (first | lia | omega))
theorem freeL_snoc (taken : List Int) (n : Nat) (x : Int) : freeL (taken ++ [x]) n = (freeL taken n).filter (fun y => decide (y ≠ x)) := by
  unfold freeL
  rw [List.filter_filter]
  apply List.filter_congr
  intro y _
  simp [and_comm]
theorem ringFold_mem {R y : Int} : ∀ (ws : List Int) (st : List Int × Int), y ∈ st.1 → y ∈ (ws.foldl (ringOne R) st).1
  | [], _, h => h
  | w :: ws, st, h => by
    rw [List.foldl_cons]
    exact ringFold_mem ws _ (List.mem_append_left _ h)
structure Inv (n : Nat) (zs : List (Int × Int)) : Prop where
  nd : (zs.map (·.2)).Nodup
  at' : ∀ z ∈ zs, 0 ≤ z.1 ∧ z.1 ≤ z.2 ∧ z.2 < n ∧ ∀ f : Int, 0 ≤ f → f < n → f ∉ zs.map (·.2) → (f < z.1 ↔ f < z.2)
noncomputable def lagSum : List (Int × Int) → Int
  | [] => 0
  | z :: zs => (z.2 - z.1) + lagSum zs
theorem low_end {n : Nat} {T : List Int} : ∀ (m : Nat) (x : Int), x = m → (∀ y, x ≤ y → y < n → y ∈ T) → ∃ j : Int, 0 ≤ j ∧ j ≤ x ∧ (∀ y, j ≤ y → y < n → y ∈ T) ∧ (j = 0 ∨ j - 1 ∉ T)
  | 0, x, hx, h => ⟨x, by (first | lia | omega), by (first | lia | omega), h, .inl (by (first | lia | omega))⟩
  | m + 1, x, hx, h => by
    by_cases hm : x - 1 ∈ T
    · obtain ⟨j, h1, h2, h3, h4⟩ := low_end m (x - 1) (by (first | lia | omega)) fun y h1 h2 => by
        by_cases hy : y = x - 1
        · rw [hy]; exact hm
        · exact h y (by (first | lia | omega)) h2
      exact ⟨j, h1, by (first | lia | omega), h3, h4⟩
    · exact ⟨x, by (first | lia | omega), by (first | lia | omega), h, .inr hm⟩
theorem park_split {n : Nat} : ∀ (ws : List Int) (zs : List (Int × Int)) (g : Int), (∀ w ∈ ws, 0 ≤ w ∧ w < (n : Int) + 1) → Inv n zs →
    (∃ zs', Inv n (zs ++ zs') ∧ zs'.map (·.1) = ws ∧ ws.foldl (ringOne ((n : Int) + 1)) (zs.map (·.2), g) = ((zs ++ zs').map (·.2), g + lagSum zs') ∧ streetRun ws (freeL (zs.map (·.2)) n) (zs.map (·.2)) = some ((zs ++ zs').map (·.2))) ∨
    ((n : Int) ∈ (ws.foldl (ringOne ((n : Int) + 1)) (zs.map (·.2), g)).1 ∧ streetRun ws (freeL (zs.map (·.2)) n) (zs.map (·.2)) = none ∧ ∃ j : Int, 0 ≤ j ∧ j ≤ n ∧ (n : Int) - j < ((zs.map (·.1) ++ ws).countP fun w => decide (j ≤ w)))
  | [], zs, g, _, I => .inl ⟨[], by rw [List.append_nil]; exact I, rfl, by rw [List.append_nil]; simp [lagSum], by rw [List.append_nil]; rfl⟩
  | x :: ws, zs, g, hw, I => by
    have hx := hw x (.head _)
    have hgate : (n : Int) + 1 - 1 ∉ zs.map (·.2) := by
      intro h
      obtain ⟨z, hz, e⟩ := List.mem_map.mp h
      have := (I.at' z hz).2.2.1
      (first | lia | omega)
    obtain ⟨k, e, hk, hle, hf, hall⟩ := ringGo_up hgate ((n : Int) + 1).toNat x hx.1 hx.2 (by (first | lia | omega))
    have hone : ringOne ((n : Int) + 1) (zs.map (·.2), g) x = ((zs ++ [(x, x + k)]).map (·.2), g + k) := by
      unfold ringOne
      rw [e, List.map_append]; rfl
    by_cases hn : x + k = n
    · right
      refine ⟨?_, ?_, ?_⟩
      · rw [List.foldl_cons, hone]
        exact ringFold_mem _ _ (by rw [List.map_append]; exact List.mem_append_right _ (by simp [hn]))
      · rw [streetRun, if_pos]
        rw [bisN_all]; exact Nat.le_refl _
        intro y hy
        obtain ⟨h1, h2⟩ := mem_freeL.mp hy
        by_cases hxy : y < x
        · exact hxy
        · exact absurd (hall y (by (first | lia | omega)) (by (first | lia | omega))) h2
      · obtain ⟨j, j0, jx, hjT, hj⟩ := low_end (n := n) (T := zs.map (·.2)) x.toNat x (by (first | lia | omega)) fun y h1 h2 => hall y h1 (by (first | lia | omega))
        refine ⟨j, j0, by (first | lia | omega), ?_⟩
        rw [List.countP_append, List.countP_cons, if_pos (by simpa using jx)]
        have key : n - j.toNat ≤ (zs.map (·.1)).countP fun w => decide (j ≤ w) := by
          rcases hj with hj | hj
          · have hp := pig n 0 (zs.map (·.2)) fun i hi => hjT (0 + (i : Int)) (by (first | lia | omega)) (by (first | lia | omega))
            have : (zs.map (·.1)).countP (fun w => decide (j ≤ w)) = (zs.map (·.1)).length := by
              rw [List.countP_eq_length]
              intro w hw
              obtain ⟨z, hz, rfl⟩ := List.mem_map.mp hw
              have := (I.at' z hz).1
              rw [decide_eq_true_eq]; (first | lia | omega)
            rw [this]
            rw [List.length_map] at hp ⊢
            (first | lia | omega)
          · have h1 : (zs.map (·.1)).countP (fun w => decide (j ≤ w)) = (zs.map (·.2)).countP (fun w => decide (j ≤ w)) := by
              rw [List.countP_map, List.countP_map]
              apply List.countP_congr
              intro z hz
              by_cases hj0 : j = 0
              · have := I.at' z hz
                simp only [Function.comp, decide_eq_true_eq]; (first | lia | omega)
              · have := (I.at' z hz).2.2.2 (j - 1) (by (first | lia | omega)) (by (first | lia | omega)) hj
                simp only [Function.comp, decide_eq_true_eq]; (first | lia | omega)
            rw [h1, List.countP_eq_length_filter]
            refine pig (n - j.toNat) j _ fun i hi => ?_
            rw [List.mem_filter, decide_eq_true_eq]
            exact ⟨hjT (j + (i : Int)) (by (first | lia | omega)) (by (first | lia | omega)), by (first | lia | omega)⟩
        (first | lia | omega)
    · have hs : x + k < n := by (first | lia | omega)
      have hnew : ∀ f : Int, f ∉ (zs ++ [(x, x + k)]).map (·.2) → f ∉ zs.map (·.2) ∧ f ≠ x + k := by
        intro f h
        rw [List.map_append, List.mem_append, not_or] at h
        exact ⟨h.1, fun e => h.2 (by simp [e])⟩
      have I2 : Inv n (zs ++ [(x, x + k)]) := by
        refine ⟨?_, ?_⟩
        · rw [List.map_append, List.nodup_append]
          refine ⟨I.nd, by simp, ?_⟩
          intro a ha b hb e
          rw [show b = x + k by simpa using hb] at e
          exact hf (e ▸ ha)
        · intro z hz
          rcases List.mem_append.mp hz with hz | hz
          · obtain ⟨i1, i2, i3, i4⟩ := I.at' z hz
            exact ⟨i1, i2, i3, fun f f0 fn h => i4 f f0 fn (hnew f h).1⟩
          · rw [List.mem_singleton.mp hz]
            refine ⟨hx.1, by show x ≤ x + k; (first | lia | omega), hs, fun f f0 fn h => ?_⟩
            obtain ⟨h1, h2⟩ := hnew f h
            show f < x ↔ f < x + k
            constructor
            · intro; (first | lia | omega)
            · intro h3
              by_cases hfx : f < x
              · exact hfx
              · exact absurd (hall f (by (first | lia | omega)) h3) h1
      have hmemf : x + k ∈ freeL (zs.map (·.2)) n := mem_freeL.mpr ⟨by (first | lia | omega), hf⟩
      obtain ⟨b1, b2, b3⟩ := bisN_at (freeL_sorted (zs.map (·.2)) n) hmemf (x := x) (by (first | lia | omega)) fun y hy hxy => by
        by_cases h : x + k ≤ y
        · exact h
        · exact absurd (hall y hxy (by (first | lia | omega))) (mem_freeL.mp hy).2
      have hst : streetRun (x :: ws) (freeL (zs.map (·.2)) n) (zs.map (·.2)) = streetRun ws (freeL ((zs ++ [(x, x + k)]).map (·.2)) n) ((zs ++ [(x, x + k)]).map (·.2)) := by
        rw [streetRun, if_neg (by (first | lia | omega)), b2, b3, List.map_append]
        show _ = streetRun ws (freeL (zs.map (·.2) ++ [x + k]) n) (zs.map (·.2) ++ [x + k])
        rw [freeL_snoc]
      rw [List.foldl_cons, hone, hst]
      rcases park_split ws (zs ++ [(x, x + k)]) (g + k) (fun w h => hw w (.tail _ h)) I2 with ⟨zs', i1, i2, i3, i4⟩ | ⟨i1, i2, j, i3, i4, i5⟩
      · left
        refine ⟨(x, x + k) :: zs', by rw [List.append_assoc] at i1; exact i1, by rw [List.map_cons, i2], ?_, ?_⟩
        · rw [i3, List.append_assoc]
          refine Prod.ext rfl ?_
          show g + k + lagSum zs' = g + ((x + k - x) + lagSum zs')
          (first | lia | omega)
        · rw [i4, List.append_assoc]; rfl
      · right
        refine ⟨i1, i2, j, i3, i4, ?_⟩
        rw [List.map_append, List.append_assoc] at i5
        exact i5
theorem Inv.count {n : Nat} {zs : List (Int × Int)} (I : Inv n zs) (j : Int) (h0 : 0 ≤ j) (hn : j ≤ n) : (((zs.map (·.1)).countP fun w => decide (j ≤ w)) : Int) ≤ n - j := by
  have h1 : (zs.map (·.1)).countP (fun w => decide (j ≤ w)) ≤ (zs.map (·.2)).countP (fun w => decide (j ≤ w)) := by
    rw [List.countP_map, List.countP_map]
    apply List.countP_mono_left
    intro z hz h
    have := I.at' z hz
    simp only [Function.comp, decide_eq_true_eq] at *
    (first | lia | omega)
  have h2 : (zs.map (·.2)).countP (fun w => decide (j ≤ w)) ≤ n - j.toNat := by
    rw [List.countP_eq_length_filter]
    refine pig2 _ j _ (I.nd.filter _) fun y hy => ?_
    rw [List.mem_filter, decide_eq_true_eq] at hy
    obtain ⟨z, hz, rfl⟩ := List.mem_map.mp hy.1
    have := I.at' z hz
    exact ⟨hy.2, by (first | lia | omega)⟩
  (first | lia | omega)
/-- the two ways of a ring of n + 1 spots whose gate is spot n -/
theorem park_main {n : Nat} {ws : List Int} (hw : ∀ w ∈ ws, 0 ≤ w ∧ w < (n : Int) + 1) :
    (∃ zs, Inv n zs ∧ zs.map (·.1) = ws ∧ ringSt ((n : Int) + 1) ws = (zs.map (·.2), lagSum zs) ∧ streetRun ws (rangeKs 0 n) [] = some (zs.map (·.2)) ∧ (n : Int) ∉ (ringSt ((n : Int) + 1) ws).1 ∧ ∀ j : Int, 0 ≤ j → j ≤ n → ((ws.countP fun w => decide (j ≤ w)) : Int) ≤ n - j) ∨
    ((n : Int) ∈ (ringSt ((n : Int) + 1) ws).1 ∧ streetRun ws (rangeKs 0 n) [] = none ∧ ∃ j : Int, 0 ≤ j ∧ j ≤ n ∧ (n : Int) - j < (ws.countP fun w => decide (j ≤ w))) := by
  have hfree : freeL [] n = rangeKs 0 n := by unfold freeL; exact List.filter_eq_self.mpr fun _ _ => by simp
  rcases park_split ws [] 0 hw ⟨.nil, fun _ h => by cases h⟩ with ⟨zs', i1, i2, i3, i4⟩ | ⟨i1, i2, j, i3, i4, i5⟩
  · left
    rw [List.map_nil, hfree] at i4
    refine ⟨zs', i1, i2, by rw [ringSt]; exact i3.trans (by simp), i4, ?_, ?_⟩
    · rw [show ringSt ((n : Int) + 1) ws = _ from i3]
      intro h
      obtain ⟨z, hz, e⟩ := List.mem_map.mp h
      have := (i1.at' z hz).2.2.1
      (first | lia | omega)
    · rw [← i2]; exact fun j => i1.count j
  · right
    rw [List.map_nil, hfree] at i2
    exact ⟨i1, i2, j, i3, i4, i5⟩
end
section
noncomputable def insOne (xs : List Int) (x : Int) : List Int := xs.take (bisN xs x) ++ x :: xs.drop (bisN xs x)
noncomputable def rowOf (ws : List Int) : List Int := ws.foldl insOne []
theorem insOne_lt {y x : Int} {e : List Int} (h : y < x) : insOne (y :: e) x = y :: insOne e x := by
  unfold insOne; rw [bisN_cons_lt h]; rfl
theorem insOne_ge {y x : Int} {e : List Int} (h : x ≤ y) : insOne (y :: e) x = x :: y :: e := by
  unfold insOne; rw [bisN_cons_ge h]; rfl
theorem insOne_perm (xs : List Int) (x : Int) : (insOne xs x).Perm (x :: xs) := by
  unfold insOne
  refine List.perm_middle.trans ?_
  rw [List.take_append_drop]
theorem insOne_sorted {x : Int} : ∀ {e : List Int}, e.Pairwise (· ≤ ·) → (insOne e x).Pairwise (· ≤ ·)
  | [], _ => by simp [insOne, bisN]
  | y :: e, hp => by
    obtain ⟨h1, h2⟩ := List.pairwise_cons.mp hp
    by_cases hy : y < x
    · rw [insOne_lt hy, List.pairwise_cons]
      refine ⟨fun z hz => ?_, insOne_sorted h2⟩
      rcases List.mem_cons.mp ((insOne_perm e x).mem_iff.mp hz) with h | h
      · (first | lia | omega)
      · exact h1 z h
    · rw [insOne_ge (by (first | lia | omega)), List.pairwise_cons]
      refine ⟨fun z hz => ?_, hp⟩
      rcases List.mem_cons.mp hz with h | h
      · (first | lia | omega)
      · have := h1 z h; (first | lia | omega)
theorem rowFold : ∀ (ws r : List Int), r.Pairwise (· ≤ ·) → (ws.foldl insOne r).Pairwise (· ≤ ·) ∧ (ws.foldl insOne r).Perm (ws ++ r)
  | [], r, h => ⟨h, .refl _⟩
  | w :: ws, r, h => by
    obtain ⟨i1, i2⟩ := rowFold ws (insOne r w) (insOne_sorted h)
    refine ⟨i1, i2.trans ?_⟩
    refine ((List.Perm.append_left ws (insOne_perm r w))).trans ?_
    rw [List.cons_append]
    exact List.perm_middle
theorem row_sorted (ws : List Int) : (rowOf ws).Pairwise (· ≤ ·) := (rowFold ws [] .nil).1
theorem row_perm (ws : List Int) : (rowOf ws).Perm ws := by have := (rowFold ws [] .nil).2; rwa [List.append_nil] at this
theorem rowOf_succ {ws : List Int} {i : Nat} {x : Int} (h : ws[i]? = some x) : rowOf (ws.take (i + 1)) = insOne (rowOf (ws.take i)) x := by
  unfold rowOf
  rw [List.take_add_one, h, Option.toList_some, List.foldl_append]; rfl
theorem bisN_is {x : Int} : ∀ {e : List Int}, e.Pairwise (· ≤ ·) → IsBis e x (bisN e x)
  | [], _ => ⟨Nat.le_refl _, (fun i h => by cases h), (fun i _ h => by cases h)⟩
  | y :: e, hp => by
    obtain ⟨h1, h2⟩ := List.pairwise_cons.mp hp
    by_cases hy : y < x
    · obtain ⟨i1, i2, i3⟩ := bisN_is (x := x) h2
      rw [bisN_cons_lt hy]
      refine ⟨by rw [List.length_cons]; (first | lia | omega), fun i hi => ?_, fun i hi hl => ?_⟩
      · cases i with
        | zero => exact hy
        | succ i => rw [List.getD_cons_succ]; exact i2 i (by (first | lia | omega))
      · cases i with
        | zero => (first | lia | omega)
        | succ i => rw [List.getD_cons_succ]; exact i3 i (by (first | lia | omega)) (by rw [List.length_cons] at hl; (first | lia | omega))
    · rw [bisN_cons_ge (by (first | lia | omega))]
      refine ⟨Nat.zero_le _, fun i h => by (first | lia | omega), fun i _ hl => ?_⟩
      cases i with
      | zero => rw [List.getD_cons_zero]; (first | lia | omega)
      | succ i =>
        rw [List.getD_cons_succ]
        have hl2 : i < e.length := by rw [List.length_cons] at hl; (first | lia | omega)
        have hm : e.getD i 0 ∈ e := by rw [List.getD_eq_getElem?_getD, List.getElem?_eq_getElem hl2]; exact List.getElem_mem hl2
        have := h1 _ hm
        (first | lia | omega)
theorem count_sorted {j : Int} : ∀ {e : List Int}, e.Pairwise (· ≤ ·) → e.countP (fun w => decide (j ≤ w)) = e.length - bisN e j
  | [], _ => rfl
  | y :: e, hp => by
    obtain ⟨h1, h2⟩ := List.pairwise_cons.mp hp
    by_cases hy : y < j
    · rw [bisN_cons_lt hy, List.countP_cons_of_neg (by rw [decide_eq_true_eq]; (first | lia | omega)), count_sorted h2, List.length_cons]
      (first | lia | omega)
    · rw [bisN_cons_ge (by (first | lia | omega)), Nat.sub_zero, List.countP_eq_length]
      intro z hz
      rw [decide_eq_true_eq]
      rcases List.mem_cons.mp hz with h | h
      · (first | lia | omega)
      · have := h1 z h; (first | lia | omega)
noncomputable def Crit (n : Nat) (row : List Int) : Prop := ∀ k : Nat, k < row.length → row.getD k 0 ≤ (n : Int) - row.length + k
theorem getD_mem {row : List Int} {k : Nat} (h : k < row.length) : row.getD k 0 ∈ row := by
  rw [List.getD_eq_getElem?_getD, List.getElem?_eq_getElem h]; exact List.getElem_mem h
theorem bis_le {row : List Int} (hs : row.Pairwise (· ≤ ·)) {k : Nat} : bisN row (row.getD k 0) ≤ k := by
  obtain ⟨_, i2, _⟩ := bisN_is (x := row.getD k 0) hs
  by_cases h : bisN row (row.getD k 0) ≤ k
  · exact h
  · have := i2 k (by (first | lia | omega)); (first | lia | omega)
theorem crit_count {n : Nat} {row : List Int} (hs : row.Pairwise (· ≤ ·)) (hr : ∀ w ∈ row, 0 ≤ w ∧ w ≤ n) :
    (∀ j : Int, 0 ≤ j → j ≤ n → ((row.countP fun w => decide (j ≤ w)) : Int) ≤ n - j) ↔ Crit n row := by
  constructor
  · intro h k hk
    have hm := hr _ (getD_mem hk)
    have h1 := h _ hm.1 hm.2
    rw [count_sorted hs] at h1
    have := bis_le hs (k := k)
    (first | lia | omega)
  · intro h j j0 jn
    rw [count_sorted hs]
    obtain ⟨i1, i2, i3⟩ := bisN_is (x := j) hs
    by_cases hk : bisN row j < row.length
    · have := h _ hk
      have := i3 _ (Nat.le_refl _) hk
      (first | lia | omega)
    · (first | lia | omega)
theorem crit_bis {n : Nat} {row : List Int} (hs : row.Pairwise (· ≤ ·)) :
    (∀ w ∈ row, (row.length : Int) - bisN row w + w ≤ n) ↔ Crit n row := by
  constructor
  · intro h k hk
    have h1 := h _ (getD_mem hk)
    have := bis_le hs (k := k)
    (first | lia | omega)
  · intro h w hw
    obtain ⟨i1, i2, i3⟩ := bisN_is (x := w) hs
    have hk : bisN row w < row.length := by
      obtain ⟨k, hk, e⟩ := List.getElem_of_mem hw
      by_cases hlt : bisN row w < row.length
      · exact hlt
      · have := i2 k (by (first | lia | omega))
        rw [List.getD_eq_getElem?_getD, List.getElem?_eq_getElem hk, e] at this
        simp at this
    have := h _ hk
    have := i3 _ (Nat.le_refl _) hk
    (first | lia | omega)
theorem row_count (ws : List Int) (j : Int) : (rowOf ws).countP (fun w => decide (j ≤ w)) = ws.countP (fun w => decide (j ≤ w)) := (row_perm ws).countP_eq _
/-- at a gate n: all park, told of the sorted row -/
theorem park_row {n : Nat} {ws : List Int} (hw : ∀ w ∈ ws, 0 ≤ w ∧ w < (n : Int) + 1) : ((n : Int) ∉ (ringSt ((n : Int) + 1) ws).1) ↔ Crit n (rowOf ws) := by
  rw [← crit_count (row_sorted ws) (fun w h => by have := hw w ((row_perm ws).mem_iff.mp h); (first | lia | omega))]
  simp only [row_count]
  rcases park_main hw with ⟨zs, _, _, _, _, h5, h6⟩ | ⟨h1, _, j, j0, jn, hlt⟩
  · exact ⟨fun _ => h6, fun _ => h5⟩
  · exact ⟨fun h => absurd h1 h, fun h => absurd (h j j0 jn) (by (first | lia | omega))⟩
end
section
open PySem.StrLaws PySem.Builtin.Str
noncomputable def leadN (ns : List Nat) : List Nat := ns.flatMap fun r => List.replicate r 32 ++ [9]
theorem leadL_N (rs : List Int) : leadL rs = leadN (rs.map Int.toNat) := by
  unfold leadL leadN; rw [List.flatMap_map]
noncomputable def bnd (ns : List Nat) (m : Nat) : Nat := (leadN (ns.take m)).length
theorem leadN_cons (r : Nat) (ns : List Nat) : leadN (r :: ns) = List.replicate r 32 ++ 9 :: leadN ns := by
  unfold leadN; rw [List.flatMap_cons, List.append_assoc]; rfl
theorem bnd_zero (ns : List Nat) : bnd ns 0 = 0 := rfl
theorem bnd_cons (r : Nat) (ns : List Nat) (m : Nat) : bnd (r :: ns) (m + 1) = r + 1 + bnd ns m := by
  unfold bnd; rw [List.take_succ_cons, leadN_cons]; simp; (first | lia | omega)
theorem bnd_succ : ∀ (ns : List Nat) (m : Nat), m < ns.length → bnd ns (m + 1) = bnd ns m + ns.getD m 0 + 1
  | [], _, h => by cases h
  | r :: ns, 0, _ => by rw [bnd_cons, bnd_zero, bnd_zero]; simp
  | r :: ns, m + 1, h => by
    rw [bnd_cons, bnd_succ ns m (by simpa using h), bnd_cons, List.getD_cons_succ]; (first | lia | omega)
theorem bnd_len (ns : List Nat) : bnd ns ns.length = (leadN ns).length := by unfold bnd; rw [List.take_length]
theorem bnd_lt {ns : List Nat} {a : Nat} : ∀ {b : Nat}, a < b → b ≤ ns.length → bnd ns a < bnd ns b
  | 0, h, _ => by (first | lia | omega)
  | b + 1, h, hb => by
    rw [bnd_succ ns b (by (first | lia | omega))]
    by_cases e : a = b
    · subst e; (first | lia | omega)
    · have := bnd_lt (ns := ns) (a := a) (b := b) (by (first | lia | omega)) (by (first | lia | omega)); (first | lia | omega)
theorem bnd_lt_rev {ns : List Nat} {a b : Nat} (h : bnd ns a < bnd ns b) (ha : a ≤ ns.length) : a < b := by
  by_cases hab : a < b
  · exact hab
  · by_cases e : a = b
    · subst e; (first | lia | omega)
    · have := bnd_lt (ns := ns) (a := b) (b := a) (by (first | lia | omega)) ha; (first | lia | omega)
theorem lead_at : ∀ (ns : List Nat) (m r : Nat), m < ns.length → r ≤ ns.getD m 0 → (leadN ns)[bnd ns m + r]? = some (if r = ns.getD m 0 then 9 else 32)
  | [], _, _, h, _ => by cases h
  | a :: ns, 0, r, _, hr => by
    rw [List.getD_cons_zero] at *
    rw [bnd_zero, Nat.zero_add, leadN_cons]
    by_cases e : r = a
    · subst e
      rw [if_pos rfl, List.getElem?_append_right (by simp)]; simp
    · rw [if_neg e, List.getElem?_append_left (by simp; (first | lia | omega)), List.getElem?_replicate, if_pos (by (first | lia | omega))]
  | a :: ns, m + 1, r, hm, hr => by
    rw [List.getD_cons_succ] at *
    have ih := lead_at ns m r (by simpa using hm) hr
    rw [← ih, leadN_cons, bnd_cons, List.getElem?_append_right (by simp; (first | lia | omega)), List.length_replicate, show a + 1 + bnd ns m + r - a = (bnd ns m + r) + 1 by (first | lia | omega), List.getElem?_cons_succ]
theorem locate : ∀ (ns : List Nat) (j : Nat), j < (leadN ns).length → ∃ m r, m < ns.length ∧ r ≤ ns.getD m 0 ∧ j = bnd ns m + r
  | [], j, h => by cases h
  | a :: ns, j, h => by
    by_cases hj : j ≤ a
    · exact ⟨0, j, by simp, by simpa using hj, by rw [bnd_zero]; (first | lia | omega)⟩
    · rw [leadN_cons] at h
      simp at h
      obtain ⟨m, r, h1, h2, h3⟩ := locate ns (j - (a + 1)) (by (first | lia | omega))
      exact ⟨m + 1, r, by simpa using h1, by simpa using h2, by rw [bnd_cons]; (first | lia | omega)⟩
theorem lead_one (w : Int) : (leadS [w]).cps.toList = List.replicate w.toNat 32 ++ [9] := by
  unfold leadS leadL; simp
theorem lead_one_len (w : Int) : (leadS [w]).length = w.toNat + 1 := by
  have := congrArg List.length (lead_one w)
  simpa [Str.length] using this
theorem piece_at (w t : Nat) (h : t ≤ w) : (List.replicate w 32 ++ [9])[t]? = some (if t = w then 9 else 32) := by
  by_cases e : t = w
  · subst e; rw [if_pos rfl, List.getElem?_append_right (by simp)]; simp
  · rw [if_neg e, List.getElem?_append_left (by simp; (first | lia | omega)), List.getElem?_replicate, if_pos (by (first | lia | omega))]
theorem sub_of {rs : List Int} {w : Int} {i : Nat} : subAt (leadS rs) (leadS [w]) i = true ↔ ((leadN (rs.map Int.toNat)).drop i).take (w.toNat + 1) = List.replicate w.toNat 32 ++ [9] := by
  rw [subAt_eq, lead_one, lead_one_len, beq_iff_eq, show (leadS rs).cps.toList = leadL rs by unfold leadS; simp, leadL_N]
theorem at_only {rs : List Int} {w : Int} {i : Nat} (h : subAt (leadS rs) (leadS [w]) i = true) :
    ∃ m, m < rs.length ∧ i + w.toNat + 1 = bnd (rs.map Int.toNat) (m + 1) ∧ w.toNat ≤ (rs.map Int.toNat).getD m 0 := by
  rw [sub_of] at h
  have hl : (rs.map Int.toNat).length = rs.length := by simp
  generalize rs.map Int.toNat = ns at *
  generalize w.toNat = w at *
  have hc : ∀ t, t ≤ w → (leadN ns)[i + t]? = some (if t = w then 9 else 32) := by
    intro t ht
    rw [← piece_at w t ht, ← h, List.getElem?_take, if_pos (by (first | lia | omega)), List.getElem?_drop]
  have hw := hc w (Nat.le_refl _)
  rw [if_pos rfl] at hw
  obtain ⟨hlt, _⟩ := List.getElem?_eq_some_iff.mp hw
  obtain ⟨m, r, h1, h2, h3⟩ := locate ns (i + w) hlt
  rw [h3, lead_at ns m r h1 h2] at hw
  have hr : r = ns.getD m 0 := by
    by_cases e : r = ns.getD m 0
    · exact e
    · rw [if_neg e] at hw; simp at hw
  refine ⟨m, by (first | lia | omega), by rw [bnd_succ ns m h1]; (first | lia | omega), ?_⟩
  by_cases hle : w ≤ ns.getD m 0
  · exact hle
  · exfalso
    cases m with
    | zero => rw [bnd_zero] at h3; (first | lia | omega)
    | succ m =>
      have hb := bnd_succ ns m (by (first | lia | omega))
      have hx := lead_at ns m (ns.getD m 0) (by (first | lia | omega)) (Nat.le_refl _)
      rw [if_pos rfl] at hx
      have hy := hc (bnd ns (m + 1) - 1 - i) (by (first | lia | omega))
      rw [if_neg (by (first | lia | omega)), show i + (bnd ns (m + 1) - 1 - i) = bnd ns m + ns.getD m 0 by (first | lia | omega), hx] at hy
      simp at hy
theorem at_of {rs : List Int} {w : Int} {m : Nat} (hm : m < rs.length) (hw : w.toNat ≤ (rs.map Int.toNat).getD m 0) :
    subAt (leadS rs) (leadS [w]) (bnd (rs.map Int.toNat) m + (rs.map Int.toNat).getD m 0 - w.toNat) = true := by
  rw [sub_of]
  have hl : (rs.map Int.toNat).length = rs.length := by simp
  generalize rs.map Int.toNat = ns at *
  generalize w.toNat = w at *
  apply List.ext_getElem?
  intro t
  by_cases ht : t ≤ w
  · rw [piece_at w t ht, List.getElem?_take, if_pos (by (first | lia | omega)), List.getElem?_drop, show bnd ns m + ns.getD m 0 - w + t = bnd ns m + (ns.getD m 0 - w + t) by (first | lia | omega), lead_at ns m _ (by (first | lia | omega)) (by (first | lia | omega))]
    by_cases e : t = w
    · rw [if_pos (by (first | lia | omega)), if_pos e]
    · rw [if_neg (by (first | lia | omega)), if_neg e]
  · rw [List.getElem?_take, if_neg (by (first | lia | omega)), List.getElem?_eq_none (by simp; (first | lia | omega))]
theorem occ_hi (x y : Str) (lo hi : Nat) :
    (occurrences x y lo hi 1 = [] ∧ ∀ i, lo ≤ i → ¬ At x y hi i) ∨
    ∃ i r, occurrences x y lo hi 1 = i :: r ∧ lo ≤ i ∧ At x y hi i ∧ ∀ k, lo ≤ k → k < i → ¬ At x y hi k := by
  rw [occ_eq]
  rcases occ_first x y hi 1 (Nat.le_refl _) (List.range' lo (hi + 1 - lo)) lo (fun i hi => by have := List.mem_range'_1.mp hi; (first | lia | omega)) with ⟨h0, hn⟩ | ⟨pre, a, post, e, h0, ha, hn⟩
  · refine .inl ⟨by rw [h0], fun i hlo hi => ?_⟩
    exact hn i (by have := hi.1; rw [List.mem_range'_1]; (first | lia | omega)) hi
  · have hs := range'_split_from e
    generalize (forIn (List.range' lo (hi + 1 - lo)) ((#[] : Array Nat), lo) (occBody x y hi 1)).run.fst = arr at *
    have h1 : arr.toList[0]? = some a := by simpa using h0
    cases hL : arr.toList with
    | nil => rw [hL] at h1; cases h1
    | cons b t => rw [hL] at h1; simp at h1; subst h1; exact .inr ⟨b, t, rfl, hs.1, ha, fun k hk0 hk => hn k (hs.2 k hk0 hk)⟩
theorem find4_spec (x y : Str) (p h : Nat) (hh : h ≤ x.length) :
    (find4 x y p h = -1 ∧ ∀ i : Nat, p ≤ i → ¬ At x y h i) ∨ ∃ i : Nat, find4 x y p h = i ∧ p ≤ i ∧ At x y h i ∧ ∀ k : Nat, p ≤ k → k < i → ¬ At x y h k := by
  have e1 : fromIndex x.length (p : Int) = p := by unfold fromIndex; rw [if_neg (by (first | lia | omega))]; (first | lia | omega)
  have e2 : min (fromIndex x.length (h : Int)) x.length = h := by unfold fromIndex; rw [if_neg (by (first | lia | omega))]; (first | lia | omega)
  unfold find4
  rw [e1, e2]
  rcases occ_hi x y p h with ⟨h1, h2⟩ | ⟨i, r, h1, h2, h3, h4⟩
  · rw [h1]; exact .inl ⟨rfl, h2⟩
  · rw [h1]; exact .inr ⟨i, rfl, h2, h3, h4⟩
theorem find_in {rs : List Int} {w : Int} {m h : Nat} (hh : h ≤ (leadS rs).length) (hm : m < rs.length) (hw : w.toNat ≤ (rs.map Int.toNat).getD m 0) (hb : bnd (rs.map Int.toNat) (m + 1) ≤ h) :
    0 ≤ find4 (leadS rs) (leadS [w]) (bnd (rs.map Int.toNat) m) h ∧ find4 (leadS rs) (leadS [w]) (bnd (rs.map Int.toNat) m) h + (leadS [w]).length = bnd (rs.map Int.toNat) (m + 1) := by
  have hl : (rs.map Int.toNat).length = rs.length := by simp
  have hs := bnd_succ (rs.map Int.toNat) m (by (first | lia | omega))
  have h0 : At (leadS rs) (leadS [w]) h (bnd (rs.map Int.toNat) m + (rs.map Int.toNat).getD m 0 - w.toNat) := ⟨by rw [lead_one_len]; (first | lia | omega), at_of hm hw⟩
  rcases find4_spec (leadS rs) (leadS [w]) (bnd (rs.map Int.toNat) m) h hh with ⟨_, h2⟩ | ⟨i, h1, h2, h3, h4⟩
  · exact absurd h0 (h2 _ (by (first | lia | omega)))
  · rw [h1, lead_one_len]
    refine ⟨by (first | lia | omega), ?_⟩
    have hle : i ≤ bnd (rs.map Int.toNat) m + (rs.map Int.toNat).getD m 0 - w.toNat := by
      by_cases hlt : i ≤ bnd (rs.map Int.toNat) m + (rs.map Int.toNat).getD m 0 - w.toNat
      · exact hlt
      · exact absurd h0 (h4 _ (by (first | lia | omega)) (by (first | lia | omega)))
    obtain ⟨m', g1, g2, g3⟩ := at_only h3.2
    have : m < m' + 1 := bnd_lt_rev (ns := rs.map Int.toNat) (by (first | lia | omega)) (by (first | lia | omega))
    by_cases e : m' = m
    · subst e; (first | lia | omega)
    · have := bnd_lt (ns := rs.map Int.toNat) (a := m + 1) (b := m' + 1) (by (first | lia | omega)) (by (first | lia | omega))
      (first | lia | omega)
theorem find_only {rs : List Int} {w : Int} {m h : Nat} (hh : h ≤ (leadS rs).length) (hm : m ≤ rs.length) (hf : ¬ find4 (leadS rs) (leadS [w]) (bnd (rs.map Int.toNat) m) h < 0) :
    ∃ m', m ≤ m' ∧ m' < rs.length ∧ find4 (leadS rs) (leadS [w]) (bnd (rs.map Int.toNat) m) h + (leadS [w]).length = bnd (rs.map Int.toNat) (m' + 1) ∧ w.toNat ≤ (rs.map Int.toNat).getD m' 0 ∧ bnd (rs.map Int.toNat) (m' + 1) ≤ h := by
  have hl : (rs.map Int.toNat).length = rs.length := by simp
  rcases find4_spec (leadS rs) (leadS [w]) (bnd (rs.map Int.toNat) m) h hh with ⟨h1, h2⟩ | ⟨i, h1, h2, h3, h4⟩
  · (first | lia | omega)
  · obtain ⟨m', g1, g2, g3⟩ := at_only h3.2
    have h31 := h3.1
    rw [lead_one_len] at h31
    refine ⟨m', ?_, g1, by rw [h1, lead_one_len]; (first | lia | omega), g3, by (first | lia | omega)⟩
    have := bnd_lt_rev (ns := rs.map Int.toNat) (a := m) (b := m' + 1) (by (first | lia | omega)) (by (first | lia | omega))
    (first | lia | omega)
theorem scan_in {rs : List Int} {h : Nat} (hh : h ≤ (leadS rs).length) : ∀ (ws : List Int) (m : Nat), m + ws.length ≤ rs.length → bnd (rs.map Int.toNat) (m + ws.length) ≤ h →
    (∀ k : Nat, k < ws.length → (ws.getD k 0).toNat ≤ (rs.map Int.toNat).getD (m + k) 0) → ellScan (leadS rs) h (ws.map fun w => leadS [w]) (bnd (rs.map Int.toNat) m) = true
  | [], _, _, _, _ => rfl
  | w :: ws, m, hl, hb, hw => by
    rw [List.length_cons] at hl hb hw
    have hl2 : (rs.map Int.toNat).length = rs.length := by simp
    have hb1 : bnd (rs.map Int.toNat) (m + 1) ≤ h := by
      by_cases e : ws.length = 0
      · rw [e] at hb; exact hb
      · have := bnd_lt (ns := rs.map Int.toNat) (a := m + 1) (b := m + (ws.length + 1)) (by (first | lia | omega)) (by (first | lia | omega))
        (first | lia | omega)
    obtain ⟨f1, f2⟩ := find_in hh (m := m) (w := w) (by (first | lia | omega)) (hw 0 (by (first | lia | omega))) hb1
    rw [List.map_cons, ellScan, if_neg (by (first | lia | omega)), f2]
    refine scan_in hh ws (m + 1) (by (first | lia | omega)) (by rw [show m + 1 + ws.length = m + (ws.length + 1) by (first | lia | omega)]; exact hb) fun k hk => ?_
    have := hw (k + 1) (by (first | lia | omega))
    rwa [List.getD_cons_succ, show m + (k + 1) = m + 1 + k by (first | lia | omega)] at this
theorem scan_only {rs : List Int} {h : Nat} (hh : h < (leadS rs).length) : ∀ (ws : List Int) (m : Nat), m + 1 ≤ rs.length → ellScan (leadS rs) h (ws.map fun w => leadS [w]) (bnd (rs.map Int.toNat) m) = true →
    m + ws.length + 1 ≤ rs.length ∧ (m + ws.length + 1 = rs.length → ∀ k : Nat, k < ws.length → (ws.getD k 0).toNat ≤ (rs.map Int.toNat).getD (m + k) 0)
  | [], m, hm, _ => ⟨by simpa using hm, fun _ k hk => by cases hk⟩
  | w :: ws, m, hm, hs => by
    have hl2 : (rs.map Int.toNat).length = rs.length := by simp
    have hlen : (leadS rs).length = bnd (rs.map Int.toNat) rs.length := by
      rw [← hl2, bnd_len, ← leadL_N]; unfold leadS; simp [Str.length]
    rw [List.map_cons, ellScan] at hs
    by_cases hf : find4 (leadS rs) (leadS [w]) (bnd (rs.map Int.toNat) m) h < 0
    · rw [if_pos hf] at hs; cases hs
    · rw [if_neg hf] at hs
      obtain ⟨m', g1, g2, g3, g4, g5⟩ := find_only (by (first | lia | omega)) (by (first | lia | omega)) hf
      rw [g3] at hs
      have hm' : m' + 1 < rs.length := by
        by_cases e : m' + 1 = rs.length
        · rw [e] at g5; (first | lia | omega)
        · (first | lia | omega)
      obtain ⟨i1, i2⟩ := scan_only hh ws (m' + 1) (by (first | lia | omega)) hs
      rw [List.length_cons]
      refine ⟨by (first | lia | omega), fun he k hk => ?_⟩
      have e : m' = m := by (first | lia | omega)
      subst e
      cases k with
      | zero => exact g4
      | succ k =>
        have := i2 (by (first | lia | omega)) k (by (first | lia | omega))
        rwa [List.getD_cons_succ, show m' + (k + 1) = m' + 1 + k by (first | lia | omega)]
theorem ell_crit {n : Nat} {row : List Int} {wl : Int} (hl : row.length + 1 ≤ n) (hr : ∀ w ∈ row ++ [wl], 0 ≤ w) :
    ellB (leadS (rangeKs ((n : Int) - (row ++ [wl]).length) (row ++ [wl]).length)) (row.map fun w => leadS [w]) (leadS [wl]) = true ↔ Crit n (row ++ [wl]) := by
  have hc : (row ++ [wl]).length = row.length + 1 := by simp
  rw [hc]
  generalize hrs : rangeKs ((n : Int) - ((row.length + 1 : Nat) : Int)) (row.length + 1) = rs
  have hlen : rs.length = row.length + 1 := by rw [← hrs, rangeKs_length]
  have hget : ∀ k, k < row.length + 1 → (rs.map Int.toNat).getD k 0 = n - (row.length + 1) + k := by
    intro k hk
    rw [← hrs]
    unfold rangeKs
    rw [List.map_map, List.getD_eq_getElem?_getD, List.getElem?_map, List.getElem?_range hk]
    simp
    (first | lia | omega)
  have hl2 : (rs.map Int.toNat).length = rs.length := by simp
  have hlenS : (leadS rs).length = bnd (rs.map Int.toNat) rs.length := by
    rw [← hl2, bnd_len, ← leadL_N]; unfold leadS; simp [Str.length]
  have hlast := bnd_succ (rs.map Int.toNat) row.length (by (first | lia | omega))
  have hge : ∀ k, k < row.length → (row ++ [wl]).getD k 0 = row.getD k 0 := fun k hk => by
    rw [List.getD_eq_getElem?_getD, List.getD_eq_getElem?_getD, List.getElem?_append_left hk]
  have hge2 : (row ++ [wl]).getD row.length 0 = wl := by
    rw [List.getD_eq_getElem?_getD, List.getElem?_append_right (Nat.le_refl _)]; simp
  have hwl0 := hr wl (by simp)
  have hends : Txt.endswith (leadS rs) (leadS [wl]) = true ↔ wl.toNat ≤ (rs.map Int.toNat).getD row.length 0 := by
    unfold Txt.endswith
    rw [Bool.and_eq_true, decide_eq_true_eq, Nat.zero_add]
    constructor
    · rintro ⟨h1, h2⟩
      obtain ⟨m, g1, g2, g3⟩ := at_only h2
      rw [lead_one_len] at h1 g2
      have : m = row.length := by
        by_cases e : m = row.length
        · exact e
        · have := bnd_lt (ns := rs.map Int.toNat) (a := m + 1) (b := rs.length) (by (first | lia | omega)) (by (first | lia | omega))
          (first | lia | omega)
      rwa [← this]
    · intro h
      have h2 := at_of (rs := rs) (w := wl) (m := row.length) (by (first | lia | omega)) h
      rw [lead_one_len, hlenS, hlen, hlast]
      refine ⟨by (first | lia | omega), ?_⟩
      rwa [show bnd (rs.map Int.toNat) row.length + (rs.map Int.toNat).getD row.length 0 + 1 - (wl.toNat + 1) = bnd (rs.map Int.toNat) row.length + (rs.map Int.toNat).getD row.length 0 - wl.toNat by (first | lia | omega)]
  have hcast : ∀ h : wl.toNat ≤ (rs.map Int.toNat).getD row.length 0, ((leadS rs).length : Int) - (leadS [wl]).length = ((bnd (rs.map Int.toNat) row.length + (rs.map Int.toNat).getD row.length 0 - wl.toNat : Nat) : Int) := by
    intro h
    rw [lead_one_len, hlenS, hlen, hlast]
    (first | lia | omega)
  have hempty : ∀ h : Nat, h ≤ (leadS rs).length → ∀ l : List Str, ellScan (leadS rs) h (Str.ofString "" :: l) 0 = ellScan (leadS rs) h l ((bnd (rs.map Int.toNat) 0 : Nat) : Int) := by
    intro h hh l
    have hf : find4 (leadS rs) (Str.ofString "") 0 h = 0 := by
      have hat : At (leadS rs) (Str.ofString "") h 0 := ⟨by show 0 + 0 ≤ h; (first | lia | omega), by rw [subAt_eq]; rfl⟩
      rcases find4_spec (leadS rs) (Str.ofString "") 0 h hh with ⟨_, h2⟩ | ⟨i, h1, h2, h3, h4⟩
      · exact absurd hat (h2 0 (Nat.le_refl _))
      · have : i = 0 := by
          by_cases e : i = 0
          · exact e
          · exact absurd hat (h4 0 (Nat.le_refl _) (by (first | lia | omega)))
        rw [this] at h1; exact h1
    rw [ellScan, hf, if_neg (by (first | lia | omega))]
    rfl
  unfold ellB
  rw [Bool.and_eq_true, hends]
  constructor
  · rintro ⟨h1, h2⟩
    rw [hcast h1, hempty _ (by rw [hlenS, hlen, hlast]; (first | lia | omega))] at h2
    obtain ⟨i1, i2⟩ := scan_only (by rw [hlenS, hlen, hlast]; (first | lia | omega)) row 0 (by (first | lia | omega)) h2
    intro k hk
    rw [hc] at hk ⊢
    by_cases e : k < row.length
    · rw [hge k e]
      have := i2 (by (first | lia | omega)) k e
      rw [Nat.zero_add, hget k (by (first | lia | omega))] at this
      (first | lia | omega)
    · have : k = row.length := by (first | lia | omega)
      subst this
      rw [hge2]
      rw [hget _ (by (first | lia | omega))] at h1
      (first | lia | omega)
  · intro hC
    have h1 : wl.toNat ≤ (rs.map Int.toNat).getD row.length 0 := by
      have := hC row.length (by rw [hc]; (first | lia | omega))
      rw [hge2, hc] at this
      rw [hget _ (by (first | lia | omega))]; (first | lia | omega)
    refine ⟨h1, ?_⟩
    rw [hcast h1, hempty _ (by rw [hlenS, hlen, hlast]; (first | lia | omega))]
    refine scan_in (by rw [hlenS, hlen, hlast]; (first | lia | omega)) row 0 (by (first | lia | omega)) (by rw [Nat.zero_add]; (first | lia | omega)) fun k hk => ?_
    have := hC k (by rw [hc]; (first | lia | omega))
    rw [hge k hk, hc] at this
    rw [Nat.zero_add, hget k (by (first | lia | omega))]; (first | lia | omega)
end
section
open PySem.StrLaws PySem.Builtin.Str
noncomputable def wantOne (x : Int) : Str := Str.ofString "..." ++ Txt.mul (Str.ofString " ") x ++ Str.ofString "\t"
noncomputable def wantN (rs : List Nat) : List Nat := rs.flatMap fun r => 46 :: 46 :: 46 :: (List.replicate r 32 ++ [9])
noncomputable def starts : Nat → List Nat → List Nat
  | _, [] => []
  | p, r :: rs => p :: starts (p + r + 4) rs
theorem wantN_cons (r : Nat) (rs : List Nat) : wantN (r :: rs) = 46 :: 46 :: 46 :: (List.replicate r 32 ++ 9 :: wantN rs) := by
  unfold wantN; rw [List.flatMap_cons]; simp
theorem wantN_len (r : Nat) (rs : List Nat) : (wantN (r :: rs)).length = r + 4 + (wantN rs).length := by
  rw [wantN_cons]; simp; (first | lia | omega)
section
variable {s sub : Str} {hi limit : Nat}
theorem occ_app : ∀ (l1 l2 : List Nat) (st : Array Nat × Nat), (forIn (l1 ++ l2) st (occBody s sub hi limit)).run = (forIn l2 (forIn l1 st (occBody s sub hi limit)).run (occBody s sub hi limit)).run
  | [], _, _ => rfl
  | a :: l1, l2, st => by
    rw [List.cons_append, List.forIn_cons, List.forIn_cons]
    unfold occBody
    split
    · exact occ_app l1 l2 _
    · exact occ_app l1 l2 _
theorem occ_skip : ∀ (l : List Nat) (st : Array Nat × Nat), (∀ i ∈ l, i < st.2 ∨ ¬ (i + sub.length ≤ hi ∧ subAt s sub i = true)) → (forIn l st (occBody s sub hi limit)).run = st
  | [], _, _ => rfl
  | a :: l, st, h => by
    rw [List.forIn_cons]
    unfold occBody
    rw [if_neg (fun c => by
      rcases h a (.head _) with h1 | h1
      · exact absurd c.1.1.2 (by (first | lia | omega))
      · exact h1 ⟨c.1.2, c.2⟩)]
    exact occ_skip l st fun i hi' => h i (.tail _ hi')
theorem occ_hit (a : Nat) (l : List Nat) (st : Array Nat × Nat) (h : ((st.1.size < limit ∧ st.2 ≤ a) ∧ a + sub.length ≤ hi) ∧ subAt s sub a = true) : (forIn (a :: l) st (occBody s sub hi limit)).run = (forIn l (st.1.push a, a + sub.length) (occBody s sub hi limit)).run := by
  rw [List.forIn_cons]
  unfold occBody
  rw [if_pos h]
  rfl
end
theorem dots_at {s : Str} {i : Nat} : subAt s (Str.ofString "...") i = true ↔ (s.cps.toList.drop i).take 3 = [46, 46, 46] := by
  rw [subAt_eq, show (Str.ofString "...").length = 3 by decide, show (Str.ofString "...").cps.toList = [46, 46, 46] by decide, beq_iff_eq]
theorem occ_want {s : Str} {limit : Nat} : ∀ (rs : List Nat) (pre : List Nat) (found : Array Nat) (q : Nat), s.cps.toList = pre ++ wantN rs → found.size ≤ pre.length → q ≤ pre.length → pre.length + (wantN rs).length < limit → s.length = pre.length + (wantN rs).length →
    ((forIn (List.range' pre.length (wantN rs).length) (found, q) (occBody s (Str.ofString "...") s.length limit)).run.1.toList = found.toList ++ starts pre.length rs)
  | [], pre, found, q, _, _, _, _, _ => by
    rw [starts, List.append_nil]; rfl
  | r :: rs, pre, found, q, hs, hf, hq, hlim, hlen => by
    have hl := wantN_len r rs
    have hd3 : (Str.ofString "...").length = 3 := by decide
    rw [hl, show r + 4 + (wantN rs).length = (r + 3 + (wantN rs).length) + 1 by (first | lia | omega), List.range'_succ]
    rw [occ_hit]
    rotate_left
    · refine ⟨⟨⟨by show found.size < limit; (first | lia | omega), hq⟩, by rw [hd3]; (first | lia | omega)⟩, ?_⟩
      rw [dots_at, hs, List.drop_left, wantN_cons]
      rfl
    have hskip : (forIn (List.range' (pre.length + 1) (r + 3)) (found.push pre.length, pre.length + (Str.ofString "...").length) (occBody s (Str.ofString "...") s.length limit)).run = (found.push pre.length, pre.length + (Str.ofString "...").length) := by
      apply occ_skip
      intro i hi
      rw [List.mem_range'_1] at hi
      by_cases h3 : i < pre.length + 3
      · left; show i < pre.length + (Str.ofString "...").length; rw [hd3]; exact h3
      · right
        rintro ⟨_, hc⟩
        rw [dots_at] at hc
        have h0 : s.cps.toList[i]? = some 46 := by
          have := congrArg (fun l => l[0]?) hc
          simpa [List.getElem?_take, List.getElem?_drop] using this
        rw [hs, wantN_cons, List.getElem?_append_right (by (first | lia | omega))] at h0
        obtain ⟨j, hj⟩ : ∃ j, i - pre.length = j + 3 := ⟨i - pre.length - 3, by (first | lia | omega)⟩
        rw [hj, List.getElem?_cons_succ, List.getElem?_cons_succ, List.getElem?_cons_succ] at h0
        by_cases hjr : j < r
        · rw [List.getElem?_append_left (by simpa using hjr), List.getElem?_replicate, if_pos hjr] at h0
          simp at h0
        · have : j = r := by (first | lia | omega)
          subst this
          rw [List.getElem?_append_right (by simp)] at h0
          simp at h0
    rw [← List.range'_append_1 (s := pre.length + 1) (m := r + 3) (n := (wantN rs).length), occ_app]
    dsimp only
    rw [hskip]
    have hs2 : s.cps.toList = (pre ++ (46 :: 46 :: 46 :: (List.replicate r 32 ++ [9]))) ++ wantN rs := by
      rw [hs, wantN_cons]; simp
    have hpl : (pre ++ (46 :: 46 :: 46 :: (List.replicate r 32 ++ [9]))).length = pre.length + r + 4 := by simp; (first | lia | omega)
    have ih := occ_want (limit := limit) rs (pre ++ (46 :: 46 :: 46 :: (List.replicate r 32 ++ [9]))) (found.push pre.length) (pre.length + 3) hs2 (by rw [hpl, Array.size_push]; (first | lia | omega)) (by rw [hpl]; (first | lia | omega)) (by rw [hpl]; (first | lia | omega)) (by rw [hpl]; (first | lia | omega))
    rw [hpl] at ih
    rw [show pre.length + 1 + (r + 3) = pre.length + r + 4 by (first | lia | omega), hd3]
    rw [ih, Array.toList_push, starts]
    simp
theorem occ_all {s : Str} {rs : List Nat} (hs : s.cps.toList = wantN rs) {limit : Nat} (hl : s.length < limit) : occurrences s (Str.ofString "...") 0 s.length limit = starts 0 rs := by
  have hlen : s.length = (wantN rs).length := by rw [← hs]; simp [Str.length]
  rw [occ_eq, show s.length + 1 - 0 = s.length + 1 by (first | lia | omega), ← List.range'_append_1 (s := 0) (m := s.length) (n := 1), occ_app]
  have h := occ_want (s := s) (limit := limit) rs [] #[] 0 (by rw [hs]; rfl) (Nat.zero_le _) (Nat.zero_le _) (by show 0 + _ < _; (first | lia | omega)) (by show _ = 0 + _; (first | lia | omega))
  rw [show ([] : List Nat).length = 0 from rfl, ← hlen] at h
  rw [occ_skip]
  · rw [h]; rfl
  · intro i hi
    right
    rintro ⟨h1, _⟩
    rw [List.mem_range'_1] at hi
    rw [show (Str.ofString "...").length = 3 by decide] at h1
    (first | lia | omega)
theorem parts_want {s : Str} : ∀ (rs : List Nat) (pre : List Nat) (r0 : Nat), s.cps.toList = pre ++ (List.replicate r0 32 ++ [9]) ++ wantN rs → partsFrom s 3 pre.length (starts (pre.length + r0 + 1) rs) = (r0 :: rs).map fun (r : Nat) => leadS [(r : Int)]
  | [], pre, r0, hs => by
    rw [starts, partsFrom, List.map_cons, List.map_nil]
    congr 1
    apply Str.ext'
    apply Array.toList_inj.mp
    rw [strSub_toList, lead_one, hs]
    simp [wantN, Str.length]
    rw [show s.cps.size = s.cps.toList.length by simp, hs]
    simp [wantN]
    exact List.take_of_length_le (by simp)
  | r :: rs, pre, r0, hs => by
    rw [starts, partsFrom, List.map_cons]
    congr 1
    · apply Str.ext'
      apply Array.toList_inj.mp
      rw [strSub_toList, lead_one, hs, show pre.length + r0 + 1 - pre.length = r0 + 1 by (first | lia | omega), List.append_assoc, List.drop_left, List.take_left' (by simp)]
      simp
    · have hs2 : s.cps.toList = (pre ++ (List.replicate r0 32 ++ [9]) ++ [46, 46, 46]) ++ (List.replicate r 32 ++ [9]) ++ wantN rs := by
        rw [hs, wantN_cons]; simp
      have ih := parts_want rs (pre ++ (List.replicate r0 32 ++ [9]) ++ [46, 46, 46]) r hs2
      have hpl : (pre ++ (List.replicate r0 32 ++ [9]) ++ [46, 46, 46]).length = pre.length + r0 + 1 + 3 := by simp; (first | lia | omega)
      rw [hpl, show pre.length + r0 + 1 + 3 + r + 1 = pre.length + r0 + 1 + r + 4 by (first | lia | omega)] at ih
      exact ih
theorem want_split {s : Str} {r : Nat} {rs : List Nat} (hs : s.cps.toList = wantN (r :: rs)) : Txt.split s (Str.ofString "...") = Str.ofString "" :: (r :: rs).map fun (r : Nat) => leadS [(r : Int)] := by
  have hlen : s.length = (wantN (r :: rs)).length := by rw [← hs]; simp [Str.length]
  have h3 := wantN_len r rs
  unfold Txt.split
  rw [if_neg, occ_all hs (Nat.lt_succ_self _), if_neg (by simp [starts]), partsBetween_eq, show (Str.ofString "...").length = 3 by decide, starts, partsFrom]
  · congr 1
    · apply Str.ext'
      apply Array.toList_inj.mp
      rw [strSub_toList]
      rw [show (Str.ofString "").cps.toList = [] by decide]; simp
    · have := parts_want (s := s) rs [46, 46, 46] r (by rw [hs, wantN_cons]; simp)
      rw [show ([46, 46, 46] : List Nat).length + r + 1 = 0 + r + 4 by simp; (first | lia | omega)] at this
      exact this
  · rw [Bool.or_eq_true, decide_eq_true_eq, decide_eq_true_eq, show (Str.ofString "...").length = 3 by decide, not_or]
    refine ⟨by (first | lia | omega), ?_⟩
    rw [show Builtin.Str.strKind (Str.ofString "...") = 1 by decide +kernel]
    unfold Builtin.Str.strKind
    split
    · (first | lia | omega)
    · split <;> (first | lia | omega)
theorem wantOne_cps (x : Int) : (wantOne x).cps.toList = 46 :: 46 :: 46 :: (List.replicate x.toNat 32 ++ [9]) := by
  have h : wantOne x = Str.ofString "..." ++ leadS [x] := by
    unfold wantOne
    rw [Str.append_assoc, lead_elt]
  rw [h, Str.cps_append, Array.toList_append, lead_one, show (Str.ofString "...").cps.toList = [46, 46, 46] by decide]
  rfl
theorem wantOne_len (x : Int) : (wantOne x).length = x.toNat + 4 := by
  have := congrArg List.length (wantOne_cps x)
  simp [Str.length] at this ⊢
  exact this
theorem want_join (row : List Int) : (Txt.join (Str.ofString "") (row.map wantOne)).cps.toList = wantN (row.map Int.toNat) := by
  unfold Txt.join
  rw [StrLaws.glued_eq_join, show Str.ofString "" = ⟨#[]⟩ by decide, join_nil_cps]
  unfold wantN
  rw [List.flatMap_map, List.flatMap_map]
  congr 1
  funext x
  exact wantOne_cps x
theorem wantN_size : ∀ (rs : List Nat) (b : Nat), (∀ r ∈ rs, r < b) → (wantN rs).length ≤ rs.length * (b + 4)
  | [], _, _ => by simp [wantN]
  | r :: rs, b, h => by
    have := wantN_size rs b fun z hz => h z (.tail _ hz)
    have h2 := h r (.head _)
    rw [wantN_len, List.length_cons, Nat.succ_mul]
    (first | lia | omega)
theorem want_len (row : List Int) (b : Nat) (h : ∀ x ∈ row, 0 ≤ x ∧ x < b) : (Txt.join (Str.ofString "") (row.map wantOne)).length ≤ row.length * (b + 4) := by
  have h1 := wantN_size (row.map Int.toNat) b fun r hr => by
    obtain ⟨x, hx, rfl⟩ := List.mem_map.mp hr
    have := h x hx
    (first | lia | omega)
  rw [← want_join] at h1
  simpa [Str.length] using h1
theorem want_has {row : List Int} (hne : row ≠ []) : (occurrences (Txt.join (Str.ofString "") (row.map wantOne)) (Str.ofString "...") 0 (Txt.join (Str.ofString "") (row.map wantOne)).length 1).isEmpty = false := by
  obtain ⟨x, r, rfl⟩ : ∃ x r, row = x :: r := by cases row with | nil => exact absurd rfl hne | cons x r => exact ⟨x, r, rfl⟩
  have hj := want_join (x :: r)
  generalize Txt.join (Str.ofString "") ((x :: r).map wantOne) = s at *
  rcases occ_hi s (Str.ofString "...") 0 s.length with ⟨_, h2⟩ | ⟨i, l, h1, _⟩
  · refine absurd ⟨?_, ?_⟩ (h2 0 (Nat.le_refl _))
    · have h3 := congrArg List.length hj
      rw [List.map_cons, wantN_len] at h3
      rw [show (Str.ofString "...").length = 3 by decide]
      show 0 + 3 ≤ s.length
      simp [Str.length] at h3 ⊢
      (first | lia | omega)
    · rw [dots_at, hj, List.map_cons, wantN_cons]; rfl
  · rw [h1]; rfl
theorem lead_nat {x : Int} (h : 0 ≤ x) : leadS [((x.toNat : Nat) : Int)] = leadS [x] := by rw [Int.toNat_of_nonneg h]
theorem want_parts {row : List Int} {wl : Int} (h0 : ∀ x ∈ row ++ [wl], 0 ≤ x) : Txt.split (Txt.join (Str.ofString "") ((row ++ [wl]).map wantOne)) (Str.ofString "...") = Str.ofString "" :: (row.map (fun w => leadS [w]) ++ [leadS [wl]]) := by
  obtain ⟨x, r, hr⟩ : ∃ x r, row ++ [wl] = x :: r := by cases row with | nil => exact ⟨_, _, rfl⟩ | cons a b => exact ⟨_, _, rfl⟩
  have hj := want_join (row ++ [wl])
  rw [hr] at hj
  rw [hr, want_split (r := x.toNat) (rs := r.map Int.toNat) hj, ← List.map_cons (f := Int.toNat), ← hr, List.map_map]
  congr 1
  rw [show row.map (fun w => leadS [w]) ++ [leadS [wl]] = (row ++ [wl]).map (fun w => leadS [w]) by simp]
  apply List.map_congr_left
  intro y hy
  exact lead_nat (h0 y hy)
end
section
theorem insort_spec {l : Addr} {vs : List Value} {n : Nat} {xs : List Int} {x : Int} {tx : Tok} (C : Cx (d + 2) w p loose mean mg mb A h₀ s.heap)
    (hl : s.heap.get? l = some (listV vs n)) (hl0 : h₀.get? l = none) (hI : IntsAre vs xs) (hlen : xs.length < 1000) (hs : xs.Pairwise (· ≤ ·))
    (hret : ∀ h' (r n' : Nat) tk', IsBis xs x r → (∀ b o, b ≠ l → s.heap.get? b = some o → h'.get? b = some o) → h'.get? l = some (listV (vs.take r ++ .int x tx :: vs.drop r) n') → Q .none { s with heap := h', toks := tk' }) :
    wpAny (MM w) A (call (.ref 30) [.ref l, .int x tx]) Q E s := by
  walk_at "m_fill"
  refine' enterK (binds := [(Str.ofString "a", .ref l), (Str.ofString "x", .int x tx), (Str.ofString "lo", .int 0 196), (Str.ofString "hi", .none), (Str.ofString "key", .none)]) C ?ho ?hcd ?hb ?hl ?_ ?c1 ?c2 ?c3 ?c4
  walk_at "m_enter"
  intro L h₁ F0 F1
  have F := hide_fr (as := [l]) F1
  have hk := hide_keep (s := s) (as := [l]) C.k (by simpa using hl0)
  have N : News (hideAll s.heap [l]) L h₁ [(l, listV vs n)] := List.forall_mem_singleton.mpr (hide_new F1 hl (.head _))
  have X := C.X.keeps hk
  have T := C.T.keeps hk
  clear F0 F1
  walk_at "m_run"
  refine bis_spec (vs := vs) (xs := xs) (x := x) (tx := tx) (t0 := 196) (.inr rfl) (C.inner _ hk F) ?_ hI hlen hs ?_
  · exact N.isList (.head _)
  intro h' r t tk' hr hk'
  replace F := Fr.ext F hk'
  replace N := News.ext N hk'
  walk_at "m_run"
  have hv := hI.length
  have hr1 := hr.1
  refine kl_insert (l := vs.take r ++ .int x tx :: vs.drop r) (by assumption) (by assumption) ?hf ?he (.head (List.forall_mem_nil _)) ?hz ?_
  case hf => unfold Builtin.List.listFitsIndex; simp only [Bool.and_eq_true, decide_eq_true_eq]; (first | lia | omega)
  case hz => rw [show sizeLine = 16777216 from rfl, List.toList_toArray]; (first | lia | omega)
  case he => unfold kl_ins; rw [List.toList_toArray, if_neg (by (first | lia | omega)), Int.toNat_natCast, Nat.min_eq_left (by (first | lia | omega))]
  intro h3 F3 N3
  walk_at "m_run"
  exact hret _ r _ _ hr (fun b o hb e => hide_ext F3.keep b o (by simpa using hb) e) (N3 _ (.head _)).1
end
section
theorem neFresh {h : Heap} {D a : Addr} {o : Obj} (hD : h.get? D = none) (ha : h.get? a = some o) : @Ne Nat D a := fun e => by rw [e, ha] at hD; cases hD
/-- the ground of the law's frame -/
structure Law (d : Nat) (w : World) (p : Program) (loose : List Str) (mean : ExcName → Option Value) (mg mb : Str → Option Value) (A : Around) (g : Heap) (L : Addr) : Prop where
  X : (Mine.kf.heap_1 w.params).In g
  T : Top p loose mean mg mb g
  hd : A.depth + d < recursionLimit
  hu : A.units + 10 * d < cLine
  fr : ∃ l, A.frames = some l
  hh : A.handled = none
  c1 : CodeHd g 66 62
  c2 : CodeHd g 59 55
  c3 : CodeHd g 160 156
  n62 : g.get? 62 = none
  n55 : g.get? 55 = none
  n156 : g.get? 156 = none
  l62 : @LT.lt Nat _ 62 L
  l55 : @LT.lt Nat _ 55 L
  l156 : @LT.lt Nat _ 156 L
theorem Law.cx {g h : Heap} {L : Addr} {m : Str → Option Value} {d e : Nat} (W : Law (d + e) w p loose mean mg mb A g L) (F : Fr g L h m) : Cx d w p loose mean mg mb A g h :=
  ⟨W.X, W.T, F.keep, Nat.le_trans F.above (Nat.le_of_lt F.ns.lt), by have := W.hd; (first | lia | omega), by have := W.hu; (first | lia | omega), W.fr, W.hh, W.c1, W.c2, W.c3⟩
section
variable {name qual name' qual' : Str} {params params' : Arguments} {body body' : List Stmt} {scope scope' : Scope} {dV kV doc pm cdv ct oc dV' kV' doc' pm' cdv' ct' oc' : Value} {an od an' od' : Option Addr} {osl osl' : Array (Option Value)} {f : Addr}
theorem lawInv {P : Prop} (ho : (Mine.kf.heap_1 w.params).lookup f = some ⟨oc, od, .func (fnOf name qual params body scope dV kV doc pm an cdv ct), osl⟩) (e : (Mine.kf.heap_1 w.params).lookup f = some ⟨oc', od', .func (fnOf name' qual' params' body' scope' dV' kV' doc' pm' an' cdv' ct'), osl'⟩)
    (k : body = body' → scope = scope' → qual = qual' → cdv = cdv' → P) : P := by
  rw [ho] at e
  have e2 : FuncData.mk .. = _ := Data.func.inj (Obj.mk.inj (Option.some.inj e)).2.2.1
  exact k (FuncBody.stmts.inj (congrArg FuncData.body e2)) (congrArg FuncData.scope e2) (congrArg FuncData.qualname e2) (congrArg FuncData.code e2)
end
theorem cells_of {g h : Heap} {L : Addr} {m : Str → Option Value} {oS oO oT oW oC oR : Obj} {tl : List (Addr × Obj)} {F : Fr g L h m} (N : News g L h ((L + 6, oS) :: (L + 5, oO) :: (L + 4, oT) :: (L + 3, oW) :: (L + 2, oC) :: (L + 1, oR) :: tl)) :
    h.get? (L + 6) = some oS ∧ h.get? (L + 5) = some oO ∧ h.get? (L + 4) = some oT ∧ h.get? (L + 3) = some oW ∧ h.get? (L + 2) = some oC ∧ h.get? (L + 1) = some oR :=
  ⟨(N _ (.head _)).1, (N _ (.tail _ (.head _))).1, (N _ (.tail _ (.tail _ (.head _)))).1, (N _ (.tail _ (.tail _ (.tail _ (.head _))))).1, (N _ (.tail _ (.tail _ (.tail _ (.tail _ (.head _)))))).1, (N _ (.tail _ (.tail _ (.tail _ (.tail _ (.tail _ (.head _))))))).1⟩
theorem led_put {g h : Heap} {L : Addr} {p c6 c5 c4 c3 c2 c1 : Addr × Obj} {tl : List (Addr × Obj)} (N : News g L h (p :: c6 :: c5 :: c4 :: c3 :: c2 :: c1 :: tl)) : News g L h (c6 :: c5 :: c4 :: c3 :: c2 :: c1 :: p :: tl) := fun q hq => N q (by
  simp only [List.mem_cons] at hq ⊢
  rcases hq with h | h | h | h | h | h | h | h <;> simp [h])
theorem ints_of_rot {R t : Int} : ∀ {us : List Int} {ys : List Value}, Paired (fun x y => ∃ u, y = .int (rot R t x) u) us ys → IntsAre ys (us.map (rot R t))
  | _, _, .nil => .nil
  | _, _, .cons ⟨u, e⟩ r => by subst e; exact .cons _ _ (ints_of_rot r)
theorem off_cell {g h : Heap} {L b : Addr} {o : Obj} {v : Option Value} {c6 c5 c4 c3 c2 c1 : Addr × Obj} {tl : List (Addr × Obj)} (N : News g L h (c6 :: c5 :: c4 :: c3 :: c2 :: c1 :: tl)) (htl : ∀ q ∈ tl, ∀ v, q.2.data ≠ .cell v) (hb : (b, o) ∈ c6 :: c5 :: c4 :: c3 :: c2 :: c1 :: tl) (d : o.data = .cell v) :
    ∀ q ∈ tl, q.1 ≠ b := fun q hq e => by
  have h1 := (N q (.tail _ (.tail _ (.tail _ (.tail _ (.tail _ (.tail _ hq))))))).1
  have h2 := (N _ hb).1
  rw [e] at h1
  have h3 : some q.2 = some o := h1.symm.trans h2
  exact htl q hq v (by rw [Option.some.inj h3]; exact d)
theorem allLt_get {d : Nat} : ∀ {l : List (Addr × Obj)}, AllLt d l → ∀ q ∈ l, @LT.lt Nat _ q.1 d
  | [], _, _, h => by cases h
  | _ :: _, ⟨h1, h2⟩, q, hq => by
    rcases List.mem_cons.mp hq with rfl | hq
    · exact h1
    · exact allLt_get h2 q hq
theorem notIn_rot {n : Nat} {t : Int} {T : List Int} (hT : ∀ y ∈ T, 0 ≤ y ∧ y < (n : Int) + 1) : ((n : Int) - t) % ((n : Int) + 1) ∈ T ↔ (n : Int) ∈ T.map (rot ((n : Int) + 1) t) := by
  have h0 : 0 ≤ ((n : Int) - t) % ((n : Int) + 1) ∧ ((n : Int) - t) % ((n : Int) + 1) < (n : Int) + 1 := ⟨Int.emod_nonneg _ (by (first | lia | omega)), Int.emod_lt_of_pos _ (by (first | lia | omega))⟩
  have h1 : rot ((n : Int) + 1) t (((n : Int) - t) % ((n : Int) + 1)) = n := by
    unfold rot
    rw [Int.emod_add_emod, show (n : Int) - t + t = n by (first | lia | omega), Int.emod_eq_of_lt (by (first | lia | omega)) (by (first | lia | omega))]
  rw [← rot_mem (t := t) hT h0, h1]
theorem any_ints (k : Int) : ∀ {vs : List Value} {ns : List Int}, IntsAre vs ns → (vs.any fun v => match v with | .int a _ => a == k | _ => false) = decide (k ∈ ns)
  | _, _, .nil => rfl
  | _, _, .cons a t r => by
    rw [List.any_cons, any_ints k r]
    by_cases h : a = k
    · subst h; simp
    · have h2 : k ≠ a := fun e => h e.symm
      simp [h, h2]
theorem notIn_ints {l : Addr} {vs : List Value} {ns : List Int} {k : Int} {t : Tok} (hl : s.heap.IsList l vs.toArray) (hi : IntsAre vs ns) (h : Q (.bool (!decide (k ∈ ns))) s) : wpAny (MM w) A (compareOp .NotIn (.int k t) (.ref l)) Q E s := by
  refine SeqAt.notIn_listAt (fun v => match v with | .int a _ => a == k | _ => false) hl (fun y hy => ?_) ?_
  · obtain ⟨i, hi2, e⟩ := List.getElem_of_mem (by simpa using hy)
    obtain ⟨a, u, rfl, _⟩ := hi.at i y (by rw [List.getElem?_eq_getElem hi2, e])
    exact SeqAt.EqAt.int_int a u k t
  · rw [List.any_toArray, any_ints k hi]; exact h
theorem comp_assign {prog : Program} {A : Around} {env : Env} {E : Value → Shared → Prop} {Q : Flow → Shared → Prop} {x y : Str} {elt iter : Expr} {scope : Scope} {cl : List (Str × Addr)} {px py pos spos : Pos} {l L : Addr} {g : Heap} {m : Str → Option Value} {vs : List Value} {ns : List Int} {F : Int → Value → Prop}
    (hsw : swapsWith (.ListComp elt [⟨.Name x px, iter, [], 0⟩] scope pos) (some (.Name y py)) spos.line env = pure true)
    (hclos : closureFor scope env = pure cl) (hcell : ∀ z ∈ scope.names, z.2 ≠ .cell) (hkind : scope.kind = .function)
    (hnames : ∀ z ∈ scope.names, z.2 = .local → scope.names.lookup z.1 = some .local) (hx : scope.names.lookup x = some .local)
    (hy : env.kindOf y = some .local) (hp : (env.scope.kind == .class || (env.scope.kind == .module && env.locals != env.globals)) = false) (hL : env.locals = L)
    (hs : ∀ x, foldedSetIterable iter env x = pure x) (hiter : ∀ Q' : Value → Shared → Prop, Q' (.ref l) s → wpAny (model prog w) A (eval iter env) Q' E s)
    (hh : A.handled = none) (hl : s.heap.IsList l vs.toArray) (hI : IntsAre vs ns) (hn : ns.length ≤ 100000) (helt : EltOk prog w A env scope cl x elt s ns F) (F0 : Fr g L s.heap m)
    (hQ : ∀ D h' tk ys c, s.heap.get? D = none → h'.get? D = some (listV ys c) → Paired F ns ys → Fr g L h' (fun z => if z = y then some (.ref D) else m z) → (∀ b o, b ≠ L → s.heap.get? b = some o → h'.get? b = some o) → Q .next { s with heap := h', toks := tk }) :
    wpAny (model prog w) A (exec (.Assign [.Name y py] (.ListComp elt [⟨.Name x px, iter, [], 0⟩] scope pos) spos) env) Q E s := by
  obtain ⟨ol, hol, hol2⟩ := id hl
  have hlt : l < s.heap.objs.size := Heap.lt_size hol
  have W := Walks.list (prog := prog) (w := w) hh s.heap.objs.size l (Nat.ne_of_lt hlt) vs.toArray
  have hsz : vs.toArray.size = ns.length := by rw [List.size_toArray, hI.length]
  rw [hsz] at W
  have W2 := walks_mono W (P' := PIs ns) fun i v hP _ => by
    obtain ⟨n, t, e, h⟩ := hI.at i v (by simpa using hP)
    exact ⟨n, t, h, e⟩
  have hLs : L < s.heap.objs.size := F0.ns.lt
  refine wpAny_Assign_ListComp_free (fun _ => true) (FIs F) hsw hclos hcell hkind hnames hx hy hp (hiter _ ?_) hs
  refine wpAny_pyIter_list hl ⟨_, _, _, ns.length, PIs ns, _, m, rfl, W2, by rw [show sizeLine = 16777216 from rfl]; (first | lia | omega), ⟨⟨_, Heap.get?_push_size _ rfl, rfl, rfl⟩, hl.at fun o e => Heap.get?_push_of_some _ e⟩, ?_, ?_, ?_, ⟨?_, ?_⟩, ?_⟩
  · intro b hb
    show b < (s.heap.push _).objs.size
    rw [Heap.size_push]
    rcases List.mem_cons.mp hb with rfl | hb
    · exact Nat.lt_succ_self _
    · rw [List.mem_singleton.mp hb]; exact Nat.lt_succ_of_lt hlt
  · rw [hL]; intro hm; rw [List.mem_singleton.mp hm] at hLs; exact Nat.lt_irrefl _ hLs
  · rw [hL]; exact F0.ns.push _
  · intro C i v s₃ m₃ E' _ _ _ _ _ _
    exact wpAny_pure ⟨rfl, s₃.heap, s₃.toks, rfl, fun _ _ e => e⟩
  · rintro C i v s₃ m₃ E' hC ⟨n, t, hn, rfl⟩ _ hNs hm hk _
    have hC2 : (s.heap.push { cls := .type "list_iterator", data := .fields #[.ref l, .int 0 0] }).objs.size ≤ C := hC
    rw [Heap.size_push] at hC2
    refine wpAny_mono (helt C n t s₃ m₃ E' (List.mem_of_getElem? hn) (Nat.le_trans (Nat.le_succ _) hC2) hNs hm (fun b o e => hk b o ?_ (Heap.get?_push_of_some _ e))) (fun y s₄ h => ⟨⟨n, t, rfl, h.1⟩, h.2⟩) fun _ _ e => e
    intro hb
    rw [List.mem_singleton.mp hb] at e
    exact absurd (Heap.lt_size e) (Nat.lt_irrefl _)
  · intro D h' tk ys vs' hD _ ⟨c, hpl⟩ hlen hP hF hns hk
    have hD2 : s.heap.get? D = none := by
      cases e : s.heap.get? D with
      | none => rfl
      | some o =>
        have hD3 : (s.heap.push { cls := .type "list_iterator", data := .fields #[.ref l, .int 0 0] }).get? D = none := hD
        rw [Heap.get?_push_of_some _ e] at hD3; cases hD3
    have hf : vs'.filter (fun _ => true) = vs' := List.filter_eq_self.mpr fun _ _ => rfl
    rw [hf] at hF
    rw [hL] at hns
    have hk2 : ∀ b o, b ≠ L → s.heap.get? b = some o → h'.get? b = some o := fun b o hb e => hk b o (by rw [hL]; exact hb) (fun hm => by
      rw [List.mem_singleton.mp hm] at e
      exact absurd (Heap.lt_size e) (Nat.lt_irrefl _)) (Heap.get?_push_of_some _ e)
    refine hQ D h' tk ys.toList c hD2 (by show _ = some (PySem.W.listOf ys.toList.toArray c); rw [Array.toArray_toList]; exact hpl) (paired_ints hlen hP hF) ⟨hns, fun b o e => hk2 b o (fun q => ?_) (F0.keep _ _ e), F0.above⟩ hk2
    rw [q] at e
    exact absurd (Heap.lt_size e) (Nat.not_lt.mpr F0.above)
theorem News.offL {g h h' : Heap} {L : Addr} {news : List (Addr × Obj)} (N : News g L h news) (hk : ∀ b o, b ≠ L → h.get? b = some o → h'.get? b = some o) : News g L h' news := fun p hp => ⟨hk _ _ (N p hp).2.1 (N p hp).1, (N p hp).2⟩
local macro_rules | `(tactic| k_all) => `(tactic| with_reducible assumption)
local macro_rules | `(tactic| walk_at "m_run3b") => `(tactic| repeat' ((fail_if_success (with_reducible show wpAny _ _ (execs [_, _, _, _, _, _] _) _ _ _)); walk_at "m_stop"; walk_at "m_step"))
local macro_rules | `(tactic| walk_at "m_run3") => `(tactic| repeat' ((fail_if_success (with_reducible show wpAny _ _ (execs [_, _, _, _, _, _] _) _ _ _)); (fail_if_success (with_reducible show wpAny _ _ (eval (Expr.IfExp _ _ _ _) _) _ _ _)); (fail_if_success (with_reducible show wpAny _ _ (exec (Stmt.If _ _ _ _) _) _ _ _)); (fail_if_success (with_reducible show wpAny _ _ (exec (Stmt.Assign _ (Expr.ListComp _ _ _ _) _) _) _ _ _)); walk_at "m_stop"; walk_at "m_step"))
section
variable {name qual : Str} {params : Arguments} {body tb orelse rest : List Stmt} {scope : Scope} {dV kV doc pm cdv ct oc : Value} {an od : Option Addr} {osl : Array (Option Value)} {tgt it : Expr} {ps : Pos}
theorem stage3 {K : Flow → Shared → Prop} {g : Heap} {L : Addr} {m : Str → Option Value} {oS oO oT oW oC oR : Obj} {tl : List (Addr × Obj)} {n k : Nat} {t gone : Int} {tt tR tC ts tst : Tok} {Dw Dt cw cT : Nat} {wv tv : List Value} {ws : List Int} {vO vS : Option Value}
    (ho : (Mine.kf.heap_1 w.params).lookup 185 = some ⟨oc, od, .func (fnOf name qual params body scope dV kV doc pm an cdv ct), osl⟩) (hf : body[9]? = some (.For tgt it tb orelse ps)) (hr : rest = tb)
    (W : Law (d + 50) w p loose mean mg mb A g L) (F : Fr g L s.heap m) (N : News g L s.heap ((L + 6, oS) :: (L + 5, oO) :: (L + 4, oT) :: (L + 3, oW) :: (L + 2, oC) :: (L + 1, oR) :: tl)) (htl : ∀ q ∈ tl, ∀ v, q.2.data ≠ .cell v)
    (dS : oS.data = .cell vS) (dO : oO.data = .cell vO) (dT : oT.data = .cell (some (.int t tt))) (dW : oW.data = .cell (some (.ref Dw))) (dC : oC.data = .cell (some (.int k tC))) (dR : oR.data = .cell (some (.int ((n : Int) + 1) tR)))
    (hw : (Dw, listV wv cw) ∈ tl) (hIw : IntsAre wv ws) (hT : (Dt, listV tv cT) ∈ tl) (hIt : IntsAre tv (ringSt ((n : Int) + 1) ws).1) (hn : 4 ≤ n ∧ n ≤ 6) (hk : 2 ≤ k ∧ k ≤ n) (hwl : ws.length = k) (hwr : ∀ x ∈ ws, 0 ≤ x ∧ x < (n : Int) + 1) (ht : 0 ≤ t ∧ t < (n : Int) + 1)
    (mSt : m (Str.ofString "street") = some (.int (n : Int) tst)) (mTk : m (Str.ofString "taken") = some (.ref Dt)) (mSs : m (Str.ofString "stairs") = some (.str (leadS (rangeKs ((n : Int) - k) k)) ts))
    (next : ∀ h' tk' m' tl' oO' Dn cn Dr cr nv rv v, Fr g L h' m' → News g L h' ((L + 6, oS) :: (L + 5, oO') :: (L + 4, oT) :: (L + 3, oW) :: (L + 2, oC) :: (L + 1, oR) :: tl') → (∀ q ∈ tl, q ∈ tl') → (∀ q ∈ tl', ∀ v, q.2.data ≠ .cell v) → oO'.data = .cell (some (.ref Dr)) →
      (Dr, listV rv cr) ∈ tl' → IntsAre rv (rowOf (ws.map (rot ((n : Int) + 1) t))) → (Dn, listV nv cn) ∈ tl' → IntsAre nv (ws.map (rot ((n : Int) + 1) t)) →
      m' (Str.ofString "parks") = some (.bool (decide ((n : Int) ∉ (ringSt ((n : Int) + 1) (ws.map (rot ((n : Int) + 1) t))).1))) → m' (Str.ofString "due") = some v → m' (Str.ofString "turned") = some (.ref Dn) →
      ((n : Int) ∉ (ringSt ((n : Int) + 1) (ws.map (rot ((n : Int) + 1) t))).1 → ∃ Dd dv cd, v = .ref Dd ∧ (Dd, listV dv cd) ∈ tl' ∧ IntsAre dv (ringSt ((n : Int) + 1) (ws.map (rot ((n : Int) + 1) t))).1) →
      (∀ y, y ≠ Str.ofString "parks" → y ≠ Str.ofString "due" → y ≠ Str.ofString "turned" → y ≠ Str.ofString "wish" → y ≠ Str.ofString "want" → m' y = m y) →
      wpAny (MM w) A (execs (tb.drop 8) (envOfC qual scope L 185 cdv)) K (fun _ _ => False) { s with heap := h', toks := tk' }) :
    wpAny (MM w) A (execs rest (envOfC qual scope L 185 cdv)) K (fun _ _ => False) s := by
  have hL := Law.cx W F
  walk_at "m_fill"
  refine' lawInv ho ?e ?_
  case e => k_is
  intro e1 e2 e3 e4
  subst e1 e2 e3 e4
  have hf2 := hf
  rw [show (some (Stmt.For tgt it tb orelse ps)) = _ from hf2.symm] at hf
  clear hf
  injection (Option.some.inj hf2) with f1 f2 f3 f4 f5
  subst f1 f2 f4 f5
  rw [← f3] at hr next
  clear f3 hf2 ho
  subst hr
  have hA := W.hh
  have X := W.X
  have T := W.T
  walk_at "m_run3"
  have hrg : ∀ y ∈ (ringSt ((n : Int) + 1) ws).1, 0 ≤ y ∧ y < (n : Int) + 1 := ringFold_range (by (first | lia | omega)) ws _ hwr (fun _ h => by cases h)
  have gT := N _ (.tail _ (.tail _ (.tail _ (.tail _ (.tail _ (.tail _ hT))))))
  refine notIn_ints (ns := (ringSt ((n : Int) + 1) ws).1) ⟨_, gT.1, rfl, _, rfl⟩ hIt ?_
  rw [Int.fmod_eq_emod_of_nonneg _ (by (first | lia | omega))]
  have hP : (!decide (((n : Int) - t) % ((n : Int) + 1) ∈ (ringSt ((n : Int) + 1) ws).1)) = decide ((n : Int) ∉ (ringSt ((n : Int) + 1) (ws.map (rot ((n : Int) + 1) t))).1) := by
    rw [ringSt_rot (by (first | lia | omega)) hwr, ← decide_not]
    exact decide_eq_decide.mpr (not_congr (notIn_rot hrg))
  rw [hP]
  generalize hPP : decide ((n : Int) ∉ (ringSt ((n : Int) + 1) (ws.map (rot ((n : Int) + 1) t))).1) = P at *
  clear hP
  walk_at "m_run3"
  (rename Fr _ _ _ _ => F2); (rename News _ _ _ _ => N2)
  refine wpAny_mono (Q := fun v s₁ => ∃ h1 tk1, s₁ = { s with heap := h1, toks := tk1 } ∧ Fr g L h1 (fun y => if y = Str.ofString "parks" then some (.bool P) else m y) ∧ ((P = false ∧ v = .none ∧ News g L h1 ((L + 6, oS) :: (L + 5, oO) :: (L + 4, oT) :: (L + 3, oW) :: (L + 2, oC) :: (L + 1, oR) :: tl)) ∨
    (P = true ∧ ∃ Dd dv cd, v = .ref Dd ∧ News g L h1 ((L + 6, oS) :: (L + 5, oO) :: (L + 4, oT) :: (L + 3, oW) :: (L + 2, oC) :: (L + 1, oR) :: (Dd, listV dv cd) :: tl) ∧ IntsAre dv ((ringSt ((n : Int) + 1) ws).1.map (rot ((n : Int) + 1) t))))) ?_ ?_ (fun _ _ q => q)
  · have cells := cells_of (F := F2) N2
    walk_at "m_run"
    · (rename P = true => hPt)
      refine comp_open (cl := [(Str.ofString "turn", L + 4), (Str.ofString "ring", L + 1)]) (fun x y => ∃ u, y = .int (rot ((n : Int) + 1) t x) u) rfl (by decide) rfl (by decide) rfl ?_
      walk_at "m_step"
      have gT2 := N2 _ (.tail _ (.tail _ (.tail _ (.tail _ (.tail _ (.tail _ hT))))))
      refine comp_list hA ⟨_, gT2.1, rfl, _, rfl⟩ hIt (by rw [ringSt_len]; (first | lia | omega)) ?_ ?_
      · intro C' x u s₃ m₃ E' hx hC' hN hm hk'
        walk_at "m_step"
        walk_at "m_step"
        refine ld_comp hN hm ?_
        refine ld_cell (c := L + 4) rfl (hk' _ _ cells.2.2.1) dT ?_
        walk_at "m_step"
        refine' ld_cell (c := L + 1) rfl ?ha dR ?_
        case ha => exact hk' _ _ cells.2.2.2.2.2
        walk_at "m_step"
        refine ⟨⟨s₃.toks + 1, ?_⟩, ⟨_, _, rfl, fun _ _ e => e⟩⟩
        rw [Int.fmod_eq_emod_of_nonneg _ (by (first | lia | omega))]; rfl
      · intro D h13 tk13 ys c hD hD' hF hk13
        refine ⟨_, _, rfl, Fr.ext F2 hk13, .inr ⟨hPt, D, ys, c, rfl, ?_, ints_of_rot hF⟩⟩
        exact led_put (News.got F2 N2 hk13 hD hD')
    · exact F2
    · (rename P = false => hPf)
      exact .inl ⟨hPf, rfl, N2⟩
  rintro v s₁ hJ2
  refine hideG ?_; intro XX kXX
  obtain ⟨h1, tk1, rfl, F3, hv⟩ := hJ2
  refine kXX ?_; clear kXX XX
  refine hideG ?_; intro XX kXX
  obtain ⟨tl2, hsub, htl2, N3, hv2⟩ : ∃ tl2 : List (Addr × Obj), (∀ q ∈ tl, q ∈ tl2) ∧ (∀ q ∈ tl2, ∀ v, q.2.data ≠ .cell v) ∧ News g L h1 ((L + 6, oS) :: (L + 5, oO) :: (L + 4, oT) :: (L + 3, oW) :: (L + 2, oC) :: (L + 1, oR) :: tl2) ∧
      ((P = false ∧ v = .none) ∨ (P = true ∧ ∃ Dd dv cd, v = .ref Dd ∧ (Dd, listV dv cd) ∈ tl2 ∧ IntsAre dv ((ringSt ((n : Int) + 1) ws).1.map (rot ((n : Int) + 1) t)))) := by
    rcases hv with ⟨a, b, c⟩ | ⟨a, Dd, dv, cd, b, c, e⟩
    · exact ⟨tl, fun _ h => h, htl, c, .inl ⟨a, b⟩⟩
    · exact ⟨_, fun _ h => .tail _ h, List.forall_mem_cons.mpr ⟨fun v h => (by cases h), htl⟩, c, .inr ⟨a, Dd, dv, cd, b, .head _, e⟩⟩
  refine kXX ?_; clear kXX XX
  have hw2 := hsub _ hw
  clear hv F2 N2 gT
  walk_at "m_run3"
  (rename Fr _ _ _ _ => F4); (rename News _ _ _ _ => N4)
  have cells := cells_of (F := F4) N4
  have gW2 := N4 _ (.tail _ (.tail _ (.tail _ (.tail _ (.tail _ (.tail _ hw2))))))
  refine' comp_assign (cl := [(Str.ofString "turn", L + 4), (Str.ofString "ring", L + 1)]) (l := Dw) (vs := wv) (ns := ws) (F := fun x y => ∃ u, y = .int (rot ((n : Int) + 1) t x) u) ?qa1 ?qa2 ?qa3 ?qa4 ?qa5 ?qa6 ?qa7 ?qa8 ?qa9 ?qa10 ?qa11 hA ⟨_, gW2.1, rfl, _, rfl⟩ hIw (by (first | lia | omega)) ?qa12 F4 ?_
  case qa1 => with_unfolding_all rfl
  case qa2 => exact rfl
  case qa3 => decide
  case qa4 => exact rfl
  case qa5 => decide
  case qa6 => exact rfl
  case qa7 => exact rfl
  case qa8 => exact rfl
  case qa9 => exact rfl
  case qa10 => exact fun _ => rfl
  case qa11 =>
    intro Q' hq
    walk_at "m_step"
    exact hq
  case qa12 =>
    intro C' x u s₃ m₃ E' hx hC' hN hm hk'
    walk_at "m_step"
    walk_at "m_step"
    refine ld_comp hN hm ?_
    refine ld_cell (c := L + 4) rfl (hk' _ _ cells.2.2.1) dT ?_
    walk_at "m_step"
    refine' ld_cell (c := L + 1) rfl ?ha dR ?_
    case ha => exact hk' _ _ cells.2.2.2.2.2
    walk_at "m_step"
    refine ⟨⟨s₃.toks + 1, ?_⟩, ⟨_, _, rfl, fun _ _ e => e⟩⟩
    rw [Int.fmod_eq_emod_of_nonneg _ (by (first | lia | omega))]; rfl
  intro Dn h13 tk13 nv cn hD hD' hF F5 hk13
  have hDL : Dn ≠ L := fun e => by
    obtain ⟨o, _, _, ho, _⟩ := F4.ns
    rw [e, ho] at hD; cases hD
  have hDg : g.get? Dn = none := by
    cases e : g.get? Dn with
    | none => rfl
    | some o => rw [F4.keep _ _ e] at hD; cases hD
  have N5 := led_put (p := (Dn, listV nv cn)) (List.forall_mem_cons.mpr ⟨⟨hD', hDL, hDg⟩, News.offL N4 hk13⟩)
  have hIn := ints_of_rot hF
  have htl3 : ∀ q ∈ (Dn, listV nv cn) :: tl2, ∀ v, q.2.data ≠ .cell v := List.forall_mem_cons.mpr ⟨fun v h => (by cases h), htl2⟩
  refine hideG ?_; intro XX kXX
  obtain ⟨m5, F5, m5y, m5p, m5d, m5t, m5s, m5k, m5w⟩ : ∃ m5, Fr g L h13 m5 ∧ (∀ y, y ≠ Str.ofString "parks" → y ≠ Str.ofString "due" → y ≠ Str.ofString "turned" → m5 y = m y) ∧ m5 (Str.ofString "parks") = some (.bool P) ∧ m5 (Str.ofString "due") = some v ∧ m5 (Str.ofString "turned") = some (.ref Dn) ∧ m5 (Str.ofString "street") = some (.int (n : Int) tst) ∧
      m5 (Str.ofString "taken") = some (.ref Dt) ∧ m5 (Str.ofString "stairs") = some (.str (leadS (rangeKs ((n : Int) - k) k)) ts) := ⟨_, F5, fun y a b c => (if_neg c).trans ((if_neg b).trans (if_neg a)), rfl, rfl, rfl, mSt, mTk, mSs⟩
  refine kXX ?_; clear kXX XX
  clear cells F4 N4 gW2 hk13 hF
  obtain ⟨nw, hnw⟩ : ∃ nw : List Int, nw = ws.map (rot ((n : Int) + 1) t) := ⟨_, rfl⟩
  rw [← hnw] at hIn hPP next
  have hrot : (ringSt ((n : Int) + 1) ws).1.map (rot ((n : Int) + 1) t) = (ringSt ((n : Int) + 1) nw).1 := by rw [hnw, ringSt_rot (by (first | lia | omega)) hwr]
  rw [hrot] at hv2
  have hnr : ∀ x ∈ nw, 0 ≤ x ∧ x < (n : Int) + 1 := by
    intro x hx
    rw [hnw] at hx
    obtain ⟨y, _, rfl⟩ := List.mem_map.mp hx
    exact rot_range (by (first | lia | omega))
  have hnl : nw.length = k := by rw [hnw, List.length_map, hwl]
  walk_at "m_run3"
  have hm5 := park_main hnr
  refine wpAny_mono (Q := fun fl s₁ => fl = .next ∧ ∃ h1 tk1, s₁ = { s with heap := h1, toks := tk1 } ∧ Fr g L h1 m5 ∧ News g L h1 ((L + 6, oS) :: (L + 5, oO) :: (L + 4, oT) :: (L + 3, oW) :: (L + 2, oC) :: (L + 1, oR) :: (Dn, listV nv cn) :: tl2)) ?_ ?_ (fun _ _ q => q)
  · walk_at "m_run"
    refine street_spec (ws := nw) (Law.cx (d := d + 40 + 2) (e := 8) W (by with_reducible assumption)) ?hl hIn (by (first | lia | omega)) (by (first | lia | omega)) ?_ ?_
    case hl =>
      (rename News _ _ _ _ => N6)
      exact ⟨_, (N6 _ (.tail _ (.tail _ (.tail _ (.tail _ (.tail _ (.tail _ (.head _)))))))).1, rfl, _, rfl⟩
    · intro h2 tk2 hno hk2
      have F6 := Fr.ext F5 hk2
      have N6 := News.ext N5 hk2
      have hPf : P = false := by
        rcases hm5 with ⟨zs, _, _, _, h4, _⟩ | ⟨h1, _⟩
        · rw [hno] at h4; cases h4
        · rw [← hPP]; exact decide_eq_false fun h => h h1
      have hvn : v = .none := by
        rcases hv2 with ⟨_, h⟩ | ⟨h, _⟩
        · exact h
        · rw [hPf] at h; cases h
      rw [hvn] at m5d
      clear F5 N5
      walk_at "m_run"
      all_goals with_reducible assumption
    · intro h2 D2 sv c2 tk2 ys hso hIs hk2 hD2 hD20
      have F6 := Fr.ext F5 hk2
      have N6 := News.ext N5 hk2
      have hPt : P = true ∧ ys = (ringSt ((n : Int) + 1) nw).1 := by
        rcases hm5 with ⟨zs, _, _, h3, h4, h5, _⟩ | ⟨_, h2, _⟩
        · refine ⟨by rw [← hPP]; exact decide_eq_true h5, ?_⟩
          rw [hso] at h4
          rw [Option.some.inj h4, h3]
        · rw [hso] at h2; cases h2
      refine hideG ?_; intro XX kXX
      obtain ⟨Dd, dv, cd, rfl, hDd, hId⟩ : ∃ Dd dv cd, v = .ref Dd ∧ (Dd, listV dv cd) ∈ tl2 ∧ IntsAre dv (ringSt ((n : Int) + 1) nw).1 := by
        rcases hv2 with ⟨h, _⟩ | ⟨_, h⟩
        · rw [hPt.1] at h; cases h
        · exact h
      refine kXX ?_; clear kXX XX
      have gD := (N6 _ (.tail _ (.tail _ (.tail _ (.tail _ (.tail _ (.tail _ (.tail _ hDd)))))))).1
      clear F5 N5
      walk_at "m_step"
      refine ke_ne_ints (ns := ys) (ms := (ringSt ((n : Int) + 1) nw).1) ⟨_, hD2, rfl, _, rfl⟩ ⟨_, gD, rfl, _, rfl⟩ hIs hId (by have := W.hu; (first | lia | omega)) ?_
      rw [hPt.2, decide_eq_true rfl]
      walk_at "m_run"
      all_goals with_reducible assumption
  rintro fl s₁ hJ2
  refine hideG ?_; intro XX kXX
  obtain ⟨rfl, h1, tk1, rfl, F6, N6⟩ := hJ2
  refine kXX ?_; clear kXX XX
  try dsimp only
  have off5 : ∀ q ∈ (Dn, listV nv cn) :: tl2, q.1 ≠ L + 5 := off_cell N6 htl3 (.tail _ (.head _)) dO
  clear F5 N5 hm5 hrot
  walk_at "m_run3"
  rename_i Dr h2 l1r h3 oO' F7 N7 dO'
  have hner : ∀ q ∈ (L + 6, oS) :: (L + 5, oO') :: (L + 4, oT) :: (L + 3, oW) :: (L + 2, oC) :: (L + 1, oR) :: (Dn, listV nv cn) :: tl2, q.1 ≠ Dr := by
    obtain ⟨q6, q5, q4, q3, q2, q1, qn, qt⟩ := l1r
    intro q hq
    simp only [List.mem_cons] at hq
    rcases hq with rfl | rfl | rfl | rfl | rfl | rfl | rfl | hq
    · exact Nat.ne_of_lt q6
    · exact Nat.ne_of_lt q5
    · exact Nat.ne_of_lt q4
    · exact Nat.ne_of_lt q3
    · exact Nat.ne_of_lt q2
    · exact Nat.ne_of_lt q1
    · exact Nat.ne_of_lt qn
    · exact Nat.ne_of_lt (allLt_get qt q hq)
  clear l1r
  refine wpAny_For ?_
  walk_at "m_run"
  refine for_listN (h₀ := g) (L := L) (l := Dn) (vs := nv) (c := cn) (fun i m' news => ∃ rv cr, news = (Dr, listV rv cr) :: (L + 6, oS) :: (L + 5, oO') :: (L + 4, oT) :: (L + 3, oW) :: (L + 2, oC) :: (L + 1, oR) :: (Dn, listV nv cn) :: tl2 ∧ IntsAre rv (rowOf (nw.take i)) ∧ (∀ y, y ≠ Str.ofString "wish" → m' y = m5 y) ∧
      m' (Str.ofString "parks") = some (.bool P) ∧ m' (Str.ofString "due") = some v ∧ m' (Str.ofString "turned") = some (.ref Dn) ∧ m' (Str.ofString "street") = some (.int (n : Int) tst) ∧ m' (Str.ofString "stairs") = some (.str (leadS (rangeKs ((n : Int) - k) k)) ts))
    hA (fun i m' news' h => by obtain ⟨_, _, rfl, _⟩ := h; exact .tail _ (.tail _ (.tail _ (.tail _ (.tail _ (.tail _ (.tail _ (.head _)))))))) rfl rfl rfl F7 N7 ⟨_, _, rfl, .nil, fun _ _ => rfl, m5p, m5d, m5t, m5s, m5w⟩ ?_ ?_
  · rintro I i w' m₁ news₁ h tk oI hi hv' hI1 hJ11 hoff F8 N8
    refine hideG ?_; intro XX kXX
    obtain ⟨rv, cr, rfl, hIr, mmy, mp, md, mt, ms, mst⟩ := hJ11
    refine kXX ?_; clear kXX XX
    refine hideG ?_; intro XX kXX
    obtain ⟨x, tx, rfl, hx⟩ := hIn.at i w' hv'
    refine kXX ?_; clear kXX XX
    have hil : i < nw.length := (List.getElem?_eq_some_iff.mp hx).1
    have hrl : (rowOf (nw.take i)).length ≤ i := by rw [(row_perm _).length_eq, List.length_take]; (first | lia | omega)
    walk_at "m_run"
    have gDr := N8 _ (.tail _ (.head _))
    refine insort_spec (xs := rowOf (nw.take i)) (Law.cx (d := d + 40 + 2) (e := 8) W F8) gDr.1 gDr.2.2 hIr (by (first | lia | omega)) (row_sorted _) ?_
    intro h9 r n9 tk9 hb hk9 hnew
    have hID : I ≠ Dr := fun e => hoff _ (.head _) e.symm
    have F9 := Fr.ext2 F8 gDr.2.2 gDr.2.1 hk9
    have N9 : News g L h9 ((I, oI) :: (Dr, listV (rv.take r ++ .int x tx :: rv.drop r) n9) :: (L + 6, oS) :: (L + 5, oO') :: (L + 4, oT) :: (L + 3, oW) :: (L + 2, oC) :: (L + 1, oR) :: (Dn, listV nv cn) :: tl2) := by
      intro q hq
      rcases List.mem_cons.mp hq with rfl | hq
      · exact ⟨hk9 _ _ hID (N8 _ (.head _)).1, (N8 _ (.head _)).2⟩
      rcases List.mem_cons.mp hq with rfl | hq
      · exact ⟨hnew, gDr.2⟩
      · exact ⟨hk9 _ _ (hner q hq) (N8 q (.tail _ (.tail _ hq))).1, (N8 q (.tail _ (.tail _ hq))).2⟩
    have hIr' : IntsAre (rv.take r ++ .int x tx :: rv.drop r) (rowOf (nw.take (i + 1))) := by
      rw [rowOf_succ hx, insOne, ← hb.eq]
      exact (hIr.take r).append (.cons _ _ (hIr.drop r))
    clear F8 N8
    walk_at "m_run"
    refine Turned.mk F9 N9 ?_ ⟨_, _, rfl, hIr', fun y hy => (if_neg hy).trans (mmy y hy), mp, md, mt, ms, mst⟩
    intro q hq
    rcases List.mem_cons.mp hq with rfl | hq
    · exact Ne.symm hID
    · exact hoff q (.tail _ hq)
  · rintro m₁ news₁ h tk hJ4 F8 N8
    refine hideG ?_; intro XX kXX
    obtain ⟨rv, cr, rfl, hIr, mmy, mp, md, mt, ms, mst⟩ := hJ4
    refine kXX ?_; clear kXX XX
    try dsimp only
    rw [hIn.length, List.take_length] at hIr
    obtain ⟨row, hrow⟩ : ∃ row : List Int, row = rowOf nw := ⟨_, rfl⟩
    rw [← hrow] at hIr
    have hrowl : row.length = k := by rw [hrow, (row_perm nw).length_eq, hnl]
    have hrowr : ∀ x ∈ row, 0 ≤ x ∧ x < (n : Int) + 1 := fun x hx => hnr x ((row_perm nw).mem_iff.mp (hrow ▸ hx))
    have N9 := led_put N8
    have cells := cells_of (F := F8) N9
    clear N8 hner
    walk_at "m_run3"
    refine comp_open (cl := []) (fun x y => ∃ u, y = .str (wantOne x) u) rfl (by decide) rfl (by decide) rfl ?_
    walk_at "m_run3"
    have gR := N9 _ (.tail _ (.tail _ (.tail _ (.tail _ (.tail _ (.tail _ (.head _)))))))
    refine comp_list hA ⟨_, gR.1, rfl, _, rfl⟩ hIr (by (first | lia | omega)) ?_ ?_
    · intro C' x u s₃ m₃ E' hx hC' hN hm hk'
      have hxr := hrowr x hx
      iterate 5 walk_at "m_step"
      refine' ld_comp ?hn ?hm ?_
      case hn => exact hN
      case hm => exact hm
      walk_at "m_run"
      exact ⟨_, _, rfl, fun _ _ e => e⟩
    · intro D h13 tk13 ys c hD hD' hF hk13
      have F10 := Fr.ext F8 hk13
      have N10 := News.ext N9 hk13
      clear F8 N9
      walk_at "m_run3"
      obtain ⟨sl, rfl, hl2⟩ := strs_of (F := wantOne) hF
      refine join_L (l := sl) ⟨_, hD', rfl, _, rfl⟩ ?_ fun t' k' => ?_
      · rw [hl2]
        refine joinOk_of (b := 20) (fun y hy => ?_) (by rw [List.length_map, show (Str.ofString "").length = 0 by decide, Nat.add_zero]; (first | lia | omega))
        obtain ⟨x, hx, rfl⟩ := List.mem_map.mp hy
        have := hrowr x hx
        rw [wantOne_len]; (first | lia | omega)
      · rw [hl2]
        walk_at "m_run3"
        obtain ⟨init, wl, hrw⟩ : ∃ init wl, row = init ++ [wl] := by
          rcases List.eq_nil_or_concat row with h | ⟨a, b, h⟩
          · rw [h] at hrowl; simp at hrowl; (first | lia | omega)
          · exact ⟨a, b, by rw [h, List.concat_eq_append]⟩
        have hil : init.length + 1 = k := by rw [← hrowl, hrw]; simp
        have hrr : ∀ x ∈ init ++ [wl], 0 ≤ x ∧ x < (n : Int) + 1 := by rw [← hrw]; exact hrowr
        have hell : ellB (leadS (rangeKs ((n : Int) - k) k)) (init.map fun w => leadS [w]) (leadS [wl]) = P := by
          have h1 := ell_crit (n := n) (row := init) (wl := wl) (by (first | lia | omega)) (fun x hx => (hrr x hx).1)
          rw [← hrw, hrowl] at h1
          have h2 := park_row hnr
          rw [← hrow] at h2
          rw [Bool.eq_iff_iff, h1, ← h2, ← hPP, decide_eq_true_eq]
        have hwl := hrr wl (by simp)
        have hwant := want_len row (n + 1) (fun x hx => by have := hrowr x hx; (first | lia | omega))
        rw [hrowl] at hwant
        have hgl : (leadS (rangeKs ((n : Int) - k) k)).length ≤ 1000 := by
          have h1 := leadL_len (rangeKs ((n : Int) - k) k) (n + 1) (fun r hr => by have := mem_rangeKs hr; (first | lia | omega))
          rw [rangeKs_length] at h1
          have h2 : k * (n + 1) ≤ 6 * 7 := Nat.mul_le_mul (by (first | lia | omega)) (by (first | lia | omega))
          show (leadL (rangeKs ((n : Int) - k) k)).toArray.size ≤ 1000
          rw [List.size_toArray]; (first | lia | omega)
        have hwl42 : k * (n + 1 + 4) ≤ 6 * 11 := Nat.mul_le_mul (by (first | lia | omega)) (by (first | lia | omega))
        walk_at "m_run"
        (rename Fr _ _ _ _ => F11); (rename News _ _ _ _ => N11)
        refine ell_spec (ws := init.map fun w => leadS [w]) (wl := leadS [wl]) (Law.cx (d := d + 40 + 2) (e := 8) W F11) (want_has (fun e => by rw [e] at hrowl; simp at hrowl; (first | lia | omega))) ?e1 (by rw [lead_one_len]; (first | lia | omega)) (by rw [lead_one_len]; (first | lia | omega)) ?e2 (by rw [List.length_map]; (first | lia | omega)) (by (first | lia | omega)) (fun _ => by (first | lia | omega)) ?_
        case e1 => rw [hrw]; exact want_parts fun x hx => (hrr x hx).1
        case e2 =>
          intro y hy
          obtain ⟨x, hx, rfl⟩ := List.mem_map.mp hy
          have := hrr x (List.mem_append_left _ hx)
          rw [lead_one_len]; (first | lia | omega)
        intro h12 tk12 hk12
        rw [hell]
        have F12 := Fr.ext F11 hk12
        have N12 := News.ext N11 hk12
        clear F11 N11
        walk_at "m_run3b"
        · (rename (P != P) = true => hb)
          exact absurd hb (by simp)
        · refine next h12 tk12 _ _ oO' Dn cn Dr cr nv rv v F12 N12 (fun q hq => .tail _ (.tail _ (hsub q hq))) (List.forall_mem_cons.mpr ⟨fun v h => (by cases h), htl3⟩) dO' (.head _) (hrow ▸ hIr) (.tail _ (.head _)) hIn mp md mt ?_ ?_
          · intro hno
            rcases hv2 with ⟨h, _⟩ | ⟨_, Dd, dv, cd, h1, h2, h3⟩
            · rw [← hPP, decide_eq_false_iff_not] at h
              exact absurd hno h
            · exact ⟨Dd, dv, cd, h1, .tail _ (.tail _ h2), h3⟩
          · intro y a b c e f
            exact (if_neg f).trans ((mmy y e).trans (m5y y a b c))
end
end
section
theorem getD_app (cs : List Int) (m j : Nat) : (cs ++ List.replicate m 0).getD j 0 = cs.getD j 0 := by
  rw [List.getD_eq_getElem?_getD, List.getD_eq_getElem?_getD]
  by_cases h : j < cs.length
  · rw [List.getElem?_append_left h]
  · rw [List.getElem?_append_right (by (first | lia | omega)), List.getElem?_replicate, List.getElem?_eq_none (by (first | lia | omega) : cs.length ≤ j)]
    split <;> rfl
theorem cntOne_getD (cs : List Int) (b j : Nat) : (cntOne cs b).getD j 0 = cs.getD j 0 + if j = b then 1 else 0 := by
  unfold cntOne
  have hl : b < (cs ++ List.replicate (b + 1 - cs.length) 0 : List Int).length := by simp; (first | lia | omega)
  by_cases h : j = b
  · subst h
    rw [if_pos rfl, List.getD_eq_getElem?_getD, List.getElem?_set_self hl, Option.getD_some, getD_app]
  · rw [if_neg h, List.getD_eq_getElem?_getD, List.getElem?_set_ne (by (first | lia | omega)), ← List.getD_eq_getElem?_getD, getD_app]; (first | lia | omega)
theorem cntOne_length (cs : List Int) (b : Nat) : (cntOne cs b).length = max cs.length (b + 1) := by
  unfold cntOne; simp; (first | lia | omega)
theorem cntFold_getD : ∀ (rs cs : List Int) (j : Nat), (∀ r ∈ rs, 0 ≤ r) → (rs.foldl (fun cs r => cntOne cs r.toNat) cs).getD j 0 = cs.getD j 0 + (rs.count (j : Int) : Int)
  | [], cs, j, _ => by simp
  | r :: rs, cs, j, h => by
    have h0 := h r (.head _)
    rw [List.foldl_cons, cntFold_getD rs _ j fun z hz => h z (.tail _ hz), cntOne_getD, List.count_cons]
    by_cases e : j = r.toNat
    · rw [if_pos e, if_pos (by rw [beq_iff_eq]; (first | lia | omega))]; (first | lia | omega)
    · rw [if_neg e, if_neg (by rw [beq_iff_eq]; (first | lia | omega))]; (first | lia | omega)
theorem cnt_getD {rs : List Int} (h : ∀ r ∈ rs, 0 ≤ r) (j : Nat) : (cntOf rs).getD j 0 = (rs.count (j : Int) : Int) := by
  unfold cntOf
  rw [cntFold_getD rs [] j h]; simp
theorem cntFold_len : ∀ (rs cs : List Int), cs.length ≤ (rs.foldl (fun cs r => cntOne cs r.toNat) cs).length ∧ (∀ r ∈ rs, r.toNat < (rs.foldl (fun cs r => cntOne cs r.toNat) cs).length) ∧
    ((rs.foldl (fun cs r => cntOne cs r.toNat) cs).length = cs.length ∨ ∃ r ∈ rs, (rs.foldl (fun cs r => cntOne cs r.toNat) cs).length = r.toNat + 1)
  | [], cs => ⟨Nat.le_refl _, (fun _ h => by cases h), .inl rfl⟩
  | r :: rs, cs => by
    rw [List.foldl_cons]
    obtain ⟨h1, h2, h3⟩ := cntFold_len rs (cntOne cs r.toNat)
    rw [cntOne_length] at h1 h3
    refine ⟨Nat.le_trans (Nat.le_max_left _ _) h1, fun z hz => ?_, ?_⟩
    · rcases List.mem_cons.mp hz with rfl | hz
      · exact Nat.lt_of_lt_of_le (Nat.lt_succ_self _) (Nat.le_trans (Nat.le_max_right _ _) h1)
      · exact h2 z hz
    · rcases h3 with h3 | ⟨z, hz, h3⟩
      · by_cases hc : cs.length ≤ r.toNat + 1
        · exact .inr ⟨r, .head _, by (first | lia | omega)⟩
        · exact .inl (by (first | lia | omega))
      · exact .inr ⟨z, .tail _ hz, h3⟩
theorem cnt_len {rs : List Int} (hne : rs ≠ []) : (∀ r ∈ rs, r.toNat < (cntOf rs).length) ∧ ∃ r ∈ rs, (cntOf rs).length = r.toNat + 1 := by
  obtain ⟨_, h2, h3⟩ := cntFold_len rs []
  refine ⟨h2, ?_⟩
  rcases h3 with h3 | h3
  · obtain ⟨r, l, rfl⟩ : ∃ r l, rs = r :: l := by cases rs with | nil => exact absurd rfl hne | cons r l => exact ⟨r, l, rfl⟩
    have := h2 r (.head _)
    rw [h3] at this
    exact absurd this (Nat.not_lt_zero _)
  · exact h3
noncomputable def cntR (R : Nat) (rs : List Int) : List Int := (rangeKs 0 R).map fun j => (rs.count j : Int)
theorem cntR_len (R : Nat) (rs : List Int) : (cntR R rs).length = R := by unfold cntR; rw [List.length_map, rangeKs_length]
theorem cntR_get {R : Nat} {rs : List Int} {j : Nat} (h : j < R) : (cntR R rs)[j]? = some (rs.count (j : Int) : Int) := by
  unfold cntR rangeKs
  rw [List.map_map, List.getElem?_map, List.getElem?_range h]; simp
theorem cntR_eq {R : Nat} {rs : List Int} (hne : rs ≠ []) (h : ∀ r ∈ rs, 0 ≤ r ∧ r < R) : cntR R rs = cntOf rs ++ List.replicate (R - (cntOf rs).length) 0 := by
  obtain ⟨h1, r, hr, h2⟩ := cnt_len hne
  have hr2 := h r hr
  apply List.ext_getElem?
  intro j
  by_cases hj : j < R
  · rw [cntR_get hj, ← cnt_getD (fun r hr => (h r hr).1) j, ← getD_app _ (R - (cntOf rs).length), List.getD_eq_getElem?_getD]
    have : j < (cntOf rs ++ List.replicate (R - (cntOf rs).length) 0 : List Int).length := by simp; (first | lia | omega)
    rw [List.getElem?_eq_getElem this]; rfl
  · rw [List.getElem?_eq_none (by rw [cntR_len]; (first | lia | omega)), List.getElem?_eq_none (by simp; (first | lia | omega))]
theorem count_rot {R t y : Int} (hy : 0 ≤ y ∧ y < R) : ∀ {ws : List Int}, (∀ w ∈ ws, 0 ≤ w ∧ w < R) → (ws.map (rot R t)).count (rot R t y) = ws.count y
  | [], _ => rfl
  | w :: ws, h => by
    rw [List.map_cons, List.count_cons, List.count_cons, count_rot hy fun z hz => h z (.tail _ hz)]
    congr 1
    by_cases e : w = y
    · subst e; simp
    · rw [if_neg (by rw [beq_iff_eq]; exact fun q => e (rot_inj (h w (.head _)) hy q)), if_neg (by rw [beq_iff_eq]; exact e)]
/-- the counts of the turned wishes are the counts, turned -/
theorem cntR_rot {n tn : Nat} {ws : List Int} (ht : tn < n + 1) (h : ∀ w ∈ ws, 0 ≤ w ∧ w < (n : Int) + 1) :
    cntR (n + 1) (ws.map (rot ((n : Int) + 1) tn)) = (cntR (n + 1) ws).drop (n + 1 - tn) ++ (cntR (n + 1) ws).take (n + 1 - tn) := by
  apply List.ext_getElem?
  intro j
  have hdl : ((cntR (n + 1) ws).drop (n + 1 - tn)).length = tn := by rw [List.length_drop, cntR_len]; (first | lia | omega)
  by_cases hj : j < n + 1
  · rw [cntR_get hj]
    by_cases hjt : j < tn
    · rw [List.getElem?_append_left (by (first | lia | omega)), List.getElem?_drop, cntR_get (by (first | lia | omega)), ← count_rot (R := (n : Int) + 1) (t := tn) (y := ((n + 1 - tn + j : Nat) : Int)) (by (first | lia | omega)) h]
      congr 3
      unfold rot
      rw [show ((n + 1 - tn + j : Nat) : Int) + tn = j + ((n : Int) + 1) by (first | lia | omega), Int.add_emod_right, Int.emod_eq_of_lt (by (first | lia | omega)) (by (first | lia | omega))]
    · rw [List.getElem?_append_right (by (first | lia | omega)), hdl, List.getElem?_take, if_pos (by (first | lia | omega)), cntR_get (by (first | lia | omega)), ← count_rot (R := (n : Int) + 1) (t := tn) (y := ((j - tn : Nat) : Int)) (by (first | lia | omega)) h]
      congr 3
      unfold rot
      rw [show ((j - tn : Nat) : Int) + tn = j by (first | lia | omega), Int.emod_eq_of_lt (by (first | lia | omega)) (by (first | lia | omega))]
  · rw [List.getElem?_eq_none (by rw [cntR_len]; (first | lia | omega)), List.getElem?_eq_none (by rw [List.length_append, hdl, List.length_take, cntR_len]; (first | lia | omega))]
theorem dval_zeros (w : Nat) : ∀ m : Nat, dval w (List.replicate m 0) = 0
  | 0 => rfl
  | m + 1 => by rw [List.replicate_succ, dval, dval_zeros w m]; simp
theorem dval_small {w : Nat} : ∀ {ds : List Int}, ds ≠ [] → (∀ x ∈ ds, 0 ≤ x ∧ x + 1 < 2 ^ w) → dval w ds + 1 < 2 ^ (w * ds.length)
  | [], h, _ => absurd rfl h
  | [x], _, h => by
    have := (h x (.head _)).2
    show x + 2 ^ w * 0 + 1 < 2 ^ (w * 1)
    rw [Nat.mul_one]; (first | lia | omega)
  | x :: y :: ds, _, h => by
    have ih := dval_small (ds := y :: ds) (by simp) fun z hz => h z (.tail _ hz)
    have hx := h x (.head _)
    rw [dval, List.length_cons, Nat.mul_succ, Nat.add_comm, Int.pow_add]
    generalize dval w (y :: ds) = D at *
    generalize (2 : Int) ^ (w * (y :: ds).length) = P at *
    have hp : (0 : Int) < 2 ^ w := Int.pow_pos (by decide)
    generalize (2 : Int) ^ w = B at *
    have h1 : B * (D + 2) ≤ B * P := Int.mul_le_mul_of_nonneg_left (by (first | lia | omega)) (by (first | lia | omega))
    rw [Int.mul_add] at h1
    (first | lia | omega)
theorem digs_dval {w : Nat} : ∀ {ds : List Int}, (∀ x ∈ ds, 0 ≤ x ∧ x < 2 ^ w) → digs w ds.length (dval w ds) = ds
  | [], _ => rfl
  | x :: ds, h => by
    have hx := h x (.head _)
    rw [List.length_cons, digs, dval, Int.add_mul_emod_self_left, Int.emod_eq_of_lt hx.1 hx.2, Int.add_mul_ediv_left _ _ (by (first | lia | omega)), Int.ediv_eq_zero_of_lt hx.1 hx.2, Int.zero_add, digs_dval fun z hz => h z (.tail _ hz)]
theorem digCount_dval {w : Nat} (hw : 0 < w) {ds : List Int} {x : Int} (h : ∀ y ∈ ds ++ [x], 0 ≤ y ∧ y < 2 ^ w) (hx : 0 < x) : digCount w (dval w (ds ++ [x])) = ds.length + 1 := by
  have hb := dval_bound h
  have hlo : 2 ^ (w * ds.length) ≤ dval w (ds ++ [x]) := by
    rw [dval_append]
    have h1 := (dval_bound (n := w) (xs := ds) fun y hy => h y (List.mem_append_left _ hy)).1
    have h2 : dval w [x] = x := by show x + 2 ^ w * 0 = x; (first | lia | omega)
    rw [h2]
    have h3 : (2 : Int) ^ (w * ds.length) * 1 ≤ 2 ^ (w * ds.length) * x := Int.mul_le_mul_of_nonneg_left (by (first | lia | omega)) (Int.le_of_lt (Int.pow_pos (by decide)))
    (first | lia | omega)
  rw [List.length_append, List.length_singleton] at hb
  generalize dval w (ds ++ [x]) = D at *
  have hcast : ∀ k : Nat, ((2 ^ k : Nat) : Int) = 2 ^ k := fun k => by rw [Int.natCast_pow]; rfl
  have b1 : Builtin.Int.intBits D ≤ w * (ds.length + 1) := PySem.intBits_le_iff.mpr (by have := hcast (w * (ds.length + 1)); (first | lia | omega))
  have b2 : ¬ Builtin.Int.intBits D ≤ w * ds.length := fun hc => by
    have := PySem.intBits_le_iff.mp hc
    have := hcast (w * ds.length)
    (first | lia | omega)
  unfold digCount
  rw [Nat.mul_succ] at b1
  refine Nat.div_eq_of_lt_le ?_ ?_
  · rw [Nat.add_mul, Nat.one_mul, Nat.mul_comm]; (first | lia | omega)
  · rw [Nat.add_mul, Nat.add_mul, Nat.one_mul, Nat.mul_comm]; (first | lia | omega)
/-- the digits: dividing the moved number by the ring's power less one turns them -/
theorem turn_digits {n tn wd k : Nat} {ws : List Int} (hn : 4 ≤ n) (hk : ws.length = k) (hk2 : 2 ≤ k ∧ k ≤ 6) (hwd : 4 ≤ wd) (ht : tn < n + 1) (h : ∀ w ∈ ws, 0 ≤ w ∧ w < (n : Int) + 1) :
    (dval wd (cntR (n + 1) ws) * 2 ^ (wd * tn)) % (2 ^ (wd * (n + 1)) - 1) = dval wd (cntOf (ws.map (rot ((n : Int) + 1) tn))) ∧
    (dval wd (cntR (n + 1) ws) * 2 ^ (wd * tn)) / (2 ^ (wd * (n + 1)) - 1) = dval wd (cntOf (ws.map (rot ((n : Int) + 1) tn))) % 2 ^ (wd * tn) ∧
    digs wd (digCount wd (dval wd (cntOf (ws.map (rot ((n : Int) + 1) tn))))) (dval wd (cntOf (ws.map (rot ((n : Int) + 1) tn)))) = cntOf (ws.map (rot ((n : Int) + 1) tn)) ∧
    0 ≤ dval wd (cntR (n + 1) ws) ∧ dval wd (cntR (n + 1) ws) < 2 ^ (wd * (n + 1)) ∧ (∀ x ∈ cntR (n + 1) ws, 0 ≤ x ∧ x < 2 ^ wd) ∧ 0 ≤ dval wd (cntOf (ws.map (rot ((n : Int) + 1) tn))) ∧ dval wd (cntOf (ws.map (rot ((n : Int) + 1) tn))) < 2 ^ (wd * (n + 1)) := by
  have h16 : (16 : Int) ≤ 2 ^ wd := by
    have : (2 : Int) ^ 4 * 1 ≤ 2 ^ 4 * 2 ^ (wd - 4) := Int.mul_le_mul_of_nonneg_left (by have := Int.pow_pos (n := (2 : Int)) (m := wd - 4) (by decide); (first | lia | omega)) (by decide)
    rw [← Int.pow_add, show 4 + (wd - 4) = wd by (first | lia | omega)] at this
    (first | lia | omega)
  have hcnt : ∀ (rs : List Int), rs.length = k → ∀ x ∈ cntR (n + 1) rs, 0 ≤ x ∧ x + 1 < 2 ^ wd := by
    intro rs hl x hx
    unfold cntR at hx
    obtain ⟨j, _, rfl⟩ := List.mem_map.mp hx
    have := List.count_le_length (a := j) (l := rs)
    (first | lia | omega)
  obtain ⟨nw, hnw⟩ : ∃ nw, nw = ws.map (rot ((n : Int) + 1) tn) := ⟨_, rfl⟩
  have hnl : nw.length = k := by rw [hnw, List.length_map, hk]
  have hnr : ∀ x ∈ nw, 0 ≤ x ∧ x < ((n + 1 : Nat) : Int) := by
    intro x hx
    rw [hnw] at hx
    obtain ⟨y, _, rfl⟩ := List.mem_map.mp hx
    have := rot_range (R := (n : Int) + 1) (t := tn) (x := y) (by (first | lia | omega))
    (first | lia | omega)
  have hne : nw ≠ [] := fun e => by rw [e] at hnl; simp at hnl; (first | lia | omega)
  have hrot := cntR_rot ht h
  rw [← hnw] at hrot ⊢
  have heq := cntR_eq hne hnr
  have hsp : cntR (n + 1) ws = (cntR (n + 1) ws).take (n + 1 - tn) ++ (cntR (n + 1) ws).drop (n + 1 - tn) := (List.take_append_drop _ _).symm
  have hall := hcnt ws hk
  have hall2 := hcnt nw hnl
  have hlen := cntR_len (n + 1) ws
  have hlen2 := cntR_len (n + 1) nw
  generalize cntR (n + 1) ws = cs at *
  have hlol : (cs.take (n + 1 - tn)).length = n + 1 - tn := by rw [List.length_take]; (first | lia | omega)
  have hhil : (cs.drop (n + 1 - tn)).length = tn := by rw [List.length_drop]; (first | lia | omega)
  have hD : dval wd cs = dval wd (cs.take (n + 1 - tn)) + 2 ^ (wd * (n + 1 - tn)) * dval wd (cs.drop (n + 1 - tn)) := by
    conv => lhs; rw [hsp]
    rw [dval_append, hlol]
  have hE : dval wd (cntOf nw) = dval wd (cs.drop (n + 1 - tn)) + 2 ^ (wd * tn) * dval wd (cs.take (n + 1 - tn)) := by
    have h1 : dval wd (cntR (n + 1) nw) = dval wd (cntOf nw) := by rw [heq, dval_append, dval_zeros, Int.mul_zero, Int.add_zero]
    rw [← h1, hrot, dval_append, hhil]
  have hlt : ∀ x ∈ cs, 0 ≤ x ∧ x < 2 ^ wd := fun x hx => by have := hall x hx; (first | lia | omega)
  have hbE : 0 ≤ dval wd (cntOf nw) ∧ dval wd (cntOf nw) + 1 < 2 ^ (wd * (n + 1)) := by
    have h1 : dval wd (cntR (n + 1) nw) = dval wd (cntOf nw) := by rw [heq, dval_append, dval_zeros, Int.mul_zero, Int.add_zero]
    have h2 := dval_small (w := wd) (ds := cntR (n + 1) nw) (fun e => by rw [e] at hlen2; simp at hlen2) hall2
    rw [h1, hlen2] at h2
    have h3 := (dval_bound (n := wd) (xs := cntR (n + 1) nw) fun x hx => by have := hall2 x hx; (first | lia | omega)).1
    rw [h1] at h3
    exact ⟨h3, h2⟩
  have hbhi := dval_bound (n := wd) (xs := cs.drop (n + 1 - tn)) fun x hx => hlt x (List.mem_of_mem_drop hx)
  rw [hhil] at hbhi
  have hbD := dval_bound (n := wd) (xs := cs) hlt
  rw [hlen] at hbD
  have hmul : dval wd cs * 2 ^ (wd * tn) = dval wd (cntOf nw) + (2 ^ (wd * (n + 1)) - 1) * dval wd (cs.drop (n + 1 - tn)) := by
    have hp : (2 : Int) ^ (wd * (n + 1)) = 2 ^ (wd * (n + 1 - tn)) * 2 ^ (wd * tn) := by
      rw [← Int.pow_add, ← Nat.mul_add, show n + 1 - tn + tn = n + 1 by (first | lia | omega)]
    rw [hD, hE, hp, Int.add_mul, Int.sub_mul, Int.one_mul, Int.mul_assoc, Int.mul_comm (dval wd (cs.drop (n + 1 - tn))) (2 ^ (wd * tn)), ← Int.mul_assoc, Int.mul_comm (dval wd (cs.take (n + 1 - tn))) (2 ^ (wd * tn))]
    (first | lia | omega)
  have hM : (0 : Int) < 2 ^ (wd * (n + 1)) - 1 := by (first | lia | omega)
  refine ⟨?_, ?_, ?_, hbD.1, hbD.2, hlt, hbE.1, by (first | lia | omega)⟩
  · rw [hmul, Int.add_mul_emod_self_left, Int.emod_eq_of_lt hbE.1 (by (first | lia | omega))]
  · rw [hmul, Int.add_mul_ediv_left _ _ (by (first | lia | omega)), Int.ediv_eq_zero_of_lt hbE.1 (by (first | lia | omega)), Int.zero_add]
    rw [hE, Int.add_mul_emod_self_left, Int.emod_eq_of_lt hbhi.1 hbhi.2]
  · obtain ⟨h1, r, hr, h2⟩ := cnt_len hne
    have hcd : ∀ y ∈ cntOf nw, 0 ≤ y ∧ y < 2 ^ wd := fun y hy => by
      have : y ∈ cntR (n + 1) nw := by rw [heq]; exact List.mem_append_left _ hy
      have := hall2 y this
      (first | lia | omega)
    obtain ⟨ds, x, hdx⟩ : ∃ ds x, cntOf nw = ds ++ [x] := by
      rcases List.eq_nil_or_concat (cntOf nw) with e | ⟨a, b, e⟩
      · rw [e] at h2; simp at h2
      · exact ⟨a, b, by rw [e, List.concat_eq_append]⟩
    have hxpos : 0 < x := by
      have hg := cnt_getD (rs := nw) (fun r hr => (hnr r hr).1) r.toNat
      have hdl : ds.length = r.toNat := by rw [hdx] at h2; simp at h2; exact h2
      rw [hdx, List.getD_eq_getElem?_getD, List.getElem?_append_right (by (first | lia | omega)), ← hdl, Nat.sub_self] at hg
      simp at hg
      have hr0 := (hnr r hr).1
      have : 0 < nw.count r := List.count_pos_iff.mpr hr
      rw [hg, hdl, show ((r.toNat : Nat) : Int) = r by (first | lia | omega)]
      (first | lia | omega)
    rw [hdx] at hcd ⊢
    rw [digCount_dval (by (first | lia | omega)) hcd hxpos]
    have := digs_dval hcd
    rwa [List.length_append] at this
end
section
noncomputable def NT (o : Obj) : Prop := (∀ v, o.data ≠ .cell v) ∧ ∀ ps, o ≠ tabObj ps
theorem NT.list (vs : List Value) (c : Nat) : NT (listV vs c) := ⟨fun v e => (by cases e), fun ps e => (by cases e)⟩
theorem NT.cls {o : Obj} (h1 : o.cls ≠ .none) (h2 : ∀ v, o.data ≠ .cell v) : NT o := ⟨h2, fun ps e => h1 (by rw [e])⟩
theorem TabOk.pack1 {g h : Heap} {L P : Addr} {m : Str → Option Value} {pos : Pos} {qual : Str} (x : TabOk P pos qual h) (F : Fr g L h m) (hg : g.get? P = none) (hPL : P ≠ L) :
    ∃ tb : List (Addr × Obj), (∀ q ∈ tb, ∀ v, q.2.data ≠ .cell v) ∧ News g L h tb ∧ ∀ h' : Heap, (∀ b o, g.get? b = some o → h'.get? b = some o) → (∀ q ∈ tb, h'.get? q.1 = some q.2) → TabOk P pos qual h' := by
  obtain ⟨ps, h1, h2, h3⟩ := x
  have z : h.get? P = some (tabObj ps) ∧ P ≠ L ∧ g.get? P = none := ⟨h1, hPL, hg⟩
  rcases h3 with hn | ⟨c', e1, c₂, oc, vs, t, e2, hoc, hd, hv⟩
  · exact ⟨[(P, tabObj ps)], List.forall_mem_singleton.mpr fun v e => (by cases e), List.forall_mem_singleton.mpr z, fun h' hk hT => ⟨ps, hT _ (.head _), h2, .inl hn⟩⟩
  · cases e : g.get? c₂ with
    | some o =>
      have e3 := F.keep _ _ e
      rw [hoc] at e3
      cases e3
      exact ⟨[(P, tabObj ps)], List.forall_mem_singleton.mpr fun v e => (by cases e), List.forall_mem_singleton.mpr z, fun h' hk hT => ⟨ps, hT _ (.head _), h2, .inr ⟨c', e1, c₂, oc, vs, t, e2, hk _ _ e, hd, hv⟩⟩⟩
    | none =>
      have hne : c₂ ≠ L := fun q => by
        obtain ⟨oL, _, _, a, b, _⟩ := F.ns
        rw [q, a] at hoc
        cases hoc
        rw [b] at hd
        cases hd
      exact ⟨[(P, tabObj ps), (c₂, oc)], List.forall_mem_cons.mpr ⟨fun v e => (by cases e), List.forall_mem_singleton.mpr fun v e => (by rw [hd] at e; cases e)⟩, List.forall_mem_cons.mpr ⟨z, List.forall_mem_singleton.mpr ⟨hoc, hne, e⟩⟩,
        fun h' hk hT => ⟨ps, hT _ (.head _), h2, .inr ⟨c', e1, c₂, oc, vs, t, e2, hT _ (.tail _ (.head _)), hd, hv⟩⟩⟩
theorem TabOk.off {P P' : Addr} {pos pos' : Pos} {qual qual' : Str} {h : Heap} {c' : Addr} {ps : Array Value} (x : h.CodeRec (.ref c') qual) (y : h.get? P' = some (tabObj ps)) (ht : TriplesOk ps.toList) : ∃ oc vs t, h.get? c' = some oc ∧ c' ≠ P' ∧ oc.data = .fields vs ∧ vs[1]? = some (.str qual t) := by
  obtain ⟨c₂, oc, vs, t, e2, hoc, hd, hv⟩ := codeRec_hide x y ht
  cases e2
  refine ⟨oc, vs, t, of_hideAll _ hoc, fun e => ?_, hd, hv⟩
  rw [e, hideAll_none _ (.head _)] at hoc
  cases hoc
theorem TabOk.keep3 {P P1 P2 : Addr} {pos pos1 pos2 : Pos} {qual qual1 qual2 : Str} {h h' : Heap} (x : TabOk P pos qual h) (y1 : TabOk P1 pos1 qual1 h) (y2 : TabOk P2 pos2 qual2 h) (h1 : P ≠ P1) (h2 : P ≠ P2) (k : ∀ b o, b ≠ P1 → b ≠ P2 → h.get? b = some o → h'.get? b = some o) : TabOk P pos qual h' := by
  obtain ⟨ps, a1, a2, a3⟩ := x
  obtain ⟨ps1, b1, b2, _⟩ := y1
  obtain ⟨ps2, d1, d2, _⟩ := y2
  refine ⟨ps, k _ _ h1 h2 a1, a2, a3.imp id fun ⟨c', e1, e2⟩ => ⟨c', e1, ?_⟩⟩
  obtain ⟨oc, vs, t, g1, g2, g3, g4⟩ := TabOk.off (pos := pos) (pos' := pos1) (qual' := qual1) (P := P) e2 b1 b2
  obtain ⟨_, _, _, _, g5, _⟩ := TabOk.off (pos := pos) (pos' := pos2) (qual' := qual2) (P := P) e2 d1 d2
  exact ⟨c', oc, vs, t, rfl, k _ _ g2 g5 g1, g3, g4⟩
noncomputable def Tabs (h : Heap) : Prop := TabOk 62 pos62 qual62 h ∧ TabOk 55 pos55 qual55 h ∧ TabOk 156 pos156 qual156 h
theorem Tabs.pack {g h : Heap} {L : Addr} {m : Str → Option Value} {d : Nat} (x : Tabs h) (F : Fr g L h m) (W : Law d w p loose mean mg mb A g L) :
    ∃ tb : List (Addr × Obj), (∀ q ∈ tb, ∀ v, q.2.data ≠ .cell v) ∧ News g L h tb ∧ ∀ h' : Heap, (∀ b o, g.get? b = some o → h'.get? b = some o) → (∀ q ∈ tb, h'.get? q.1 = some q.2) → Tabs h' := by
  obtain ⟨t1, a1, a2, a3⟩ := x.1.pack1 F W.n62 (Nat.ne_of_lt W.l62)
  obtain ⟨t2, b1, b2, b3⟩ := x.2.1.pack1 F W.n55 (Nat.ne_of_lt W.l55)
  obtain ⟨t3, c1, c2, c3⟩ := x.2.2.pack1 F W.n156 (Nat.ne_of_lt W.l156)
  refine ⟨t1 ++ (t2 ++ t3), ?_, ?_, fun h' hk hT => ⟨a3 h' hk fun q hq => hT q (by simp [hq]), b3 h' hk fun q hq => hT q (by simp [hq]), c3 h' hk fun q hq => hT q (by simp [hq])⟩⟩
  · intro q hq
    rcases List.mem_append.mp hq with h | h
    · exact a1 q h
    · rcases List.mem_append.mp h with h | h
      · exact b1 q h
      · exact c1 q h
  · intro q hq
    rcases List.mem_append.mp hq with h | h
    · exact a2 q h
    · rcases List.mem_append.mp h with h | h
      · exact b2 q h
      · exact c2 q h
theorem nt_off {h : Heap} {P a : Addr} {o : Obj} {ps : Array Value} (hP : h.get? P = some (tabObj ps)) (ha : h.get? a = some o) (hn : NT o ∨ ∃ v, o.data = .cell v) : a ≠ P := fun e => by
  rw [e, hP] at ha
  have e2 : tabObj ps = o := Option.some.inj ha
  rcases hn with hn | ⟨v, hv⟩
  · exact hn.2 ps e2.symm
  · rw [← e2] at hv; cases hv
theorem Fr.ext3 {g h h' : Heap} {L P1 P2 : Addr} {m : Str → Option Value} (F : Fr g L h m) (h1 : g.get? P1 = none) (h2 : g.get? P2 = none) (l1 : L ≠ P1) (l2 : L ≠ P2) (k : ∀ b o, b ≠ P1 → b ≠ P2 → h.get? b = some o → h'.get? b = some o) : Fr g L h' m := by
  obtain ⟨⟨o, es, ep, a, b, c, d⟩, kk, ab⟩ := F
  exact ⟨⟨o, es, ep, k _ _ l1 l2 a, b, c, d⟩, fun b o e => k _ _ (fun q => by rw [q, h1] at e; cases e) (fun q => by rw [q, h2] at e; cases e) (kk _ _ e), ab⟩
theorem led_keep {g h h' : Heap} {L : Addr} {news : List (Addr × Obj)} (N : News g L h news) (hq : ∀ q ∈ news, NT q.2 ∨ ∃ v, q.2.data = .cell v) (x : Tabs h) (k : ∀ b o, b ≠ 62 → b ≠ 55 → b ≠ 156 → h.get? b = some o → h'.get? b = some o) : News g L h' news := fun q hm => by
  obtain ⟨⟨p1, a1, _⟩, ⟨p2, a2, _⟩, ⟨p3, a3, _⟩⟩ := x
  have hn := (N q hm).1
  exact ⟨k _ _ (nt_off a1 hn (hq q hm)) (nt_off a2 hn (hq q hm)) (nt_off a3 hn (hq q hm)) hn, (N q hm).2⟩
theorem Fr.ext4 {g h h' : Heap} {L : Addr} {m : Str → Option Value} {d : Nat} (F : Fr g L h m) (W : Law d w p loose mean mg mb A g L) (k : ∀ b o, b ≠ 62 → b ≠ 55 → b ≠ 156 → h.get? b = some o → h'.get? b = some o) : Fr g L h' m := by
  obtain ⟨⟨o, es, ep, a, b, c, d⟩, kk, ab⟩ := F
  exact ⟨⟨o, es, ep, k _ _ (Nat.ne_of_gt W.l62) (Nat.ne_of_gt W.l55) (Nat.ne_of_gt W.l156) a, b, c, d⟩,
    fun b o e => k _ _ (fun q => by rw [q, W.n62] at e; cases e) (fun q => by rw [q, W.n55] at e; cases e) (fun q => by rw [q, W.n156] at e; cases e) (kk _ _ e), ab⟩
theorem cells_nt {L : Addr} {oS oO oT oW oC oR : Obj} {tl : List (Addr × Obj)} {v6 v5 v4 v3 v2 v1 : Option Value} (d6 : oS.data = .cell v6) (d5 : oO.data = .cell v5) (d4 : oT.data = .cell v4) (d3 : oW.data = .cell v3) (d2 : oC.data = .cell v2) (d1 : oR.data = .cell v1) (htl : ∀ q ∈ tl, NT q.2) :
    ∀ q ∈ (L + 6, oS) :: (L + 5, oO) :: (L + 4, oT) :: (L + 3, oW) :: (L + 2, oC) :: (L + 1, oR) :: tl, NT q.2 ∨ ∃ v, q.2.data = .cell v := by
  intro q hq
  simp only [List.mem_cons] at hq
  rcases hq with rfl | rfl | rfl | rfl | rfl | rfl | hq
  · exact .inr ⟨_, d6⟩
  · exact .inr ⟨_, d5⟩
  · exact .inr ⟨_, d4⟩
  · exact .inr ⟨_, d3⟩
  · exact .inr ⟨_, d2⟩
  · exact .inr ⟨_, d1⟩
  · exact .inl (htl q hq)
theorem led_tail {g h : Heap} {L : Addr} {c6 c5 c4 c3 c2 c1 : Addr × Obj} {tl tl' : List (Addr × Obj)} (N : News g L h (c6 :: c5 :: c4 :: c3 :: c2 :: c1 :: tl)) (N' : News g L h tl') : News g L h (c6 :: c5 :: c4 :: c3 :: c2 :: c1 :: tl') := fun q hq => by
  simp only [List.mem_cons] at hq
  rcases hq with h | h | h | h | h | h | h
  · exact N q (by simp [h])
  · exact N q (by simp [h])
  · exact N q (by simp [h])
  · exact N q (by simp [h])
  · exact N q (by simp [h])
  · exact N q (by simp [h])
  · exact N' q h
theorem led_rest {g h : Heap} {L : Addr} {c6 c5 c4 c3 c2 c1 : Addr × Obj} {tl : List (Addr × Obj)} (N : News g L h (c6 :: c5 :: c4 :: c3 :: c2 :: c1 :: tl)) : News g L h tl := fun q hq => N q (.tail _ (.tail _ (.tail _ (.tail _ (.tail _ (.tail _ hq))))))
theorem news_app {g h : Heap} {L : Addr} {a b : List (Addr × Obj)} (N : News g L h a) (N' : News g L h b) : News g L h (a ++ b) := fun q hq => (List.mem_append.mp hq).elim (N q) (N' q)
theorem news_one {g h h' : Heap} {L D : Addr} {m : Str → Option Value} {o : Obj} (F : Fr g L h m) (h0 : h.get? D = none) (hD : h'.get? D = some o) : News g L h' [(D, o)] :=
  List.forall_mem_singleton.mpr ⟨hD, (fun e => by
    obtain ⟨oL, _, _, hh, _⟩ := F.ns
    have e2 : D = L := e
    rw [e2, hh] at h0; cases h0), (by
    cases e : g.get? D with
    | none => rfl
    | some o2 => rw [F.keep _ _ e] at h0; cases h0)⟩
noncomputable def normD (ns : List Int) : PyData := .tuple [.tuple (ns.map PyData.int), .int 0]
theorem normD_shaped (ns : List Int) : SeqAt.shaped (normD ns) = true := by
  simp [normD, SeqAt.shaped, PyData.canLay0, PyData.canLayAll0, PyData.depth, PyData.depthAll, ke_canLayAll0, ke_depthAll]
theorem normD_eqv (ns : List Int) : PyData.eqv (normD ns) (normD ns) = true := by
  simp [normD, PyData.eqv, PyData.eqvAll, ked_eqvAll]
theorem normD_reads {h : Heap} {Tn Tc : Addr} {t : Tok} {cn c : Nat} {vs : List Value} {ns : List Int} (h1 : h.get? Tn = some (tupV [.ref Tc, .int 0 t] cn)) (h2 : h.get? Tc = some (tupV vs c)) (hi : IntsAre vs ns) : ∃ as, Reads h (.ref Tn) (normD ns) as :=
  ⟨_, .tuple h1 rfl rfl (.cons (reads_newDataT ⟨_, h2, rfl, _, rfl⟩ (ke_carried hi)) (.cons (.int _ _) .nil))⟩
theorem gl_global {E : Value → Shared → Prop} {Q : Value → Shared → Prop} {env : Env} {g : Heap} {C' : Addr} {m : Str → Option Value} {x : Str} {pos : Pos} {v : Value} (F : Fr g C' s.heap m) (X : (Mine.kf.heap_1 w.params).In g) (T : Top p loose mean mg mb g) (e : nsIn (Mine.kf.heap_1 w.params) mainGlobals x = some (some v))
    (hg : env.globals = mainGlobals) (hk : env.scope.kind = .function) (hx : env.kindOf x = some .globalImplicit) (hd : (x == ("__debug__" : Str)) = false) (h : Q v s) : wpAny (MM w) A (eval (.Name x pos) env) Q E s :=
  Calls.Name_function_global hk hx (Calls.loadGlobal_global (env := env) (by rw [hg]; exact T.g.keeps F.keep) (mg_of X T.g e) h) hd
theorem ints_of {f : Int → Int} : ∀ {us : List Int} {ys : List Value}, Paired (fun x y => ∃ u, y = .int (f x) u) us ys → IntsAre ys (us.map f)
  | _, _, .nil => .nil
  | _, _, .cons ⟨u, e⟩ r => by subst e; exact .cons _ _ (ints_of r)
theorem ws_get2 {w : World} {A : Around} {g : Heap} {L x dx : Addr} {m : Str → Option Value} {s : Shared} {Q E : Value → Shared → Prop} {sl : Array (Option Value)} {es : List DictEntry} {n : Nat} {name : Str} {v : Value} {expr : Bool} (F : Fr g L s.heap m) (X₀ : (Mine.kf.heap_1 w.params).In g)
    (h1 : s.heap.get? x = some ⟨.ref 150, some dx, .plain, sl⟩) (h2 : s.heap.get? dx = some (dictOf es n)) (hl : getL name es = some (some v)) (hg : plainGet (Mine.kf.heap_1 w.params) 150 name = true) (hh : hasDictIn (Mine.kf.heap_1 w.params) 150 = true)
    (ha : findIn (Mine.kf.heap_1 w.params) (.ref 150) name = some none) (hn : noGet (Mine.kf.heap_1 w.params) none = true) (hv : handedIn v = true) (h : Q v { s with toks := s.toks + 1 }) :
    wpAny (MM w) A (getAttr (.ref x) name expr) Q E s :=
  get_own F X₀ ⟨h1, rfl, rfl, h2⟩ hg hh ha hn hl hv h
theorem obj_pack {g h : Heap} {L a : Addr} {m : Str → Option Value} {o : Obj} (F : Fr g L h m) (ha : h.get? a = some o) (hd : ∀ es ep, o.data ≠ .dict es ep) :
    ∃ tb : List (Addr × Obj), (∀ q ∈ tb, q.2 = o) ∧ News g L h tb ∧ ∀ h' : Heap, (∀ b o, g.get? b = some o → h'.get? b = some o) → (∀ q ∈ tb, h'.get? q.1 = some q.2) → h'.get? a = some o := by
  cases e : g.get? a with
  | some o2 =>
    have e2 := F.keep _ _ e
    rw [ha] at e2; cases e2
    exact ⟨[], (fun _ h => by cases h), (fun _ h => by cases h), fun h' hk _ => hk _ _ e⟩
  | none =>
    refine ⟨[(a, o)], List.forall_mem_singleton.mpr rfl, List.forall_mem_singleton.mpr ⟨ha, fun q => ?_, e⟩, fun h' _ hT => hT _ (.head _)⟩
    obtain ⟨oL, _, _, hh, hc, _⟩ := F.ns
    rw [show a = L from q, hh] at ha
    cases ha
    exact hd _ _ hc
local macro_rules | `(tactic| k_all) => `(tactic| with_reducible assumption)
local macro_rules | `(tactic| walk_at "m_run4") => `(tactic| repeat' ((fail_if_success (with_reducible show wpAny _ _ (execs [_] _) _ _ _)); (fail_if_success (with_reducible show wpAny _ _ (exec (Stmt.If _ _ _ _) _) _ _ _)); walk_at "m_stop"; walk_at "m_step"))
local macro_rules | `(tactic| walk_at "m_run5") => `(tactic| repeat' ((fail_if_success (with_reducible show wpAny _ _ (execs [_] _) _ _ _)); (fail_if_success (with_reducible show wpAny _ _ (getAttr _ _ _) _ _ _)); (fail_if_success (with_reducible show wpAny _ _ (compareOp CmpOp.NotEq (Value.ref _) (Value.ref _)) _ _ _)); (fail_if_success (with_reducible show wpAny _ _ (call (Value.builtin "max") [Value.ref _] _) _ _ _)); walk_at "m_stop"; walk_at "m_step"))
section
variable {name qual : Str} {params : Arguments} {body tb orelse rest : List Stmt} {scope : Scope} {dV kV doc pm cdv ct oc : Value} {an od : Option Addr} {osl : Array (Option Value)} {tgt it : Expr} {ps : Pos}
theorem stage4 {K : Flow → Shared → Prop} {g : Heap} {L : Addr} {m : Str → Option Value} {oS oO oT oW oC oR : Obj} {tl : List (Addr × Obj)} {n k tn wd : Nat} {tt tR tC tst tw tWh : Tok} {Dn Dr cn cr Dw : Nat} {nv rv : List Value} {ws : List Int} {vS : Option Value} {P : Bool}
    (ho : (Mine.kf.heap_1 w.params).lookup 185 = some ⟨oc, od, .func (fnOf name qual params body scope dV kV doc pm an cdv ct), osl⟩) (hf : body[9]? = some (.For tgt it tb orelse ps)) (hr : rest = tb.drop 8)
    (W : Law (d + 50) w p loose mean mg mb A g L) (F : Fr g L s.heap m) (N : News g L s.heap ((L + 6, oS) :: (L + 5, oO) :: (L + 4, oT) :: (L + 3, oW) :: (L + 2, oC) :: (L + 1, oR) :: tl)) (htl : ∀ q ∈ tl, NT q.2) (hTb : Tabs s.heap)
    (dS : oS.data = .cell vS) (dO : oO.data = .cell (some (.ref Dr))) (dT : oT.data = .cell (some (.int (tn : Int) tt))) (dW : oW.data = .cell (some (.ref Dw))) (dC : oC.data = .cell (some (.int k tC))) (dR : oR.data = .cell (some (.int ((n : Int) + 1) tR)))
    (hDr : (Dr, listV rv cr) ∈ tl) (hIr : IntsAre rv (rowOf (ws.map (rot ((n : Int) + 1) tn)))) (hDn : (Dn, listV nv cn) ∈ tl) (hIn : IntsAre nv (ws.map (rot ((n : Int) + 1) tn)))
    (hn : 4 ≤ n ∧ n ≤ 6) (hk : 2 ≤ k ∧ k ≤ n) (hwd : 4 ≤ wd ∧ wd < 904) (hwl : ws.length = k) (hwr : ∀ x ∈ ws, 0 ≤ x ∧ x < (n : Int) + 1) (ht : tn < n + 1) (hP : P = decide ((n : Int) ∉ (ringSt ((n : Int) + 1) (ws.map (rot ((n : Int) + 1) tn))).1))
    (mSt : m (Str.ofString "street") = some (.int (n : Int) tst)) (mWd : m (Str.ofString "width") = some (.int (wd : Int) tw)) (mWh : m (Str.ofString "whole") = some (.int (dval wd (cntR (n + 1) ws)) tWh)) (mP : m (Str.ofString "parks") = some (.bool P)) (mTu : m (Str.ofString "turned") = some (.ref Dn))
    (next : ∀ (h' : Heap) (tk' : Nat) (m' : Str → Option Value) (x : Addr) (Tl : List (Addr × Obj)), Fr g L h' m' → News g L h' ((L + 6, oS) :: (L + 5, oO) :: (L + 4, oT) :: (L + 3, oW) :: (L + 2, oC) :: (L + 1, oR) :: (Tl ++ tl)) → (∀ q ∈ Tl, NT q.2) → Tabs h' →
      m' (Str.ofString "lead") = some (.ref x) → (∀ h'' : Heap, (∀ q ∈ Tl, h''.get? q.1 = some q.2) → IsWs h'' x (cntOf (ws.map (rot ((n : Int) + 1) tn))) 0 k) → (∀ y, y ≠ Str.ofString "rounds" → y ≠ Str.ofString "rest" → y ≠ Str.ofString "lead" → m' y = m y) →
      wpAny (MM w) A (execs (tb.drop 13) (envOfC qual scope L 185 cdv)) K (fun _ _ => False) { s with heap := h', toks := tk' }) :
    wpAny (MM w) A (execs rest (envOfC qual scope L 185 cdv)) K (fun _ _ => False) s := by
  have hL := Law.cx W F
  walk_at "m_fill"
  refine' lawInv ho ?e ?_
  case e => k_is
  intro e1 e2 e3 e4
  subst e1 e2 e3 e4
  have hf2 := hf
  rw [show (some (Stmt.For tgt it tb orelse ps)) = _ from hf2.symm] at hf
  clear hf
  injection (Option.some.inj hf2) with f1 f2 f3 f4 f5
  subst f1 f2 f4 f5
  rw [← f3] at hr next
  clear f3 hf2 ho
  simp only [List.drop_succ_cons, List.drop_zero] at hr next
  subst hr
  have hA := W.hh
  have X := W.X
  have T := W.T
  refine hideG ?_; intro XX kXX
  obtain ⟨q1, q2, q3, q4, q5, q6, q7, q8⟩ := turn_digits (wd := wd) hn.1 hwl (by (first | lia | omega)) hwd.1 ht hwr
  refine kXX ?_; clear kXX XX
  generalize hWH : dval wd (cntR (n + 1) ws) = WH at *
  have hwn : wd * (n + 1) ≤ 903 * 7 := Nat.mul_le_mul (by (first | lia | omega)) (by (first | lia | omega))
  have hwt : wd * tn ≤ wd * n := Nat.mul_le_mul_left _ (by (first | lia | omega))
  have hwn2 : wd * (n + 1) = wd * n + wd := Nat.mul_succ wd n
  have hIM1 : PySem.IntMulOk (wd : Int) (tn : Int) := mulOk_of_bits (m := 20) (n := 20) (intBits_le (by (first | lia | omega))) (intBits_le (by (first | lia | omega))) (by (first | lia | omega))
  have hIM2 : PySem.IntMulOk (wd : Int) ((n : Int) + 1) := mulOk_of_bits (m := 20) (n := 20) (intBits_le (by (first | lia | omega))) (intBits_le (by (first | lia | omega))) (by (first | lia | omega))
  walk_at "m_run4"
  rw [show ((wd : Int) * (tn : Int)) = ((wd * tn : Nat) : Int) from (Int.natCast_mul ..).symm]
  refine lshift_int (by (first | lia | omega)) (by have := bits_of_lt q4 q5; (first | lia | omega)) ?_
  rw [Int.toNat_natCast]
  walk_at "m_run4"
  rw [show ((wd : Int) * ((n : Int) + 1)) = ((wd * (n + 1) : Nat) : Int) by rw [Int.natCast_mul]; rfl]
  refine lshift_int (by (first | lia | omega)) (by rw [show Builtin.Int.intBits 1 = 1 from rfl]; (first | lia | omega)) ?_
  rw [Int.toNat_natCast, Int.one_mul]
  walk_at "m_run4"
  have hB20 : (2 : Int) ^ 20 ≤ 2 ^ (wd * (n + 1)) := by
    have : (2 : Int) ^ 20 * 1 ≤ 2 ^ 20 * 2 ^ (wd * (n + 1) - 20) := Int.mul_le_mul_of_nonneg_left (by have := Int.pow_pos (n := (2 : Int)) (m := wd * (n + 1) - 20) (by decide); (first | lia | omega)) (by decide)
    rw [← Int.pow_add, show 20 + (wd * (n + 1) - 20) = wd * (n + 1) by have : 4 * 5 ≤ wd * (n + 1) := Nat.mul_le_mul hwd.1 (by (first | lia | omega)); (first | lia | omega)] at this
    (first | lia | omega)
  have hbits : Builtin.Int.intBits (2 ^ (wd * (n + 1)) - 1) = wd * (n + 1) := bits_eq (by (first | lia | omega)) (by (first | lia | omega))
  have ha0 : 0 ≤ WH * 2 ^ (wd * tn) := Int.mul_nonneg q4 (Int.pow_nonneg (by decide))
  have hpt : (0 : Int) < 2 ^ (wd * tn) := Int.pow_pos (by decide)
  have hab : WH * 2 ^ (wd * tn) < 2 ^ (wd * (n + 1) * 19) := by
    have h1 : WH * 2 ^ (wd * tn) < 2 ^ (wd * (n + 1)) * 2 ^ (wd * tn) := Int.mul_lt_mul_of_pos_right q5 hpt
    have h2 : (2 : Int) ^ (wd * (n + 1) + wd * tn) * 1 ≤ 2 ^ (wd * (n + 1) + wd * tn) * 2 ^ (wd * (n + 1) * 19 - (wd * (n + 1) + wd * tn)) :=
      Int.mul_le_mul_of_nonneg_left (by have := Int.pow_pos (n := (2 : Int)) (m := wd * (n + 1) * 19 - (wd * (n + 1) + wd * tn)) (by decide); (first | lia | omega)) (Int.pow_nonneg (by decide))
    rw [← Int.pow_add, show wd * (n + 1) + wd * tn + (wd * (n + 1) * 19 - (wd * (n + 1) + wd * tn)) = wd * (n + 1) * 19 by (first | lia | omega), Int.pow_add] at h2
    (first | lia | omega)
  refine intdiv_spec (Law.cx (d := d + 42) (e := 8) W F) ha0 (by (first | lia | omega)) (by rw [hbits]; (first | lia | omega)) (by rw [hbits]; exact hab) hTb.1 hTb.2.1 W.n62 W.n55 ?_
  intro h1 Tq cq tq tr tk1 hk1 hT62 hT55 hTq0 hTq
  rw [q1, q2] at hTq
  have hk1' : ∀ b o, b ≠ 62 → b ≠ 55 → b ≠ 156 → s.heap.get? b = some o → h1.get? b = some o := fun b o e1 e2 _ e => hk1 b o e1 e2 e
  have hTb1 : Tabs h1 := ⟨hT62, hT55, hTb.2.2.keep3 hTb.1 hTb.2.1 (by decide) (by decide) hk1⟩
  have F1 := Fr.ext4 F W hk1'
  have N1 := led_keep N (cells_nt dS dO dT dW dC dR htl) hTb hk1'
  refine hideG ?_; intro XX kXX
  obtain ⟨t1, ht1, Nt1, hTp1⟩ := Tabs.pack hTb1 F1 W
  refine kXX ?_; clear kXX XX
  have NT1 : News g L h1 [(Tq, tupV [.int (dval wd (cntOf (ws.map (rot ((n : Int) + 1) tn))) % 2 ^ (wd * tn)) tq, .int (dval wd (cntOf (ws.map (rot ((n : Int) + 1) tn)))) tr] cq)] :=
    List.forall_mem_singleton.mpr ⟨hTq, (fun e => by
      refine hideG ?_; intro XX kXX
      obtain ⟨o, _, _, hh, _⟩ := F.ns
      refine kXX ?_; clear kXX XX
      have e2 : Tq = L := e
      have h0 : s.heap.get? Tq = none := hTq0
      rw [e2, hh] at h0; cases h0), (by
      have h0 : s.heap.get? Tq = none := hTq0
      cases e : g.get? Tq with
      | none => rfl
      | some o => rw [F.keep _ _ e] at h0; cases h0)⟩
  have N2 : News g L h1 ((Tq, tupV [.int (dval wd (cntOf (ws.map (rot ((n : Int) + 1) tn))) % 2 ^ (wd * tn)) tq, .int (dval wd (cntOf (ws.map (rot ((n : Int) + 1) tn)))) tr] cq) :: (L + 6, oS) :: (L + 5, oO) :: (L + 4, oT) :: (L + 3, oW) :: (L + 2, oC) :: (L + 1, oR) :: (tl ++ t1)) :=
    List.forall_mem_cons.mpr ⟨NT1 _ (.head _), led_tail N1 (news_app (led_rest N1) Nt1)⟩
  obtain ⟨tw, htw⟩ : ∃ tw, tw = tl ++ t1 := ⟨_, rfl⟩
  rw [← htw] at N2
  clear NT1 N1 Nt1 hk1 hk1' hTq hTq0 F N hT62 hT55 hTb hL hab ha0
  have hnl : (ws.map (rot ((n : Int) + 1) tn)).length = k := by rw [List.length_map, hwl]
  have hnr : ∀ x ∈ ws.map (rot ((n : Int) + 1) tn), 0 ≤ x ∧ x < (n : Int) + 1 := by
    intro x hx
    obtain ⟨y, _, rfl⟩ := List.mem_map.mp hx
    exact rot_range (by (first | lia | omega))
  have hnlead : (leadL (ws.map (rot ((n : Int) + 1) tn))).length < 250 := by
    have h1 := leadL_len (ws.map (rot ((n : Int) + 1) tn)) (n + 1) (fun r hr => by have := hnr r hr; (first | lia | omega))
    rw [hnl] at h1
    have h2 : k * (n + 1) ≤ 6 * 7 := Nat.mul_le_mul (by (first | lia | omega)) (by (first | lia | omega))
    (first | lia | omega)
  have htab := cnt_len (rs := ws.map (rot ((n : Int) + 1) tn)) (fun e => by rw [e] at hnl; simp at hnl; (first | lia | omega))
  generalize ws.map (rot ((n : Int) + 1) tn) = nw at *
  generalize hRT : dval wd (cntOf nw) = RT at *
  walk_at "m_run4"
  rename_i h2 h3 h4 F4 N4'
  have N4 : News g L h4 ((L + 6, oS) :: (L + 5, oO) :: (L + 4, oT) :: (L + 3, oW) :: (L + 2, oC) :: (L + 1, oR) :: tw) := fun q hq => N4' q (.tail _ hq)
  have hsub : ∀ q ∈ tl, q ∈ tw := fun q hq => by rw [htw]; exact List.mem_append_left _ hq
  clear N4'
  refine lead_spec (Law.cx (d := d + 40 + 1) (e := 9) W F4) (.inl ⟨nv, (led_rest N4).isList (hsub _ hDn), hIn⟩) (by (first | lia | omega)) (fun r hr => by have := hnr r hr; (first | lia | omega)) ?_
  intro h5 tS tk5 hk5
  have F5 := Fr.ext F4 hk5
  have N5 := News.ext N4 hk5
  clear F4 N4
  walk_at "m_run4"
  (rename Fr _ _ _ _ => F6); (rename News _ _ _ _ => N6)
  refine ws_spec (Law.cx (d := d + 40 + 2) (e := 8) W F6) hnlead ?_
  intro h7 x tk7 Tl hk7 hTl hWs
  have F7 := Fr.ext F6 hk7
  have NTl : News g L h7 Tl := fun q hq => ⟨(hTl q hq).1, (fun e => by
      obtain ⟨o, _, _, hh, _⟩ := F6.ns
      have := (hTl q hq).2.1
      rw [e] at this
      exact absurd (hh.symm.trans this) (by simp)), (by
      cases e : g.get? q.1 with
      | none => rfl
      | some o => exact absurd ((F6.keep _ _ e).symm.trans (hTl q hq).2.1) (by simp))⟩
  have N7 := led_tail (News.ext N6 hk7) (news_app NTl (led_rest (News.ext N6 hk7)))
  have hTn : ∀ q ∈ Tl, NT q.2 := fun q hq => NT.cls (hTl q hq).2.2.1 (hTl q hq).2.2.2
  obtain ⟨tv, htv⟩ : ∃ tv, tv = Tl ++ tw := ⟨_, rfl⟩
  rw [← htv] at N7
  clear F6 N6 NTl hTl
  rw [hnl] at hWs
  walk_at "m_run5"
  (rename Fr _ _ _ _ => F8); (rename News _ _ _ _ => N8)
  have hTlv : ∀ q ∈ Tl, q ∈ tv := fun q hq => by rw [htv]; exact List.mem_append_left _ hq
  have hwv : ∀ q ∈ tw, q ∈ tv := fun q hq => by rw [htv]; exact List.mem_append_right _ hq
  refine hideG ?_; intro XX kXX
  obtain ⟨dx, Tn, Tc, es, nn, sl, lv, c, cnn, t0, t0', a1, a2, a3, a4, a5, hIl, _⟩ := (hWs _ fun q hq => (led_rest N8 q (hTlv q hq)).1).ex
  refine kXX ?_; clear kXX XX
  refine ws_get2 F8 X a1 a2 a3 ?g1 ?g2 ?g3 ?g4 ?g5 ?_
  case g1 => k_is
  case g2 => k_is
  case g3 => k_is
  case g4 => k_is
  case g5 => rfl
  walk_at "m_run5"
  have hTb8 := hTp1 _ F8.keep fun q hq => (led_rest N8 q (hwv _ (by rw [htw]; exact List.mem_append_right _ hq))).1
  refine i2d_spec (Law.cx (d := d + 40) (e := 10) W F8) (by (first | lia | omega)) ⟨q7, ?_⟩ hTb8.2.1 W.n55 ?_
  · have h2 : (2 : Int) ^ (wd * (n + 1)) * 1 ≤ 2 ^ (wd * (n + 1)) * 2 ^ (wd * 19 - wd * (n + 1)) :=
      Int.mul_le_mul_of_nonneg_left (by have := Int.pow_pos (n := (2 : Int)) (m := wd * 19 - wd * (n + 1)) (by decide); (first | lia | omega)) (Int.pow_nonneg (by decide))
    rw [← Int.pow_add, show wd * (n + 1) + (wd * 19 - wd * (n + 1)) = wd * 19 by have := Nat.mul_le_mul_left wd (show n + 1 ≤ 19 by (first | lia | omega)); (first | lia | omega)] at h2
    (first | lia | omega)
  intro h9 D9 dv9 c9 tk9 hk9 hT55 hD90 hD9 hI9
  rw [q3] at hI9
  have F9 := Fr.ext4 F8 W (h' := h9) fun b o _ e2 _ e => hk9 b o e2 e
  have hTlt : ∀ q ∈ Tl ++ tl, NT q.2 := fun q hq => (List.mem_append.mp hq).elim (hTn q) (htl q)
  have N8b := led_tail N8 (tl' := Tl ++ tl) (news_app (fun q hq => led_rest N8 q (hTlv q hq)) (fun q hq => led_rest N8 q (hwv q (hsub q hq))))
  have N9 := led_keep N8b (cells_nt dS dO dT dW dC dR hTlt) hTb8 (h' := h9) fun b o _ e2 _ e => hk9 b o e2 e
  have hTb9 : Tabs h9 := ⟨hTb8.1.keep2 hTb8.2.1 (by decide) hk9, hT55, hTb8.2.2.keep2 hTb8.2.1 (by decide) hk9⟩
  obtain ⟨p55, b55, _⟩ := id hTb8.2.1
  have a4' := hk9 _ _ (nt_off b55 a4 (.inl ⟨(fun v e => by cases e), (fun ps e => by cases e)⟩)) a4
  have a5' := hk9 _ _ (nt_off b55 a5 (.inl ⟨(fun v e => by cases e), (fun ps e => by cases e)⟩)) a5
  refine hideG ?_; intro XX kXX
  obtain ⟨t2, ht2, Nt2, hTp2⟩ := Tabs.pack hTb9 F9 W
  refine kXX ?_; clear kXX XX
  refine hideG ?_; intro XX kXX
  obtain ⟨u1, hu1, Nu1, hU1⟩ := obj_pack F9 a4' (fun es ep e => by cases e)
  refine kXX ?_; clear kXX XX
  refine hideG ?_; intro XX kXX
  obtain ⟨u2, hu2, Nu2, hU2⟩ := obj_pack F9 a5' (fun es ep e => by cases e)
  refine kXX ?_; clear kXX XX
  obtain ⟨tz, htz⟩ : ∃ tz, tz = (Tl ++ tl) ++ (t2 ++ (u1 ++ u2)) := ⟨_, rfl⟩
  have hq8 := htab
  have hll : dv9.length ≤ 7 := by
    obtain ⟨_, r, hr, e⟩ := htab
    have := hnr r hr
    rw [hI9.length, e]; (first | lia | omega)
  have N10 : News g L h9 ((D9, listV dv9 c9) :: (L + 6, oS) :: (L + 5, oO) :: (L + 4, oT) :: (L + 3, oW) :: (L + 2, oC) :: (L + 1, oR) :: tz) :=
    List.forall_mem_cons.mpr ⟨news_one F8 hD90 hD9 _ (.head _), htz ▸ led_tail N9 (news_app (led_rest N9) (news_app Nt2 (news_app Nu1 Nu2)))⟩
  clear N9 N8b N8 F8 Nt2 Nu1 Nu2 hk9 a4 a5 a1 a2 a3
  walk_at "m_run5"
  refine kde_tupleOf F9 N10 (N10.isList (.head _)) (by simp; (first | lia | omega)) rfl ?_
  intro D10 h10 F10 N11 l10
  clear F9 N10
  walk_at "m_run5"
  rename_i D11 h11 F11 N12 l11
  have hz : ∀ q ∈ tz, h11.get? q.1 = some q.2 := fun q hq => (N12 q (.tail _ (.tail _ (.tail _ (.tail _ (.tail _ (.tail _ (.tail _ (.tail _ (.tail _ hq)))))))))).1
  have hTn' := hU1 _ F11.keep fun q hq => hz q (by rw [htz]; simp [hq])
  have hTc' := hU2 _ F11.keep fun q hq => hz q (by rw [htz]; simp [hq])
  obtain ⟨_, r1⟩ := normD_reads hTn' hTc' hIl
  obtain ⟨_, r2⟩ := normD_reads (N12 _ (.head _)).1 (N12 _ (.tail _ (.head _))).1 hI9
  refine ne_dataH r1 r2 (normD_shaped _) (normD_shaped _) (by have := W.hu; (first | lia | omega)) ?_
  rw [normD_eqv, Bool.not_true]
  clear r1 r2 hTn' hTc' hz
  have N13 : News g L h11 ((L + 6, oS) :: (L + 5, oO) :: (L + 4, oT) :: (L + 3, oW) :: (L + 2, oC) :: (L + 1, oR) :: tz) := fun q hq => N12 q (.tail _ (.tail _ (.tail _ hq)))
  clear N12
  walk_at "m_run5"
  rw [show ((wd : Int) * (tn : Int)) = ((wd * tn : Nat) : Int) from (Int.natCast_mul ..).symm]
  refine lshift_int (by (first | lia | omega)) (by rw [show Builtin.Int.intBits 1 = 1 from rfl]; (first | lia | omega)) ?_
  rw [Int.toNat_natCast, Int.one_mul]
  walk_at "m_run5"
  · (rename RT % 2 ^ (wd * tn) ≠ _ => hne)
    exact absurd (Int.fmod_eq_emod_of_nonneg RT (Int.le_of_lt hpt)).symm hne
  (rename Fr _ _ _ _ => F12)
  have cells := cells_of (F := F12) N13
  have gDr := led_rest N13 (Dr, listV rv cr) (by rw [htz]; simp [hDr])
  obtain ⟨row, hrow⟩ : ∃ row : List Int, row = rowOf nw := ⟨_, rfl⟩
  rw [← hrow] at hIr
  have hrows : row.Pairwise (· ≤ ·) := hrow ▸ row_sorted nw
  have hrowl : row.length = k := by rw [hrow, (row_perm nw).length_eq, hnl]
  refine comp_open (cl := [(Str.ofString "row", L + 5), (Str.ofString "cars", L + 2)]) (fun x y => ∃ u, y = .int ((k : Int) - bisN row x + x) u) rfl (by decide) rfl (by decide) rfl ?_
  walk_at "m_step"
  refine comp_list hA ⟨_, gDr.1, rfl, _, rfl⟩ hIr (by (first | lia | omega)) ?_ ?_
  · intro C' y u s₃ m₃ E' hy hC' hN hm hk'
    have hgk : ∀ b o, g.get? b = some o → s₃.heap.get? b = some o := fun b o e => hk' _ _ (F12.keep _ _ e)
    have hga : g.objs.size ≤ C' := Nat.le_trans F12.above (Nat.le_trans (Nat.le_of_lt F12.ns.lt) hC')
    have gc2 := hk' _ _ cells.2.2.2.2.1
    have gc5 := hk' _ _ cells.2.1
    have gDr3 := hk' _ _ gDr.1
    clear F12 N13 cells gDr
    walk_at "m_step"
    walk_at "m_step"
    refine' ld_cell (c := L + 2) rfl ?ha dC ?_
    case ha => exact gc2
    walk_at "m_step"
    refine gl_global (g := g) (C' := C') (m := m₃) ⟨hN, hgk, hga⟩ X T (by k_is) (by exact rfl) (by exact rfl) (by exact rfl) (by decide) ?_
    walk_at "m_step"
    walk_at "m_step"
    refine' ld_cell (c := L + 5) rfl ?ha dO ?_
    case ha => exact gc5
    walk_at "m_step"
    refine' ld_comp ?hn ?hm ?_
    case hn => exact hN
    case hm => exact hm
    walk_at "m_step"
    refine ⟨X.keeps hgk, ?_⟩
    refine' bis_spec (d := d + 40) (vs := rv) (xs := row) (x := y) (tx := u) (t0 := 209) (.inl ⟨rfl, rfl⟩) ?hC ?hl hIr (by (first | lia | omega)) hrows ?_
    case hC => exact ⟨W.X, W.T, hgk, Nat.le_trans hga (Nat.le_of_lt hN.lt), by have := W.hd; (first | lia | omega), by have := W.hu; (first | lia | omega), W.fr, W.hh, W.c1, W.c2, W.c3⟩
    case hl => exact ⟨_, gDr3, rfl, _, rfl⟩
    intro h7 r t7 tk7 hr7 hk7
    rw [hr7.eq]
    walk_at "m_step"
    refine' ld_comp ?hn ?hm ?_
    case hn => exact hN.keeps hk7
    case hm => exact hm
    walk_at "m_step"
    exact ⟨⟨_, rfl⟩, ⟨_, _, rfl, hk7⟩⟩
  · intro D14 h14 tk14 ys14 c14 hD0 hD hF14 hk14
    have F14 := Fr.ext F12 hk14
    have N14 : News g L h14 ((D14, listV ys14 c14) :: (L + 6, oS) :: (L + 5, oO) :: (L + 4, oT) :: (L + 3, oW) :: (L + 2, oC) :: (L + 1, oR) :: tz) := List.forall_mem_cons.mpr ⟨news_one F12 hD0 hD _ (.head _), News.ext N13 hk14⟩
    have hI14 := ints_of hF14
    clear F12 N13 cells gDr hk14 hD hD0
    walk_at "m_run5"
    refine max_list_N hA F14 N14 (N14.isList (.head _)) hI14 (by rw [List.length_map]; (first | lia | omega)) ?_
    intro h16 M tM tk16 F16 N16 hM1 hM2
    have hMP : decide (M ≤ (n : Int)) = P := by
      have h1 := crit_bis (n := n) hrows
      rw [hrowl] at h1
      have h2 := park_row (n := n) (ws := nw) hnr
      rw [← hrow] at h2
      rw [hP, decide_eq_decide, h2, ← h1]
      constructor
      · intro hle y hy
        have := hM2 _ (List.mem_map.mpr ⟨y, hy, rfl⟩)
        (first | lia | omega)
      · intro hall
        obtain ⟨y, hy, e⟩ := List.mem_map.mp hM1
        have := hall y hy
        (first | lia | omega)
    clear F14 N14
    walk_at "m_run5"
    · (rename (decide (M ≤ (n : Int)) != P) = true => hb)
      rw [hMP] at hb
      exact absurd hb (by simp)
    · have hz : ∀ q ∈ tz, _ := fun q hq => N16 q (.tail _ (.tail _ (.tail _ (.tail _ (.tail _ (.tail _ (.tail _ hq)))))))
      refine next h16 _ _ x Tl F16 ?_ hTn (hTp2 _ F16.keep fun q hq => (hz q (by rw [htz]; simp [hq])).1) rfl hWs fun y a b c => (if_neg c).trans ((if_neg b).trans (if_neg a))
      exact led_tail (fun q hq => N16 q (.tail _ hq)) (fun q hq => hz q (by rw [htz]; exact List.mem_append_left _ hq))
end
end
section
/-- what the end of a loop's turn shows, the generators free -/
noncomputable def TurnedG (h₀ : Heap) (L I : Addr) (oI : Obj) (J : (Str → Option Value) → List (Addr × Obj) → Array GenState → Prop) (s : Shared) (Q : Flow → Shared → Prop) (f : Flow) (s₂ : Shared) : Prop := match f with
  | .next | .cont => ∃ h' tk' gs' m' news', s₂ = { s with heap := h', gens := gs', toks := tk' } ∧ Fr h₀ L h' m' ∧ News h₀ L h' ((I, oI) :: news') ∧ (∀ p ∈ news', p.1 ≠ I) ∧ J m' news' gs'
  | .brk => Q .next s₂
  | .ret v => Q (.ret v) s₂
section
variable {prog : Program} {w : World} {A : Around} {s : Shared} {env : Env} {h₀ : Heap} {L : Addr} {x : Str} {px : Pos} {body : List Stmt} {Q : Flow → Shared → Prop} {m : Str → Option Value} {news : List (Addr × Obj)}
theorem floopG {I : Addr} {fp : List Addr} {n : Nat} {P : Nat → Value → Prop} {St : Nat → Heap → Prop} (W : Walks prog w A I fp [I] n P St)
    (hlive : ∀ i h, St i h → ∃ o, h.get? I = some o) (J : Nat → (Str → Option Value) → List (Addr × Obj) → Array GenState → Prop) (hfp : ∀ b ∈ fp, b = I ∨ (∃ o, h₀.get? b = some o) ∨ ∃ o, ∀ i m' news' gs, J i m' news' gs → (b, o) ∈ news') (hI0 : h₀.get? I = none) (hLI : I ≠ L) (hL : env.locals = L)
    (hst : St 0 s.heap) (F : Fr h₀ L s.heap m) (N : News h₀ L s.heap news) (hoff : ∀ p ∈ news, p.1 ≠ I) (J0 : J 0 m news s.gens)
    (turn : ∀ i v m₁ news₁ h tk gs oI, i < n → P i v → J i m₁ news₁ gs → (∀ p ∈ news₁, p.1 ≠ I) → Fr h₀ L h m₁ → News h₀ L h ((I, oI) :: news₁) → St (i + 1) h →
      wpAny (model prog w) A (assign (.Name x px) env v) (fun _ s' => wpAny (model prog w) A (execs body env) (TurnedG h₀ L I oI (J (i + 1)) s Q) (fun _ _ => False) s') (fun _ _ => False) { s with heap := h, gens := gs, toks := tk })
    (done : ∀ m₁ news₁ h tk gs, J n m₁ news₁ gs → Fr h₀ L h m₁ → News h₀ L h news₁ → Q .next { s with heap := h, gens := gs, toks := tk }) :
    codeAny (model prog w) A (.forLoop (.Name x px) (.ref I) body [] env) (fun r s' => match r with | .ok f => Q f s' | .error _ => False) s := by
  subst hL
  refine codeAny_forLoop
    (fun k s' => ∃ h' tk gs m' news' i, s' = { s with heap := h', gens := gs, toks := tk } ∧ St i h' ∧ Fr h₀ env.locals h' m' ∧ News h₀ env.locals h' news' ∧ (∀ p ∈ news', p.1 ≠ I) ∧ J i m' news' gs ∧ i ≤ n ∧ k = n + 1 - i) ?_ (n + 1)
    ⟨s.heap, s.toks, s.gens, m, news, 0, rfl, hst, F, N, hoff, J0, Nat.zero_le _, rfl⟩
  rintro k s' ⟨h', tk, gs, m', news', i, rfl, hst', F', N', hoff', hJ, hi, rfl⟩
  have next : ∀ h₁ : Heap, (∀ b o, b ∉ [I] → h'.get? b = some o → h₁.get? b = some o) → Fr h₀ env.locals h₁ m' ∧ News h₀ env.locals h₁ news' := fun h₁ hk₁ =>
    ⟨⟨F'.ns.at' fun o e => hk₁ _ o (by simpa using Ne.symm hLI) e, fun b o e => hk₁ b o (by rintro hb; rw [List.mem_singleton.mp hb, hI0] at e; cases e) (F'.keep b o e), F'.above⟩,
     fun p hp => ⟨hk₁ _ _ (by simpa using hoff' p hp) (N' p hp).1, (N' p hp).2⟩⟩
  by_cases hlt : i < n
  · refine W.item i _ _ _ hlt hst' fun v h₁ tk₁ hP hst₁ hk₁ => ?_
    obtain ⟨F₁, N₁⟩ := next h₁ hk₁
    obtain ⟨oI, hoI⟩ := hlive _ _ hst₁
    have N₂ : News h₀ env.locals h₁ ((I, oI) :: news') := List.forall_mem_cons.mpr ⟨⟨hoI, hLI, hI0⟩, N₁⟩
    refine wpAny_mono (turn i v m' news' h₁ tk₁ gs oI hlt hP hJ hoff' F₁ N₂ hst₁) (fun _ s₂ h₂ => wpAny_mono h₂ (fun f s₃ h₃ => ?_) fun _ _ e => e.elim) fun _ _ e => e.elim
    have step : (∃ h' tk' gs' m' news'', s₃ = { s with heap := h', gens := gs', toks := tk' } ∧ Fr h₀ env.locals h' m' ∧ News h₀ env.locals h' ((I, oI) :: news'') ∧ (∀ p ∈ news'', p.1 ≠ I) ∧ J (i + 1) m' news'' gs') → ∃ m_1, m_1 < n + 1 - i ∧ ∃ h' tk gs m' news' i, s₃ = { s with heap := h', gens := gs, toks := tk } ∧ St i h' ∧ Fr h₀ env.locals h' m' ∧ News h₀ env.locals h' news' ∧ (∀ p ∈ news', p.1 ≠ I) ∧ J i m' news' gs ∧ i ≤ n ∧ m_1 = n + 1 - i := by
      rintro ⟨h₃', tk₃, gs₃, m₃, news₃, rfl, F₃, N₃, hd₃, hJ₃⟩
      refine ⟨n + 1 - (i + 1), by (first | lia | omega), h₃', tk₃, gs₃, m₃, news₃, i + 1, rfl, W.frame _ _ _ hst₁ fun b hb o e => ?_, F₃, fun p hp => N₃ p (.tail _ hp), hd₃, hJ₃, hlt, rfl⟩
      rcases hfp b hb with rfl | ⟨o₀, h0⟩ | ⟨o₀, h0⟩
      · rw [hoI] at e; cases e; exact (N₃ _ (.head _)).1
      · have : o₀ = o := by have := F₁.keep b o₀ h0; rw [e] at this; exact (Option.some.inj this).symm
        exact this ▸ F₃.keep b o₀ h0
      · have : o₀ = o := by have := (N₁ _ (h0 _ _ _ _ hJ)).1; rw [e] at this; exact (Option.some.inj this).symm
        exact this ▸ (N₃ _ (.tail _ (h0 _ _ _ _ hJ₃))).1
    cases f with
    | next => exact step h₃
    | cont => exact step h₃
    | brk => exact h₃
    | ret v => exact h₃
  · have hin : i = n := by (first | lia | omega)
    subst hin
    refine W.done _ _ _ hst' fun h₁ tk₁ hk₁ => wpAny_execs_nil ?_
    obtain ⟨F₁, N₁⟩ := next h₁ hk₁
    exact done m' news' h₁ tk₁ gs hJ F₁ N₁
abbrev ForTurnG (prog : Program) (w : World) (A : Around) (env : Env) (x : Str) (px : Pos) (body : List Stmt) (Q : Flow → Shared → Prop) (s : Shared) (h₀ : Heap) (L : Addr) (news : List (Addr × Obj)) (n : Nat) (P : Nat → Value → Prop) (J : Nat → (Str → Option Value) → List (Addr × Obj) → Array GenState → Prop) (Z : Obj → Prop := fun _ => True) : Prop :=
  ∀ I i v m₁ news₁ h tk gs oI, i < n → P i v → (∀ p ∈ news, p.1 < I) → J i m₁ news₁ gs → (∀ p ∈ news₁, p.1 ≠ I) → Fr h₀ L h m₁ → News h₀ L h ((I, oI) :: news₁) → Z oI →
      wpAny (model prog w) A (assign (.Name x px) env v) (fun _ s' => wpAny (model prog w) A (execs body env) (TurnedG h₀ L I oI (J (i + 1)) s Q) (fun _ _ => False) s') (fun _ _ => False) { s with heap := h, gens := gs, toks := tk }
theorem for_walkG {oI₀ : Obj} {fp : List Addr} {n : Nat} {P : Nat → Value → Prop} {St : Nat → Heap → Prop} (W : Walks prog w A s.heap.objs.size fp [s.heap.objs.size] n P St)
    (hlive : ∀ i h, St i h → ∃ o, h.get? s.heap.objs.size = some o) (J : Nat → (Str → Option Value) → List (Addr × Obj) → Array GenState → Prop) (hfp : ∀ b ∈ fp, b = s.heap.objs.size ∨ (∃ o, h₀.get? b = some o) ∨ ∃ o, ∀ i m' news' gs, J i m' news' gs → (b, o) ∈ news') (hL : env.locals = L)
    (hst : St 0 (s.heap.push oI₀)) (F : Fr h₀ L s.heap m) (N : News h₀ L s.heap news) (J0 : J 0 m news s.gens) (Z : Obj → Prop) (hZ : ∀ i h o, St i h → h.get? s.heap.objs.size = some o → Z o)
    (turn : ForTurnG prog w A env x px body Q s h₀ L news n P J Z)
    (done : ∀ m₁ news₁ h tk gs, J n m₁ news₁ gs → Fr h₀ L h m₁ → News h₀ L h news₁ → Q .next { s with heap := h, gens := gs, toks := tk }) :
    codeAny (model prog w) A (.forLoop (.Name x px) (.ref s.heap.objs.size) body [] env) (fun r s' => match r with | .ok f => Q f s' | .error e => cameBackBy (model prog w) A env (fun _ _ => False) e s') { s with heap := s.heap.push oI₀ } := by
  refine codeAny_mono (floopG (s := { s with heap := s.heap.push oI₀ }) W hlive J hfp (next_is_new F) (Nat.ne_of_gt F.ns.lt) hL hst (F.push _) (fun p hp => ⟨Heap.get?_push_of_some _ (N p hp).1, (N p hp).2⟩)
    (fun p hp => Nat.ne_of_lt (Heap.lt_size (N p hp).1)) J0 (fun i v m₁ news₁ h tk gs oI hi hP hJ ho F' N' hs => turn _ i v m₁ news₁ h tk gs oI hi hP (fun p hp => Heap.lt_size (N p hp).1) hJ ho F' N' (hZ _ _ _ hs (N' _ (.head _)).1)) done) ?_
  intro r s' h
  cases r with
  | ok f => exact h
  | error e => exact h.elim
theorem for_listG {l c : Addr} {vs : List Value} (J : Nat → (Str → Option Value) → List (Addr × Obj) → Array GenState → Prop) (hh : A.handled = none) (hl : ∀ i m' news' gs, J i m' news' gs → (l, listV vs c) ∈ news') (hL : env.locals = L)
    (F : Fr h₀ L s.heap m) (N : News h₀ L s.heap news) (J0 : J 0 m news s.gens)
    (turn : ForTurnG prog w A env x px body Q s h₀ L news vs.length (fun i v => vs[i]? = some v) J)
    (done : ∀ m₁ news₁ h tk gs, J vs.length m₁ news₁ gs → Fr h₀ L h m₁ → News h₀ L h news₁ → Q .next { s with heap := h, gens := gs, toks := tk }) :
    ForGoal prog w A env x px body Q (.ref l) s := by
  have hls : s.heap.IsList l vs.toArray := N.isList (hl _ _ _ _ J0)
  have hol := (N _ (hl _ _ _ _ J0)).1
  have hlt : l < s.heap.objs.size := Heap.lt_size hol
  have W := Walks.list (prog := prog) (w := w) hh s.heap.objs.size l (Nat.ne_of_lt hlt) vs.toArray
  rw [List.size_toArray] at W
  refine wpAny_pyIter_list hls (for_walkG W (fun i h st => by obtain ⟨⟨o, ho, _⟩, _⟩ := st; exact ⟨o, ho⟩) J (fun b hb => ?_) hL ⟨⟨_, Heap.get?_push_size _ rfl, rfl, rfl⟩, hls.at fun o e => Heap.get?_push_of_some _ e⟩ F N J0 (fun _ => True) (fun _ _ _ _ _ => trivial)
    (fun I i v m₁ news₁ h tk gs oI hi hP hI hJ ho F' N' z => turn I i v m₁ news₁ h tk gs oI hi (by simpa using hP) hI hJ ho F' N' z) done)
  rcases List.mem_cons.mp hb with rfl | hb
  · exact .inl rfl
  · rw [List.mem_singleton.mp hb]; exact .inr (.inr ⟨_, hl⟩)
theorem for_rangeG {r : Addr} {a b : Int} {t u v : Tok} (n : Nat) (J : Nat → (Str → Option Value) → List (Addr × Obj) → Array GenState → Prop) (hh : A.handled = none) (hr : IsRange s.heap r a b 1 t u v) (hn : n = (b - a).toNat) (ha : -(2 ^ 62) < a ∧ a < 2 ^ 62) (hb : -(2 ^ 62) < b ∧ b < 2 ^ 62) (hL : env.locals = L)
    (F : Fr h₀ L s.heap m) (N : News h₀ L s.heap news) (J0 : J 0 m news s.gens)
    (turn : ForTurnG prog w A env x px body Q s h₀ L news n (fun i v => ∃ t, v = .int (a + i) t) J (fun o => o.cls ≠ .none ∧ (∀ v, o.data ≠ .cell v) ∧ ∀ vs q t, o.data = .fields vs → vs[1]? = some (.str q t) → False))
    (done : ∀ m₁ news₁ h tk gs, J n m₁ news₁ gs → Fr h₀ L h m₁ → News h₀ L h news₁ → Q .next { s with heap := h, gens := gs, toks := tk }) :
    ForGoal prog w A env x px body Q (.ref r) s := by
  have hs : Builtin.Range.rangeSize a b 1 = n := by
    unfold Builtin.Range.rangeSize
    rw [if_pos (by decide), hn]
    split <;> (first | lia | omega)
  have hsm : Builtin.Range.small a b 1 = true := by
    unfold Builtin.Range.small
    rw [hs]
    simp only [Builtin.Range.rangeFitsLong, Bool.and_eq_true, Bool.or_eq_true, decide_eq_true_eq, beq_iff_eq, show (1 : Int) > 0 by decide, if_true]
    (first | lia | omega)
  have W := Walks.range (prog := prog) (w := w) hh s.heap.objs.size a 1 n
  refine wpAny_pyIter_range hr hsm (for_walkG W (fun i h st => ⟨_, st⟩) J (fun b hb => .inl (List.mem_singleton.mp hb)) hL ?_ F N J0 (fun o => o.cls ≠ .none ∧ (∀ v, o.data ≠ .cell v) ∧ ∀ vs q t, o.data = .fields vs → vs[1]? = some (.str q t) → False) (fun i h o st e => by
      have st2 : h.get? s.heap.objs.size = some _ := st
      rw [st2] at e
      cases e
      exact ⟨(fun q => by cases q), (fun v q => by cases q), fun vs q t e1 e2 => by cases e1; cases e2⟩)
    (fun I i v m₁ news₁ h tk gs oI hi hP hI hJ ho F' N' z => turn I i v m₁ news₁ h tk gs oI hi (by simpa using hP) hI hJ ho F' N' z) done)
  rw [hs]
  have := Heap.get?_push_size s.heap (o := { cls := .type "range_iterator", data := .fields #[rawInt a, rawInt n, rawInt 1] }) rfl
  simpa [IsRangeIter] using this
end
end
section
noncomputable def sumN (g f : Nat → Int) : Nat → Int
  | 0 => 0
  | N + 1 => sumN g f N + g N * f N
theorem sumN_add (g f e : Nat → Int) : ∀ N, sumN g (fun j => f j + e j) N = sumN g f N + sumN g e N
  | 0 => rfl
  | N + 1 => by rw [sumN, sumN, sumN, sumN_add g f e N, Int.mul_add]; (first | lia | omega)
theorem sumN_one (g : Nat → Int) (r : Nat) : ∀ N, sumN g (fun j => if j = r then 1 else 0) N = if r < N then g r else 0
  | 0 => by simp [sumN]
  | N + 1 => by
    rw [sumN, sumN_one g r N]
    by_cases h : N = r
    · subst h; simp
    · rw [if_neg h, Int.mul_zero, Int.add_zero]
      by_cases h2 : r < N
      · rw [if_pos h2, if_pos (by (first | lia | omega))]
      · rw [if_neg h2, if_neg (by (first | lia | omega))]
theorem sumN_congr {g f f' : Nat → Int} (h : ∀ j, f j = f' j) (N : Nat) : sumN g f N = sumN g f' N := by
  rw [show f = f' from funext h]
theorem sumN_count (g : Nat → Int) (N : Nat) : ∀ rs : List Int, (∀ r ∈ rs, 0 ≤ r ∧ r < N) → sumN g (fun j => (rs.count (j : Int) : Int)) N = (rs.map fun r => g r.toNat).sum
  | [], _ => by
    have : ∀ N, sumN g (fun j => (([] : List Int).count (j : Int) : Int)) N = 0 := by
      intro N
      induction N with
      | zero => rfl
      | succ N ih => rw [sumN, ih]; simp
    rw [this]; rfl
  | r :: rs, h => by
    have hr := h r (.head _)
    have e : ∀ j : Nat, (((r :: rs).count (j : Int) : Nat) : Int) = (rs.count (j : Int) : Int) + (if j = r.toNat then 1 else 0) := by
      intro j
      rw [List.count_cons]
      by_cases q : j = r.toNat
      · rw [if_pos q, if_pos (by rw [beq_iff_eq]; (first | lia | omega))]; rfl
      · rw [if_neg q, if_neg (by rw [beq_iff_eq]; (first | lia | omega))]; rfl
    rw [sumN_congr e, sumN_add, sumN_count g N rs fun z hz => h z (.tail _ hz), sumN_one, if_pos (by (first | lia | omega)), List.map_cons, List.sum_cons]
    (first | lia | omega)
theorem sumN_low {ts : Nat} {cs : List Int} : ∀ N, N ≤ ts → sumN (fun j => (j : Int) / ts) (fun j => cs.getD j 0) N = 0
  | 0, _ => rfl
  | N + 1, h => by
    rw [sumN, sumN_low N (by (first | lia | omega)), Int.ediv_eq_zero_of_lt (by (first | lia | omega)) (by (first | lia | omega))]; simp
theorem ilK_sum {ts : Nat} {cs : List Int} : ∀ K, ilK ts cs K = sumN (fun j => (j : Int) / ts) (fun j => cs.getD j 0) (ts + K)
  | 0 => by rw [ilK, Nat.add_zero, sumN_low ts (Nat.le_refl _)]
  | K + 1 => by
    rw [ilK, ilK_sum K, ← Nat.add_assoc, sumN]
    rw [show ((ts : Int) + K).toNat = ts + K by (first | lia | omega), show ((ts + K : Nat) : Int) = ts + K by (first | lia | omega)]
theorem sum_succ (f : Int → Int) : ∀ rs : List Int, (rs.map fun r => f r + 1).sum = (rs.map f).sum + rs.length
  | [] => rfl
  | r :: rs => by rw [List.map_cons, List.map_cons, List.sum_cons, List.sum_cons, sum_succ f rs, List.length_cons]; (first | lia | omega)
theorem ind_lead {rs : List Int} {ts : Int} (h0 : ∀ r ∈ rs, 0 ≤ r) (hts : 0 < ts) : indV (cntOf rs) 0 rs.length ts = ts * (rs.map fun r => r / ts + 1).sum := by
  obtain ⟨t, rfl⟩ : ∃ t : Nat, ts = t := ⟨ts.toNat, by (first | lia | omega)⟩
  unfold indV
  rw [Int.zero_add, sum_succ, ilK_sum]
  congr 2
  have hlen := (cntFold_len rs []).2.1
  rw [sumN_congr (fun j => cnt_getD h0 j), sumN_count _ _ rs fun r hr => ⟨h0 r hr, by
    have := hlen r hr
    have h1 : r.toNat < (cntOf rs).length := this
    have := h0 r hr
    (first | lia | omega)⟩]
  congr 1
  apply List.map_congr_left
  intro r hr
  rw [Int.toNat_of_nonneg (h0 r hr)]
theorem sum_le {f : Int → Int} (hf : ∀ a b, a ≤ b → f a ≤ f b) : ∀ zs : List (Int × Int), (∀ z ∈ zs, z.1 ≤ z.2) → ((zs.map (·.1)).map f).sum ≤ ((zs.map (·.2)).map f).sum
  | [], _ => Int.le_refl _
  | z :: zs, h => by
    have h1 := hf _ _ (h z (.head _))
    have h2 := sum_le hf zs fun y hy => h y (.tail _ hy)
    simp only [List.map_cons, List.sum_cons] at *
    (first | lia | omega)
theorem sum_lag : ∀ zs : List (Int × Int), (zs.map (·.2)).sum = (zs.map (·.1)).sum + lagSum zs
  | [] => rfl
  | z :: zs => by
    rw [List.map_cons, List.map_cons, List.sum_cons, List.sum_cons, sum_lag zs, lagSum]; (first | lia | omega)
noncomputable def tabRow (due nw : List Int) (ts : Int) : Int × Int × Int := (ts, ts * (due.map fun r => r / ts + 1).sum, ts * (nw.map fun r => r / ts + 1).sum)
theorem nlwL_all {f g : Int → Int} : ∀ K : Nat, (∀ j : Nat, j < K → f (1 + j) ≥ g (1 + j)) → nlwL f g K = (rangeKs 1 K).map fun ts => (ts, f ts, g ts)
  | 0, _ => rfl
  | K + 1, h => by
    rw [nlwL, if_pos (h K (by (first | lia | omega))), nlwL_all K fun j hj => h j (by (first | lia | omega))]
    unfold rangeKs
    rw [List.range_succ, List.map_append, List.map_append]
    rfl
theorem table_rows {n : Nat} {zs : List (Int × Int)} (I : Inv n zs) (hne : zs ≠ []) :
    (nlwN (cntOf (zs.map (·.2))) 0 (cntOf (zs.map (·.1))) 0).toNat = (cntOf (zs.map (·.2))).length ∧
    nlwL (indV (cntOf (zs.map (·.2))) 0 zs.length) (indV (cntOf (zs.map (·.1))) 0 zs.length) (cntOf (zs.map (·.2))).length = (rangeKs 1 (cntOf (zs.map (·.2))).length).map (tabRow (zs.map (·.2)) (zs.map (·.1))) ∧
    tabRow (zs.map (·.2)) (zs.map (·.1)) 1 = (1, (zs.map (·.1)).sum + zs.length + lagSum zs, (zs.map (·.1)).sum + zs.length) := by
  have hd0 : ∀ r ∈ zs.map (·.2), 0 ≤ r := fun r hr => by
    obtain ⟨z, hz, rfl⟩ := List.mem_map.mp hr
    have := I.at' z hz; (first | lia | omega)
  have hw0 : ∀ r ∈ zs.map (·.1), 0 ≤ r := fun r hr => by
    obtain ⟨z, hz, rfl⟩ := List.mem_map.mp hr
    exact (I.at' z hz).1
  have hle : ∀ z ∈ zs, z.1 ≤ z.2 := fun z hz => (I.at' z hz).2.1
  have hf : ∀ ts, 0 < ts → indV (cntOf (zs.map (·.2))) 0 zs.length ts = ts * ((zs.map (·.2)).map fun r => r / ts + 1).sum := fun ts h => by
    have := ind_lead hd0 h; rwa [List.length_map] at this
  have hg : ∀ ts, 0 < ts → indV (cntOf (zs.map (·.1))) 0 zs.length ts = ts * ((zs.map (·.1)).map fun r => r / ts + 1).sum := fun ts h => by
    have := ind_lead hw0 h; rwa [List.length_map] at this
  refine ⟨?_, ?_, ?_⟩
  · obtain ⟨h1, _⟩ := cnt_len (rs := zs.map (·.2)) (by simpa using hne)
    obtain ⟨_, r, hr, h2⟩ := cnt_len (rs := zs.map (·.1)) (by simpa using hne)
    obtain ⟨z, hz, rfl⟩ := List.mem_map.mp hr
    have := h1 z.2 (List.mem_map.mpr ⟨z, hz, rfl⟩)
    have := hle z hz
    unfold nlwN
    (first | lia | omega)
  · rw [nlwL_all]
    · apply List.map_congr_left
      intro ts hts
      have := (mem_rangeKs hts).1
      rw [hf ts (by (first | lia | omega)), hg ts (by (first | lia | omega))]; rfl
    · intro j _
      rw [hf _ (by (first | lia | omega)), hg _ (by (first | lia | omega))]
      refine Int.mul_le_mul_of_nonneg_left (sum_le (fun a b h => ?_) zs hle) (by (first | lia | omega))
      have := Int.ediv_le_ediv (c := 1 + (j : Int)) (by (first | lia | omega)) h
      (first | lia | omega)
  · have h1 : ∀ rs : List Int, (rs.map fun r => r / 1 + 1).sum = rs.sum + rs.length := fun rs => by
      rw [sum_succ]
      congr 2
      simp
    unfold tabRow
    rw [h1, h1, sum_lag, List.length_map, List.length_map]
    refine Prod.ext rfl (Prod.ext ?_ ?_)
    · dsimp only; (first | lia | omega)
    · dsimp only; (first | lia | omega)
end
section
theorem rows_pack {g h0 h : Heap} {L : Addr} {m : Str → Option Value} (F : Fr g L h0 m) : ∀ {vs : List Value} {rs : List (Int × Int × Int)}, Rows3 h vs rs → (∀ T, Value.ref T ∈ vs → h0.get? T = none) →
    ∃ Tr : List (Addr × Obj), (∀ q ∈ Tr, NT q.2) ∧ News g L h Tr ∧ ∀ h'' : Heap, (∀ q ∈ Tr, h''.get? q.1 = some q.2) → Rows3 h'' vs rs
  | _, _, .nil, _ => ⟨[], (fun _ h => by cases h), (fun _ h => by cases h), fun _ _ => .nil⟩
  | _, _, .cons (T := T) a r, hf => by
    obtain ⟨Tr, h1, h2, h3⟩ := rows_pack F r fun T hT => hf T (.tail _ hT)
    have hT := hf T (.head _)
    exact ⟨_ :: Tr, List.forall_mem_cons.mpr ⟨⟨(fun v e => by cases e), (fun ps e => by cases e)⟩, h1⟩, List.forall_mem_cons.mpr ⟨news_one F hT a _ (.head _), h2⟩,
      fun h'' hh => .cons (hh _ (.head _)) (h3 h'' fun q hq => hh q (.tail _ hq))⟩
theorem cnt_mem {rs : List Int} (h : ∀ r ∈ rs, 0 ≤ r) : ∀ c ∈ cntOf rs, 0 ≤ c ∧ c ≤ rs.length := by
  intro c hc
  obtain ⟨j, hj, e⟩ := List.getElem_of_mem hc
  have h1 := cnt_getD h j
  rw [List.getD_eq_getElem?_getD, List.getElem?_eq_getElem hj, e] at h1
  have h2 := List.count_le_length (a := (j : Int)) (l := rs)
  simp at h1
  (first | lia | omega)
noncomputable def rowD (r : Int × Int × Int) : PyData := .tuple [.int r.1, .int r.2.1, .int r.2.2]
theorem rows_reads {h : Heap} : ∀ {vs : List Value} {rs : List (Int × Int × Int)}, Rows3 h vs rs → ∃ as, ReadsAll h vs (rs.map rowD) as
  | _, _, .nil => ⟨_, .nil⟩
  | _, _, .cons a r => by
    obtain ⟨as, h1⟩ := rows_reads r
    exact ⟨_, .cons (.tuple a rfl rfl (.cons (.int _ _) (.cons (.int _ _) (.cons (.int _ _) .nil)))) h1⟩
theorem rows_lay : ∀ rs : List (Int × Int × Int), PyData.canLayAll0 (rs.map rowD) = true ∧ PyData.depthAll (rs.map rowD) ≤ 2 ∧ PyData.eqvAll (rs.map rowD) (rs.map rowD) = true
  | [] => ⟨rfl, by simp [PyData.depthAll], by simp [PyData.eqvAll]⟩
  | r :: rs => by
    obtain ⟨h1, h2, h3⟩ := rows_lay rs
    refine ⟨by simp [PyData.canLayAll0, PyData.canLay0, rowD, h1], ?_, by simp [PyData.eqvAll, PyData.eqv, rowD, h3]⟩
    simp [PyData.depthAll, PyData.depth, rowD]
    (first | lia | omega)
theorem rows_shaped (rs : List (Int × Int × Int)) : SeqAt.shaped (.list (rs.map rowD)) = true := by
  obtain ⟨h1, h2, _⟩ := rows_lay rs
  unfold SeqAt.shaped
  rw [Bool.and_eq_true, decide_eq_true_eq]
  refine ⟨by simp only [PyData.canLay0]; exact h1, ?_⟩
  simp only [PyData.depth]
  (first | lia | omega)
theorem rows_eqv (rs : List (Int × Int × Int)) : PyData.eqv (.list (rs.map rowD)) (.list (rs.map rowD)) = true := by
  simp only [PyData.eqv]; exact (rows_lay rs).2.2
theorem sum_bound {b : Int} : ∀ {l : List Int}, (∀ x ∈ l, 0 ≤ x ∧ x ≤ b) → 0 ≤ l.sum ∧ l.sum ≤ l.length * b
  | [], _ => by simp
  | x :: l, h => by
    have h1 := h x (.head _)
    have h2 := sum_bound fun y hy => h y (.tail _ hy)
    rw [List.sum_cons, List.length_cons, Int.natCast_add, Int.add_mul]
    (first | lia | omega)
theorem row_bound {n k : Nat} {sz : Int} {l : List Int} (hn : n ≤ 6) (hk : k ≤ n) (hs : 0 < sz ∧ sz < 10) (hl : l.length = k) (h : ∀ r ∈ l, 0 ≤ r ∧ r < (n : Int) + 1) : PySem.IntMulOk sz (l.map fun r => r / sz + 1).sum := by
  have h1 := sum_bound (b := 7) (l := l.map fun r => r / sz + 1) (fun x hx => by
    obtain ⟨r, hr, rfl⟩ := List.mem_map.mp hx
    have h2 := h r hr
    have h3 := Int.ediv_nonneg h2.1 (Int.le_of_lt hs.1)
    have h4 := Int.ediv_le_self sz h2.1
    (first | lia | omega))
  rw [List.length_map, hl] at h1
  generalize (l.map fun r => r / sz + 1).sum = S at *
  exact mulOk_of_bits (m := 20) (n := 20) (intBits_le (by (first | lia | omega))) (intBits_le (by (first | lia | omega))) (by (first | lia | omega))
theorem ws_meth2 {w : World} {A : Around} {g : Heap} {L x dx f : Addr} {m : Str → Option Value} {s : Shared} {Q : Value × List Value → Shared → Prop} {E : Value → Shared → Prop} {sl : Array (Option Value)} {es : List DictEntry} {n : Nat} {name : Str} {pl : Sem Bool} (F : Fr g L s.heap m) (X₀ : (Mine.kf.heap_1 w.params).In g)
    (h1 : s.heap.get? x = some ⟨.ref 150, some dx, .plain, sl⟩) (h2 : s.heap.get? dx = some (dictOf es n)) (hl : getL name es = some none) (hg : plainGet (Mine.kf.heap_1 w.params) 150 name = true)
    (hf : findIn (Mine.kf.heap_1 w.params) (.ref 150) name = some (some (.ref f))) (ht : isFn (Mine.kf.heap_1 w.params) (.ref f) = true) (h : Q (.ref f, [.ref x]) s) :
    wpAny (MM w) A (getMethod (.ref x) name pl) Q E s :=
  method_inst F X₀ ⟨h1, rfl, rfl, h2⟩ hg hf ht hl h
local macro_rules | `(tactic| k_all) => `(tactic| with_reducible assumption)
local macro_rules | `(tactic| walk_at "m_run6") => `(tactic| repeat' ((fail_if_success (with_reducible show wpAny _ _ (getMethod (Value.ref _) _ _) _ _ _)); (fail_if_success (with_reducible show wpAny _ _ (compareOp CmpOp.NotEq (Value.ref _) (Value.ref _)) _ _ _)); (fail_if_success (with_reducible show wpAny _ _ (call (Value.builtin "max") [Value.ref _] _) _ _ _)); (fail_if_success (with_reducible show wpAny _ _ (call (Value.builtin "sum") [Value.ref _] _) _ _ _)); (fail_if_success (with_reducible show wpAny _ _ (subscriptTail _ _ _ _) _ _ _)); walk_at "m_stop"; walk_at "m_step"))
section
variable {name qual : Str} {params : Arguments} {body tb orelse rest : List Stmt} {scope : Scope} {dV kV doc pm cdv ct oc : Value} {an od : Option Addr} {osl : Array (Option Value)} {tgt it : Expr} {ps : Pos}
theorem stage5 {K : Flow → Shared → Prop} {g : Heap} {L : Addr} {m : Str → Option Value} {oS oO oT oW oC oR : Obj} {tl Tl : List (Addr × Obj)} {n k : Nat} {gone : Int} {tC tG : Tok} {Dn cn x : Nat} {nv : List Value} {nw : List Int} {v : Value} {P : Bool} {vS v5 v4 v3 v1 : Option Value}
    (ho : (Mine.kf.heap_1 w.params).lookup 185 = some ⟨oc, od, .func (fnOf name qual params body scope dV kV doc pm an cdv ct), osl⟩) (hf : body[9]? = some (.For tgt it tb orelse ps)) (hr : rest = tb.drop 13)
    (W : Law (d + 50) w p loose mean mg mb A g L) (F : Fr g L s.heap m) (N : News g L s.heap ((L + 6, oS) :: (L + 5, oO) :: (L + 4, oT) :: (L + 3, oW) :: (L + 2, oC) :: (L + 1, oR) :: (Tl ++ tl))) (htl : ∀ q ∈ tl, NT q.2) (hTn : ∀ q ∈ Tl, NT q.2) (hTb : Tabs s.heap) (hG : AllBare s.gens)
    (dS : oS.data = .cell vS) (dO : oO.data = .cell v5) (dT : oT.data = .cell v4) (dW : oW.data = .cell v3) (dC : oC.data = .cell (some (.int k tC))) (dR : oR.data = .cell v1)
    (hDn : (Dn, listV nv cn) ∈ tl) (hIn : IntsAre nv nw) (hn : 4 ≤ n ∧ n ≤ 6) (hk : 2 ≤ k ∧ k ≤ n) (hnl : nw.length = k) (hnr : ∀ x ∈ nw, 0 ≤ x ∧ x < (n : Int) + 1) (hP : P = decide ((n : Int) ∉ (ringSt ((n : Int) + 1) nw).1))
    (hgone : gone = (ringSt ((n : Int) + 1) nw).2) (hdue : P = true → ∃ Dd dv cd, v = .ref Dd ∧ (Dd, listV dv cd) ∈ tl ∧ IntsAre dv (ringSt ((n : Int) + 1) nw).1)
    (hWs : ∀ h'' : Heap, (∀ q ∈ Tl, h''.get? q.1 = some q.2) → IsWs h'' x (cntOf nw) 0 k)
    (mP : m (Str.ofString "parks") = some (.bool P)) (mD : m (Str.ofString "due") = some v) (mTu : m (Str.ofString "turned") = some (.ref Dn)) (mL : m (Str.ofString "lead") = some (.ref x)) (mG : m (Str.ofString "gone") = some (.int gone tG))
    (next : ∀ (h' : Heap) (tk' : Nat) (gs' : Array GenState) (m' : Str → Option Value) (oS' : Obj) (vS' : Option Value), Fr g L h' m' → News g L h' ((L + 6, oS') :: (L + 5, oO) :: (L + 4, oT) :: (L + 3, oW) :: (L + 2, oC) :: (L + 1, oR) :: tl) → oS'.data = .cell vS' → Tabs h' → AllBare gs' →
      (∀ y, y ≠ Str.ofString "table" → y ≠ Str.ofString "sizes" → y ≠ Str.ofString "plain" → y ≠ Str.ofString "far" → y ≠ Str.ofString "near" → m' y = m y) → K .next { s with heap := h', gens := gs', toks := tk' }) :
    wpAny (MM w) A (execs rest (envOfC qual scope L 185 cdv)) K (fun _ _ => False) s := by
  have hL := Law.cx W F
  walk_at "m_fill"
  refine' lawInv ho ?e ?_
  case e => k_is
  intro e1 e2 e3 e4
  subst e1 e2 e3 e4
  have hf2 := hf
  rw [show (some (Stmt.For tgt it tb orelse ps)) = _ from hf2.symm] at hf
  clear hf
  injection (Option.some.inj hf2) with f1 f2 f3 f4 f5
  subst f1 f2 f4 f5
  rw [← f3] at hr
  clear f3 hf2 ho
  simp only [List.drop_succ_cons, List.drop_zero] at hr
  subst hr
  have hA := W.hh
  have X := W.X
  have T := W.T
  have hTt : ∀ q ∈ Tl ++ tl, NT q.2 := fun q hq => (List.mem_append.mp hq).elim (hTn q) (htl q)
  cases hPP : P with
  | false =>
    rw [hPP] at mP
    walk_at "m_run6"
    exact next _ _ _ _ oS vS F (led_tail N (fun q hq => led_rest N q (List.mem_append_right _ hq))) dS hTb hG (fun _ _ _ _ _ _ => rfl)
  | true =>
    rw [hPP] at mP
    refine hideG ?_; intro XX kXX
    obtain ⟨Dd, dv, cd, rfl, hDd, hId⟩ := hdue hPP
    refine kXX ?_; clear kXX XX
    have hno : (n : Int) ∉ (ringSt ((n : Int) + 1) nw).1 := by rw [hP, decide_eq_true_eq] at hPP; exact hPP
    obtain ⟨zs, I, hz1, hz2, _, _, _⟩ | ⟨h1, _⟩ := park_main hnr
    rotate_left
    · exact absurd h1 hno
    rw [hz2] at hId hgone
    dsimp only at hId hgone
    have hzl : zs.length = k := by rw [← hnl, ← hz1, List.length_map]
    have hzne : zs ≠ [] := fun e => by rw [e] at hzl; simp at hzl; (first | lia | omega)
    obtain ⟨tbl1, tbl2, tbl3⟩ := table_rows I hzne
    rw [hzl] at tbl2 tbl3
    rw [hz1] at tbl1 tbl2 tbl3
    have hdr : ∀ r ∈ zs.map (·.2), 0 ≤ r ∧ r < (n : Int) := fun r hr => by
      obtain ⟨z, hz, rfl⟩ := List.mem_map.mp hr
      have := I.at' z hz; (first | lia | omega)
    have hdl : (zs.map (·.2)).length = k := by rw [List.length_map, hzl]
    generalize hdue' : zs.map (·.2) = due at *
    have hdlead : (leadL due).length < 250 := by
      have h1 := leadL_len due n hdr
      rw [hdl] at h1
      have h2 : k * n ≤ 6 * 6 := Nat.mul_le_mul (by (first | lia | omega)) (by (first | lia | omega))
      (first | lia | omega)
    refine hideG ?_; intro XX kXX
    obtain ⟨hc1, rmx, hrmx, hc2⟩ := cnt_len (rs := due) (fun e => by rw [e] at hdl; simp at hdl; (first | lia | omega))
    refine kXX ?_; clear kXX XX
    refine hideG ?_; intro XX kXX
    obtain ⟨hw1, wmx, hwmx, hw2⟩ := cnt_len (rs := nw) (fun e => by rw [e] at hnl; simp at hnl; (first | lia | omega))
    refine kXX ?_; clear kXX XX
    refine hideG ?_; intro XX kXX
    obtain ⟨t1, ht1, Nt1, hTp1⟩ := Tabs.pack hTb F W
    refine kXX ?_; clear kXX XX
    obtain ⟨tw, htw⟩ : ∃ tw, tw = (Tl ++ tl) ++ t1 := ⟨_, rfl⟩
    have N1 : News g L s.heap ((L + 6, oS) :: (L + 5, oO) :: (L + 4, oT) :: (L + 3, oW) :: (L + 2, oC) :: (L + 1, oR) :: tw) := htw ▸ led_tail N (news_app (led_rest N) Nt1)
    clear N Nt1
    have hsub : ∀ q ∈ tl, q ∈ tw := fun q hq => by rw [htw]; simp [hq]
    have hsubT : ∀ q ∈ Tl, q ∈ tw := fun q hq => by rw [htw]; simp [hq]
    walk_at "m_run6"
    (rename Fr _ _ _ _ => F2); (rename News _ _ _ _ => N2)
    refine lead_spec (rs := due) (Law.cx (d := d + 40 + 1) (e := 9) W F2) (.inl ⟨dv, (led_rest N2).isList (hsub _ hDd), hId⟩) (by (first | lia | omega)) (fun r hr => by have := hdr r hr; (first | lia | omega)) ?_
    intro h5 tS tk5 hk5
    have F5 := Fr.ext F2 hk5
    have N5 := News.ext N2 hk5
    clear F2 N2
    walk_at "m_run6"
    (rename Fr _ _ _ _ => F6); (rename News _ _ _ _ => N6)
    refine ws_spec (rs := due) (Law.cx (d := d + 40 + 2) (e := 8) W F6) hdlead ?_
    intro h7 x2 tk7 Tl2 hk7 hTl2 hWs2
    have F7 := Fr.ext F6 hk7
    have NTl : News g L h7 Tl2 := fun q hq => ⟨(hTl2 q hq).1, (fun e => by
        obtain ⟨o, _, _, hh, _⟩ := F6.ns
        have := (hTl2 q hq).2.1
        rw [e] at this
        exact absurd (hh.symm.trans this) (by simp)), (by
        cases e : g.get? q.1 with
        | none => rfl
        | some o => exact absurd ((F6.keep _ _ e).symm.trans (hTl2 q hq).2.1) (by simp))⟩
    have N7 := led_tail (News.ext N6 hk7) (news_app NTl (led_rest (News.ext N6 hk7)))
    rw [hdl] at hWs2
    obtain ⟨tv, htv⟩ : ∃ tv, tv = Tl2 ++ tw := ⟨_, rfl⟩
    rw [← htv] at N7
    have hTn2 : ∀ q ∈ Tl2, NT q.2 := fun q hq => NT.cls (hTl2 q hq).2.2.1 (hTl2 q hq).2.2.2
    clear F6 N6 NTl hTl2
    walk_at "m_run6"
    have hTlv : ∀ q ∈ Tl2, q ∈ tv := fun q hq => by rw [htv]; exact List.mem_append_left _ hq
    have hwv : ∀ q ∈ tw, q ∈ tv := fun q hq => by rw [htv]; exact List.mem_append_right _ hq
    have hW2 := hWs2 h7 fun q hq => (led_rest N7 q (hTlv q hq)).1
    have hW1 := hWs h7 fun q hq => (led_rest N7 q (hwv q (hsubT q hq))).1
    refine hideG ?_; intro XX kXX
    obtain ⟨dx, Tn2, Tc, es, nn, sl, lv, c, cnn, t0, t0', a1, a2, a3, a4, a5, hIl, a7, a8, a9, a10⟩ := id hW2.ex
    refine kXX ?_; clear kXX XX
    refine ws_meth2 (f := 147) F7 X a1 a2 a10 ?g1 ?g2 ?g3 ?_
    case g1 => k_is
    case g2 => k_is
    case g3 => k_is
    clear a1 a2 a3 a4 a5 hIl a7 a8 a9 a10
    walk_at "m_run6"
    refine nlw_spec (Law.cx (d := d + 40 + 3) (e := 7) W F7) hW2 hW1 (by have := hdr rmx hrmx; (first | lia | omega)) (by have := hnr wmx hwmx; (first | lia | omega)) (by (first | lia | omega)) (by (first | lia | omega)) (fun c hc => by have := cnt_mem (fun r hr => (hdr r hr).1) c hc; (first | lia | omega)) (fun c hc => by have := cnt_mem (fun r hr => (hnr r hr).1) c hc; (first | lia | omega)) (by (first | lia | omega)) (by (first | lia | omega)) ?_
    intro h9 Dt tvs ct tk9 hk9 hD0 hD hRows hfr
    rw [tbl1, tbl2] at hRows
    refine hideG ?_; intro XX kXX
    obtain ⟨Tr, hTr, NTr, hTrr⟩ := rows_pack F7 hRows hfr
    refine kXX ?_; clear kXX XX
    have NDt := news_one F7 hD0 hD
    have F9 := Fr.ext F7 hk9
    have N9 := led_tail (News.ext N7 hk9) (news_app NDt (news_app NTr (led_rest (News.ext N7 hk9))))
    obtain ⟨tu, htu⟩ : ∃ tu, tu = [(Dt, listV tvs ct)] ++ (Tr ++ tv) := ⟨_, rfl⟩
    rw [← htu] at N9
    have hvu : ∀ q ∈ tv, q ∈ tu := fun q hq => by rw [htu]; simp [hq]
    have hsubu : ∀ q ∈ tl, q ∈ tu := fun q hq => hvu q (hwv q (hsub q hq))
    clear NDt NTr F7 N7 hW1 hW2 hRows
    walk_at "m_run6"
    (rename Fr _ _ _ _ => F10); (rename News _ _ _ _ => N10)
    refine max_list_N hA F10 N10 ((led_rest N10).isList (hsubu _ hDd)) hId (by (first | lia | omega)) ?_
    intro h11 M tM tk11 F11 N11 hM1 hM2
    have hMK : M + 1 = ((cntOf due).length : Int) := by
      have q1 := hc1 M hM1
      have q2 := hM2 rmx hrmx
      have q3 := (hdr M hM1).1
      have q4 := (hdr rmx hrmx).1
      (first | lia | omega)
    clear F10 N10
    have hKn : (cntOf due).length ≤ n := by have := hdr rmx hrmx; (first | lia | omega)
    walk_at "m_run6"
    refine range2_rows F11 N11 ?_
    intro h12 tk12 tr1 tu1 tv1 hR F12 N12 _
    clear F11 N11
    walk_at "m_run6"
    refine list_range_L (n := (cntOf due).length) hA F12 N12 hR (by (first | lia | omega)) (by (first | lia | omega)) (by (first | lia | omega)) (by (first | lia | omega)) ?_
    intro Ds us cz h13 tk13 F13 N13 hDs hus
    clear F12 N12
    have N14 := led_put N13
    clear N13
    have hK2 : 2 ≤ (cntOf due).length := by
      have h1 := pig2 (cntOf due).length 0 due (by rw [← hdue']; exact I.nd) (fun r hr => by
        have := hc1 r hr
        have := (hdr r hr).1
        (first | lia | omega))
      (first | lia | omega)
    walk_at "m_run6"
    (rename Fr _ _ _ _ => F15); (rename News _ _ _ _ => N15)
    refine LSm.sum_ints F15 N15 hA ((led_rest N15).isList (.tail _ (hsubu _ hDn))) hIn ?_
    intro h16 tk16 ts16 F16 N16
    clear F15 N15
    walk_at "m_run6"
    refine LSm.sum_ints F16 N16 hA ((led_rest N16).isList (.tail _ (hsubu _ hDn))) hIn ?_
    intro h17 tk17 ts17 F17 N17
    clear F16 N16
    walk_at "m_run6"
    refine wpAny_For ?_
    walk_at "m_run6"
    rename_i Tq h18 l18 Dp h19 l19 h20 F20 N20
    refine' kmk_slice_ints (s := { s with heap := h20, toks := _ }) (ns := rangeKs 1 (cntOf due).length) F20 N20 (N20.isList (.tail _ (.tail _ (.tail _ (.tail _ (.tail _ (.tail _ (.tail _ (.tail _ (.head _)))))))))) (.int _ _) .none hus (kmk_from hus (by decide)) rfl ?_ ?qs ?qt ?qz
    case qs => with_unfolding_all rfl
    case qt => exact fun _ => rfl
    case qz => rw [List.size_toArray, hus.length, rangeKs_length, show sizeLine = 16777216 from rfl]; (first | lia | omega)
    intro Dz wz h21 F21 N21' l21 hIz _ _
    have hwzl := hIz.length
    rw [List.length_drop, rangeKs_length] at hwzl
    refine hideG ?_; intro XX kXX
    obtain ⟨m21, F21, m21y, m21d, m21t, m21p, m21s, m21tb⟩ : ∃ m21, Fr g L h21 m21 ∧ (∀ y, y ≠ Str.ofString "table" → y ≠ Str.ofString "sizes" → y ≠ Str.ofString "plain" → m21 y = m y) ∧ m21 (Str.ofString "due") = some (.ref Dd) ∧ m21 (Str.ofString "turned") = some (.ref Dn) ∧ m21 (Str.ofString "plain") = some (.ref Dp) ∧
        m21 (Str.ofString "sizes") = some (.ref Ds) ∧ m21 (Str.ofString "table") = some (.ref Dt) :=
      ⟨_, F21, fun y a b c => (if_neg c).trans ((if_neg b).trans (if_neg a)), mD, mTu, rfl, rfl, rfl⟩
    refine kXX ?_; clear kXX XX
    refine hideG ?_; intro XX kXX
    obtain ⟨ta, tb2, tc, N21'⟩ : ∃ ta tb tc, News g L h21 ((Dz, listV wz 0) :: (Dp, listV [.ref Tq] 0) :: (Tq, tupV [.int 1 ta, .int (nw.sum + k + gone) tb, .int (nw.sum + k) tc] 0) :: (L + 6, oS) :: (L + 5, oO) :: (L + 4, oT) :: (L + 3, oW) :: (L + 2, oC) :: (L + 1, oR) :: (Ds, listV us cz) :: tu) := ⟨_, _, _, N21'⟩
    refine kXX ?_; clear kXX XX
    have N21 : News g L h21 ((L + 6, oS) :: (L + 5, oO) :: (L + 4, oT) :: (L + 3, oW) :: (L + 2, oC) :: (L + 1, oR) :: (Dz, listV wz 0) :: (Dp, listV [.ref Tq] 0) :: ([(Tq, tupV [.int 1 ta, .int (nw.sum + k + gone) tb2, .int (nw.sum + k) tc] 0)] ++ ((Ds, listV us cz) :: tu))) := by
      intro q hq
      refine N21' q ?_
      simp only [List.singleton_append, List.mem_cons] at hq ⊢
      rcases hq with h | h | h | h | h | h | h | h | h | h | h <;> simp [h]
    have hDzDp : @LT.lt Nat _ Dp Dz := l21 _ (.head _)
    refine hideG ?_; intro XX kXX
    obtain ⟨lq, p6, p5, p4, p3, p2, p1, ps1, ptu⟩ := l19
    refine kXX ?_; clear kXX XX
    have hneDp : ∀ q ∈ (Ds, listV us cz) :: tu, q.1 ≠ Dp := fun q hq => by
      rcases List.mem_cons.mp hq with h | h
      · rw [h]; exact Nat.ne_of_lt ps1
      · exact Nat.ne_of_lt (allLt_get ptu q h)
    clear N21' F20 N20 l21
    have htuc : ∀ q ∈ (Ds, listV us cz) :: tu, ∀ v, q.2.data ≠ .cell v := List.forall_mem_cons.mpr ⟨(fun v e => by cases e), fun q hq => by
      rw [htu] at hq
      rcases List.mem_append.mp hq with h | h
      · rw [List.mem_singleton.mp h]; intro v e; cases e
      rcases List.mem_append.mp h with h | h
      · exact (hTr q h).1
      · rw [htv, htw] at h
        simp only [List.mem_append] at h
        rcases h with h | (h | h) | h
        · exact (hTn2 q h).1
        · exact (hTn q h).1
        · exact (htl q h).1
        · exact ht1 q h⟩
    walk_at "m_run6"
    refine for_listG (h₀ := g) (L := L) (l := Dz) (vs := wz) (c := 0) (fun i m' news gs => ∃ oS' vS' pv cp Tp, news = (L + 6, oS') :: (L + 5, oO) :: (L + 4, oT) :: (L + 3, oW) :: (L + 2, oC) :: (L + 1, oR) :: (Dz, listV wz 0) :: (Dp, listV pv cp) :: (Tp ++ ((Ds, listV us cz) :: tu)) ∧ oS'.data = .cell vS' ∧ gs = s.gens ∧ (∀ q ∈ Tp, NT q.2) ∧
        (∀ h : Heap, (∀ q ∈ Tp, h.get? q.1 = some q.2) → Rows3 h pv ((rangeKs 1 (i + 1)).map (tabRow due nw))) ∧ pv.length = i + 1 ∧ (∀ q ∈ Tp, q.1 ≠ Dp) ∧ (∀ y, y ≠ Str.ofString "far" → y ≠ Str.ofString "near" → m' y = m21 y))
      hA (fun i m' news' gs h => by obtain ⟨_, _, _, _, _, rfl, _⟩ := h; exact .tail _ (.tail _ (.tail _ (.tail _ (.tail _ (.tail _ (.head _))))))) rfl F21 N21 ⟨oS, vS, [.ref Tq], 0, [_], rfl, dS, rfl, List.forall_mem_singleton.mpr ⟨(fun v e => by cases e), (fun ps e => by cases e)⟩, ?_, rfl, List.forall_mem_singleton.mpr (Nat.ne_of_lt lq), fun _ _ _ => rfl⟩ ?_ ?_
    · intro h hh
      rw [show (rangeKs 1 (0 + 1)).map (tabRow due nw) = [tabRow due nw 1] from rfl, tbl3, ← hgone, show nw.sum + (k : Int) + gone = nw.sum + k + gone from rfl]
      exact .cons (hh _ (.head _)) .nil
    · rintro Ii i w' m₁ news₁ h tk' gs oI hi hv' hI1 hJ12 hoff F22 N22 _
      refine hideG ?_; intro XX kXX
      obtain ⟨oS', vS', pv, cp, Tp, rfl, dS', rfl, hTp, hrows, hpl, hTpD, hmy⟩ := hJ12
      refine kXX ?_; clear kXX XX
      refine hideG ?_; intro XX kXX
      obtain ⟨sz, tsz, rfl, hsz⟩ := hIz.at i w' hv'
      refine kXX ?_; clear kXX XX
      have hszv : sz = 2 + (i : Int) := by
        rw [List.getElem?_drop, rangeKs, List.getElem?_map, List.getElem?_range (by (first | lia | omega))] at hsz
        simp at hsz
        (first | lia | omega)
      have hsz1 : 0 < sz ∧ sz < 10 := by (first | lia | omega)
      have hIM1 := row_bound hn.2 hk.2 hsz1 hdl (fun r hr => by have := hdr r hr; (first | lia | omega))
      have hIM2 := row_bound hn.2 hk.2 hsz1 hnl hnr
      have htp : ∀ q ∈ (Dz, listV wz 0) :: (Dp, listV pv cp) :: (Tp ++ ((Ds, listV us cz) :: tu)), ∀ v, q.2.data ≠ .cell v :=
        List.forall_mem_cons.mpr ⟨(fun v e => by cases e), List.forall_mem_cons.mpr ⟨(fun v e => by cases e), fun q hq => (List.mem_append.mp hq).elim (fun h => (hTp q h).1) (htuc q)⟩⟩
      have off6 : ∀ q ∈ (Dz, listV wz 0) :: (Dp, listV pv cp) :: (Tp ++ ((Ds, listV us cz) :: tu)), q.1 ≠ L + 6 := off_cell (fun q hq => N22 q (.tail _ hq)) htp (.head _) dS'
      have offI : @Ne Nat Ii (L + 6) := fun e => hoff _ (.head _) e.symm
      have md : m₁ (Str.ofString "due") = some (.ref Dd) := (hmy _ (by decide) (by decide)).trans m21d
      have mt : m₁ (Str.ofString "turned") = some (.ref Dn) := (hmy _ (by decide) (by decide)).trans m21t
      have mp : m₁ (Str.ofString "plain") = some (.ref Dp) := (hmy _ (by decide) (by decide)).trans m21p
      walk_at "m_run6"
      rename_i h23 oS2 F23 N23 dS2
      refine comp_open (cl := [(Str.ofString "size", L + 6)]) (fun x y => ∃ u, y = .int (x / sz + 1) u) rfl (by decide) rfl (by decide) rfl ?_
      walk_at "m_step"
      have gD24 := (N23 _ (.tail _ (.tail _ (.tail _ (.tail _ (.tail _ (.tail _ (.tail _ (.tail _ (.tail _ (List.mem_append_right _ (.tail _ (hsubu _ hDd))))))))))))).1
      have gS24 := (N23 _ (.tail _ (.head _))).1
      refine comp_list hA ⟨_, gD24, rfl, _, rfl⟩ hId (by (first | lia | omega)) ?_ ?_
      · intro C' y u s₃ m₃ E' hy hC' hN hm hk'
        have gc := hk' _ _ gS24
        walk_at "m_step"
        walk_at "m_step"
        refine ld_comp hN hm ?_
        refine' ld_cell (c := L + 6) rfl ?ha dS2 ?_
        case ha => exact gc
        walk_at "m_step"
        walk_at "m_step"
        walk_at "m_step"
        rw [Int.fdiv_eq_ediv_of_nonneg _ (by (first | lia | omega))]
        exact ⟨⟨_, rfl⟩, ⟨_, _, rfl, fun _ _ e => e⟩⟩
      intro Dl24 h24 tk24 ys24 c24 hD024 hD24 hF24 hk24
      have F24 := Fr.ext F23 hk24
      have N24 : News g L h24 ((Dl24, listV ys24 c24) :: (Ii, oI) :: (L + 6, oS2) :: (L + 5, oO) :: (L + 4, oT) :: (L + 3, oW) :: (L + 2, oC) :: (L + 1, oR) :: (Dz, listV wz 0) :: (Dp, listV pv cp) :: (Tp ++ ((Ds, listV us cz) :: tu))) := List.forall_mem_cons.mpr ⟨news_one F23 hD024 hD24 _ (.head _), News.ext N23 hk24⟩
      have hI24 := ints_of hF24
      clear F23 N23 gD24 gS24 hk24 hD24 hD024 hF24
      walk_at "m_run6"
      refine LSm.sum_ints F24 N24 hA (N24.isList (.head _)) hI24 ?_
      intro h24b tk24b ts24b F24b N24b'
      have N24b : News g L h24b ((Ii, oI) :: (L + 6, oS2) :: (L + 5, oO) :: (L + 4, oT) :: (L + 3, oW) :: (L + 2, oC) :: (L + 1, oR) :: (Dz, listV wz 0) :: (Dp, listV pv cp) :: (Tp ++ ((Ds, listV us cz) :: tu))) := fun q hq => N24b' q (.tail _ hq)
      clear F24 N24 N24b'
      walk_at "m_run6"
      (rename Fr _ _ _ _ => F25); (rename News _ _ _ _ => N25)
      refine comp_open (cl := [(Str.ofString "size", L + 6)]) (fun x y => ∃ u, y = .int (x / sz + 1) u) rfl (by decide) rfl (by decide) rfl ?_
      walk_at "m_step"
      have gD26 := (N25 _ (.tail _ (.tail _ (.tail _ (.tail _ (.tail _ (.tail _ (.tail _ (.tail _ (.tail _ (List.mem_append_right _ (.tail _ (hsubu _ hDn))))))))))))).1
      have gS26 := (N25 _ (.tail _ (.head _))).1
      refine comp_list hA ⟨_, gD26, rfl, _, rfl⟩ hIn (by (first | lia | omega)) ?_ ?_
      · intro C' y u s₃ m₃ E' hy hC' hN hm hk'
        have gc := hk' _ _ gS26
        walk_at "m_step"
        walk_at "m_step"
        refine ld_comp hN hm ?_
        refine' ld_cell (c := L + 6) rfl ?ha dS2 ?_
        case ha => exact gc
        walk_at "m_step"
        walk_at "m_step"
        walk_at "m_step"
        rw [Int.fdiv_eq_ediv_of_nonneg _ (by (first | lia | omega))]
        exact ⟨⟨_, rfl⟩, ⟨_, _, rfl, fun _ _ e => e⟩⟩
      intro Dl26 h26 tk26 ys26 c26 hD026 hD26 hF26 hk26
      have F26 := Fr.ext F25 hk26
      have N26 : News g L h26 ((Dl26, listV ys26 c26) :: (Ii, oI) :: (L + 6, oS2) :: (L + 5, oO) :: (L + 4, oT) :: (L + 3, oW) :: (L + 2, oC) :: (L + 1, oR) :: (Dz, listV wz 0) :: (Dp, listV pv cp) :: (Tp ++ ((Ds, listV us cz) :: tu))) := List.forall_mem_cons.mpr ⟨news_one F25 hD026 hD26 _ (.head _), News.ext N25 hk26⟩
      have hI26 := ints_of hF26
      clear F25 N25 gD26 gS26 hk26 hD26 hD026 hF26
      walk_at "m_run6"
      refine LSm.sum_ints F26 N26 hA (N26.isList (.head _)) hI26 ?_
      intro h26b tk26b ts26b F26b N26b'
      have N26b : News g L h26b ((Ii, oI) :: (L + 6, oS2) :: (L + 5, oO) :: (L + 4, oT) :: (L + 3, oW) :: (L + 2, oC) :: (L + 1, oR) :: (Dz, listV wz 0) :: (Dp, listV pv cp) :: (Tp ++ ((Ds, listV us cz) :: tu))) := fun q hq => N26b' q (.tail _ hq)
      clear F26 N26 N26b'
      walk_at "m_run6"
      walk_at "m_step"
      walk_at "m_run6"
      rename_i T9 h9' F27 N27 l27
      have hT9 : @LT.lt Nat _ Dp T9 := by obtain ⟨_, _, _, _, _, _, _, _, h, _⟩ := l27; exact h
      have hIT9 : @LT.lt Nat _ Ii T9 := l27.1
      have hIDp : Ii ≠ Dp := fun e => hoff (Dp, listV pv cp) (.tail _ (.tail _ (.tail _ (.tail _ (.tail _ (.tail _ (.tail _ (.head _)))))))) e.symm
      refine append_L F27 N27 (.tail (Nat.ne_of_gt hT9) (.tail hIDp (.tail (Nat.ne_of_lt p6) (.tail (Nat.ne_of_lt p5) (.tail (Nat.ne_of_lt p4) (.tail (Nat.ne_of_lt p3) (.tail (Nat.ne_of_lt p2) (.tail (Nat.ne_of_lt p1) (.tail (Nat.ne_of_gt hDzDp) (.head fun q hq => (List.mem_append.mp hq).elim (hTpD q) (hneDp q))))))))))) ?_ (by (first | lia | omega))
      intro h28 F28 N28
      clear F27 N27
      walk_at "m_run6"
      refine hideG ?_; intro XX kXX
      obtain ⟨ta', tb', tc', N28⟩ : ∃ ta tb tc, News g L h28 ((T9, tupV [.int sz ta, .int (sz * (due.map fun x => x / sz + 1).sum) tb, .int (sz * (nw.map fun x => x / sz + 1).sum) tc] 0) :: (Ii, oI) :: (L + 6, oS2) :: (L + 5, oO) :: (L + 4, oT) :: (L + 3, oW) :: (L + 2, oC) :: (L + 1, oR) :: (Dz, listV wz 0) :: (Dp, listV (pv ++ [.ref T9]) (cp + 1)) :: (Tp ++ ((Ds, listV us cz) :: tu))) := ⟨_, _, _, N28⟩
      refine kXX ?_; clear kXX XX
      refine ⟨h28, _, _, _, (L + 6, oS2) :: (L + 5, oO) :: (L + 4, oT) :: (L + 3, oW) :: (L + 2, oC) :: (L + 1, oR) :: (Dz, listV wz 0) :: (Dp, listV (pv ++ [.ref T9]) (cp + 1)) :: (((T9, tupV [.int sz ta', .int (sz * (due.map fun x => x / sz + 1).sum) tb', .int (sz * (nw.map fun x => x / sz + 1).sum) tc'] 0) :: Tp) ++ ((Ds, listV us cz) :: tu)), rfl, F28, ?_, ?_,
        ⟨oS2, _, _, _, _, rfl, dS2, rfl, List.forall_mem_cons.mpr ⟨⟨(fun v e => by cases e), (fun ps e => by cases e)⟩, hTp⟩, ?_, by rw [List.length_append, hpl]; rfl, List.forall_mem_cons.mpr ⟨Nat.ne_of_gt hT9, hTpD⟩, fun y a b => (if_neg b).trans ((if_neg a).trans (hmy y a b))⟩⟩
      · intro q hq
        refine N28 q ?_
        simp only [List.cons_append, List.mem_cons] at hq ⊢
        rcases hq with h | h | h | h | h | h | h | h | h | h | h <;> simp [h]
      · intro q hq
        simp only [List.cons_append, List.mem_cons] at hq
        rcases hq with h | h | h | h | h | h | h | h | h | h
        · rw [h]; exact hoff (L + 6, oS') (.head _)
        · rw [h]; exact hoff (L + 5, oO) (.tail _ (.head _))
        · rw [h]; exact hoff (L + 4, oT) (.tail _ (.tail _ (.head _)))
        · rw [h]; exact hoff (L + 3, oW) (.tail _ (.tail _ (.tail _ (.head _))))
        · rw [h]; exact hoff (L + 2, oC) (.tail _ (.tail _ (.tail _ (.tail _ (.head _)))))
        · rw [h]; exact hoff (L + 1, oR) (.tail _ (.tail _ (.tail _ (.tail _ (.tail _ (.head _))))))
        · rw [h]; exact hoff (Dz, listV wz 0) (.tail _ (.tail _ (.tail _ (.tail _ (.tail _ (.tail _ (.head _)))))))
        · rw [h]; exact Ne.symm hIDp
        · rw [h]; exact Nat.ne_of_gt hIT9
        · exact hoff q (.tail _ (.tail _ (.tail _ (.tail _ (.tail _ (.tail _ (.tail _ (.tail _ h))))))))
      · intro h hh
        rw [show rangeKs 1 (i + 1 + 1) = rangeKs 1 (i + 1) ++ [sz] by
          unfold rangeKs
          rw [List.range_succ, List.map_append, List.map_cons, List.map_nil, hszv]
          congr 2
          (first | lia | omega), List.map_append, List.map_cons, List.map_nil]
        exact Rows3.snoc (hh _ (.head _)) (hrows h fun q hq => hh q (.tail _ hq))
    · rintro m₁ news₁ h tk' gs hJ5 F22 N22
      refine hideG ?_; intro XX kXX
      obtain ⟨oS', vS', pv, cp, Tp, rfl, dS', rfl, hTp, hrows, hpl, hTpD, hmy⟩ := hJ5
      refine kXX ?_; clear kXX XX
      have md : m₁ (Str.ofString "table") = some (.ref Dt) := (hmy _ (by decide) (by decide)).trans m21tb
      have mp : m₁ (Str.ofString "plain") = some (.ref Dp) := (hmy _ (by decide) (by decide)).trans m21p
      have msz : m₁ (Str.ofString "sizes") = some (.ref Ds) := (hmy _ (by decide) (by decide)).trans m21s
      have hwK : wz.length + 1 = (cntOf due).length := by rw [hwzl]; show (cntOf due).length - 1 + 1 = _; (first | lia | omega)
      rw [hwK] at hrows
      try dsimp only
      walk_at "m_run6"
      have inu : ∀ q ∈ tu, h.get? q.1 = some q.2 := fun q hq => (N22 q (.tail _ (.tail _ (.tail _ (.tail _ (.tail _ (.tail _ (.tail _ (.tail _ (List.mem_append_right _ (.tail _ hq))))))))))).1
      have inp : ∀ q ∈ Tp, h.get? q.1 = some q.2 := fun q hq => (N22 q (.tail _ (.tail _ (.tail _ (.tail _ (.tail _ (.tail _ (.tail _ (.tail _ (List.mem_append_left _ hq)))))))))).1
      have hRt := hTrr h fun q hq => inu q (by rw [htu]; simp [hq])
      have hRp := hrows h inp
      have hDt : h.get? Dt = some (listV tvs ct) := inu (Dt, listV tvs ct) (by rw [htu]; simp)
      have hDp := (N22 (Dp, listV pv cp) (.tail _ (.tail _ (.tail _ (.tail _ (.tail _ (.tail _ (.tail _ (.head _))))))))).1
      obtain ⟨_, r1⟩ := rows_reads hRt
      obtain ⟨_, r2⟩ := rows_reads hRp
      refine ne_dataH (.list hDt rfl rfl r1) (.list hDp rfl rfl r2) (rows_shaped _) (rows_shaped _) (by have := W.hu; (first | lia | omega)) ?_
      rw [rows_eqv, Bool.not_true]
      clear r1 r2
      have hTb9 := hTp1 h F22.keep fun q hq => inu q (hvu q (hwv q (by rw [htw]; simp [hq])))
      walk_at "m_run6"
      refine fw_spec (rs := (rangeKs 1 (cntOf due).length).map (tabRow due nw)) (Law.cx (d := d + 40 + 5) (e := 5) W F22) hDt hRt (by rw [List.length_map, rangeKs_length]; (first | lia | omega)) (fun r hr => by
        obtain ⟨y, hy, rfl⟩ := List.mem_map.mp hr
        have := mem_rangeKs hy
        show 0 ≤ y ∧ y < 10
        (first | lia | omega)) hTb9.2.2 W.n156 hG ?_
      intro h30 tw30 tk30 gs30 hG30 hk30 hT156
      have F30 := Fr.ext4 F22 W (h' := h30) fun b o _ _ e3 e => hk30 b o e3 e
      have hus' := inu
      have N22b : News g L h ((L + 6, oS') :: (L + 5, oO) :: (L + 4, oT) :: (L + 3, oW) :: (L + 2, oC) :: (L + 1, oR) :: ([(Ds, listV us cz)] ++ tl)) := led_tail (led_tail N22 (tl' := _) (led_rest N22)) (fun q hq => by
        rcases List.mem_append.mp hq with h | h
        · exact N22 q (.tail _ (.tail _ (.tail _ (.tail _ (.tail _ (.tail _ (.tail _ (.tail _ (List.mem_append_right _ (by rw [List.mem_singleton.mp h]; exact .head _))))))))))
        · exact N22 q (.tail _ (.tail _ (.tail _ (.tail _ (.tail _ (.tail _ (.tail _ (.tail _ (List.mem_append_right _ (.tail _ (hsubu q h)))))))))))
      )
      have N30 := led_keep N22b (cells_nt dS' dO dT dW dC dR (fun q hq => (List.mem_append.mp hq).elim (fun h => by rw [List.mem_singleton.mp h]; exact NT.list _ _) (htl q))) hTb9 (h' := h30) fun b o _ _ e3 e => hk30 b o e3 e
      have hTb30 : Tabs h30 := ⟨hTb9.1.keep2 hTb9.2.2 (by decide) hk30, hTb9.2.1.keep2 hTb9.2.2 (by decide) hk30, hT156⟩
      refine hideG ?_; intro XX kXX
      obtain ⟨t3, ht3, Nt3, hTp3⟩ := Tabs.pack hTb30 F30 W
      refine kXX ?_; clear kXX XX
      have N31 := led_tail N30 (news_app (led_rest N30) Nt3)
      clear F22 N22 N22b N30 Nt3 inu inp hus'
      walk_at "m_run6"
      (rename Fr _ _ _ _ => F32); (rename News _ _ _ _ => N32)
      have gDs := (led_rest N32 (Ds, listV us cz) (by simp)).1
      refine comp_open (cl := []) (fun x y => ∃ u, y = .str (intT x) u) rfl (by decide) rfl (by decide) rfl ?_
      walk_at "m_step"
      refine comp_list hA ⟨_, gDs, rfl, _, rfl⟩ hus (by rw [rangeKs_length]; (first | lia | omega)) ?_ ?_
      · intro C' y u s₃ m₃ E' hy hC' hN hm hk'
        have hgk : ∀ b o, g.get? b = some o → s₃.heap.get? b = some o := fun b o e => hk' _ _ (F32.keep _ _ e)
        have hga : g.objs.size ≤ C' := Nat.le_trans F32.above (Nat.le_trans (Nat.le_of_lt F32.ns.lt) hC')
        have hyr := mem_rangeKs hy
        clear F32 N32 gDs
        walk_at "m_step"
        refine gl_builtin (g := g) (C' := C') (m := m₃) ⟨hN, hgk, hga⟩ X T (by k_is) (by boot_by_name) (by decide) (by exact rfl) (by exact rfl) (by exact rfl) (by exact rfl) (by decide) ?_
        walk_at "m_step"
        walk_at "m_step"
        refine' ld_comp ?hn ?hm ?_
        case hn => exact hN
        case hm => exact hm
        walk_at "m_step"
        have := Nat.log2_le_self y.natAbs
        exact PySem.P.str_of_int (by (first | lia | omega)) ⟨⟨_, rfl⟩, _, _, rfl, fun _ _ e => e⟩
      intro Dj h33 tk33 ys33 c33 hD033 hD33 hF33 hk33
      have F33 := Fr.ext F32 hk33
      have N33 := News.ext N32 hk33
      clear F32 N32
      walk_at "m_run6"
      obtain ⟨sl33, rfl, hl33⟩ := strs_of (F := intT) hF33
      have hlen4 : ∀ z ∈ (rangeKs 1 (cntOf due).length).map intT, z.length ≤ 4 := fun z hz => by
        obtain ⟨a, ha, rfl⟩ := List.mem_map.mp hz
        have := mem_rangeKs ha
        exact intT_len (by (first | lia | omega))
      refine join_L (l := sl33) ⟨_, hD33, rfl, _, rfl⟩ ?_ fun t' k' => ?_
      · rw [hl33]
        exact joinOk_of (b := 4) hlen4 (by rw [List.length_map, rangeKs_length, show (Str.ofString ", ").length = 2 by decide]; (first | lia | omega))
      rw [hl33]
      have hjl : (Txt.join (Str.ofString ", ") ((rangeKs 1 (cntOf due).length).map intT)).length ≤ 100000 := by
        unfold Txt.join
        rw [StrLaws.glued_eq_join]
        refine Nat.le_trans (join_len _ 4 _ hlen4) ?_
        rw [List.length_map, rangeKs_length, show (Str.ofString ", ").length = 2 by decide]; (first | lia | omega)
      refine add_str (fun t2 k2 => ?_) ?_
      rotate_left
      · rw [show sizeLine = 16777216 from rfl, show (Str.ofString "at tab sizes ").length = 13 by decide]; (first | lia | omega)
      have hwit : witS ((rangeKs 1 (cntOf due).length).map (tabRow due nw)) = Str.ofString "at tab sizes " ++ Txt.join (Str.ofString ", ") ((rangeKs 1 (cntOf due).length).map intT) := by
        unfold witS
        rw [List.map_map]
        rfl
      rw [← hwit]
      generalize witS ((rangeKs 1 (cntOf due).length).map (tabRow due nw)) = wstr at *
      walk_at "m_run6"
      all_goals first | ((rename (wstr != wstr) = true => hb); exact absurd hb (by simp)) | skip
      refine next h33 _ gs30 m₁ oS' vS' F33 (led_tail N33 fun q hq => led_rest N33 q (by simp [hq])) dS' (hTp3 _ F33.keep fun q hq => (led_rest N33 q (by simp [hq])).1) hG30 ?_
      intro y a b c e f
      exact (hmy y e f).trans (m21y y a b c)
end
end
section
noncomputable def turnNames : List Str := ["parks", "due", "turned", "wish", "want", "rounds", "rest", "lead", "table", "sizes", "plain", "far", "near"]
section
variable {name qual : Str} {params : Arguments} {body tb orelse : List Stmt} {scope : Scope} {dV kV doc pm cdv ct oc : Value} {an od : Option Addr} {osl : Array (Option Value)} {tgt it : Expr} {ps : Pos}
theorem turn_all {K : Flow → Shared → Prop} {g : Heap} {L : Addr} {m : Str → Option Value} {oS oO oT oW oC oR : Obj} {tl : List (Addr × Obj)} {n k tn wd : Nat} {gone : Int} {tt tR tC ts tst tw tWh tG : Tok} {Dw Dt cw cT : Nat} {wv tv : List Value} {ws : List Int} {vO vS : Option Value}
    (ho : (Mine.kf.heap_1 w.params).lookup 185 = some ⟨oc, od, .func (fnOf name qual params body scope dV kV doc pm an cdv ct), osl⟩) (hf : body[9]? = some (.For tgt it tb orelse ps))
    (W : Law (d + 50) w p loose mean mg mb A g L) (F : Fr g L s.heap m) (N : News g L s.heap ((L + 6, oS) :: (L + 5, oO) :: (L + 4, oT) :: (L + 3, oW) :: (L + 2, oC) :: (L + 1, oR) :: tl)) (htl : ∀ q ∈ tl, NT q.2) (hTb : Tabs s.heap) (hG : AllBare s.gens)
    (dS : oS.data = .cell vS) (dO : oO.data = .cell vO) (dT : oT.data = .cell (some (.int (tn : Int) tt))) (dW : oW.data = .cell (some (.ref Dw))) (dC : oC.data = .cell (some (.int k tC))) (dR : oR.data = .cell (some (.int ((n : Int) + 1) tR)))
    (hw : (Dw, listV wv cw) ∈ tl) (hIw : IntsAre wv ws) (hT : (Dt, listV tv cT) ∈ tl) (hIt : IntsAre tv (ringSt ((n : Int) + 1) ws).1) (hn : 4 ≤ n ∧ n ≤ 6) (hk : 2 ≤ k ∧ k ≤ n) (hwd : 4 ≤ wd ∧ wd < 904) (hwl : ws.length = k) (hwr : ∀ x ∈ ws, 0 ≤ x ∧ x < (n : Int) + 1) (ht : tn < n + 1)
    (mSt : m (Str.ofString "street") = some (.int (n : Int) tst)) (mTk : m (Str.ofString "taken") = some (.ref Dt)) (mSs : m (Str.ofString "stairs") = some (.str (leadS (rangeKs ((n : Int) - k) k)) ts))
    (mWd : m (Str.ofString "width") = some (.int (wd : Int) tw)) (mWh : m (Str.ofString "whole") = some (.int (dval wd (cntR (n + 1) ws)) tWh)) (mG : m (Str.ofString "gone") = some (.int (ringSt ((n : Int) + 1) ws).2 tG))
    (next : ∀ (h' : Heap) (tk' : Nat) (gs' : Array GenState) (m' : Str → Option Value) (oS' oO' : Obj) (vS' vO' : Option Value), Fr g L h' m' → News g L h' ((L + 6, oS') :: (L + 5, oO') :: (L + 4, oT) :: (L + 3, oW) :: (L + 2, oC) :: (L + 1, oR) :: tl) → oS'.data = .cell vS' → oO'.data = .cell vO' → Tabs h' → AllBare gs' →
      (∀ y, y ∉ turnNames → m' y = m y) → K .next { s with heap := h', gens := gs', toks := tk' }) :
    wpAny (MM w) A (execs tb (envOfC qual scope L 185 cdv)) K (fun _ _ => False) s := by
  obtain ⟨t0, ht0, Nt0, hTp0⟩ := Tabs.pack hTb F W
  have N1 := led_tail N (news_app (led_rest N) Nt0)
  have htl0 : ∀ q ∈ tl ++ t0, ∀ v, q.2.data ≠ .cell v := fun q hq => (List.mem_append.mp hq).elim (fun h => (htl q h).1) (ht0 q)
  refine stage3 (gone := gone) ho hf rfl W F N1 htl0 dS dO dT dW dC dR (List.mem_append_left _ hw) hIw (List.mem_append_left _ hT) hIt hn hk hwl hwr (by (first | lia | omega)) mSt mTk mSs ?_
  intro h3 tk3 m3 tl3 oO3 Dn cn Dr cr nv rv v F3 N3 hsub3 htl3 dO3 hDr hIr hDn hIn mP mD mTu hdue hmy3
  have hTb3 : Tabs h3 := hTp0 h3 F3.keep fun q hq => (led_rest N3 q (hsub3 q (List.mem_append_right _ hq))).1
  obtain ⟨dl, hdl1, hdl2, hdl3⟩ : ∃ dl : List (Addr × Obj), (∀ q ∈ dl, NT q.2) ∧ (∀ q ∈ dl, q ∈ tl3) ∧ ((n : Int) ∉ (ringSt ((n : Int) + 1) (ws.map (rot ((n : Int) + 1) tn))).1 → ∃ Dd dv cd, v = .ref Dd ∧ (Dd, listV dv cd) ∈ dl ∧ IntsAre dv (ringSt ((n : Int) + 1) (ws.map (rot ((n : Int) + 1) tn))).1) := by
    by_cases hq : (n : Int) ∉ (ringSt ((n : Int) + 1) (ws.map (rot ((n : Int) + 1) tn))).1
    · obtain ⟨Dd, dv, cd, e1, e2, e3⟩ := hdue hq
      exact ⟨[(Dd, listV dv cd)], List.forall_mem_singleton.mpr (NT.list _ _), List.forall_mem_singleton.mpr e2, fun _ => ⟨Dd, dv, cd, e1, .head _, e3⟩⟩
    · exact ⟨[], (fun _ h => by cases h), (fun _ h => by cases h), fun h => absurd h hq⟩
  have N3b : News g L h3 ((L + 6, oS) :: (L + 5, oO3) :: (L + 4, oT) :: (L + 3, oW) :: (L + 2, oC) :: (L + 1, oR) :: ((Dr, listV rv cr) :: (Dn, listV nv cn) :: (dl ++ tl))) := led_tail N3 fun q hq => by
    rcases List.mem_cons.mp hq with h | hq
    · exact led_rest N3 q (h ▸ hDr)
    rcases List.mem_cons.mp hq with h | hq
    · exact led_rest N3 q (h ▸ hDn)
    rcases List.mem_append.mp hq with h | h
    · exact led_rest N3 q (hdl2 q h)
    · exact led_rest N3 q (hsub3 q (List.mem_append_left _ h))
  have htl4 : ∀ q ∈ (Dr, listV rv cr) :: (Dn, listV nv cn) :: (dl ++ tl), NT q.2 := List.forall_mem_cons.mpr ⟨NT.list _ _, List.forall_mem_cons.mpr ⟨NT.list _ _, fun q hq => (List.mem_append.mp hq).elim (hdl1 q) (htl q)⟩⟩
  have keep : ∀ y, y ∉ turnNames → m3 y = m y := fun y hy => by
    simp only [turnNames, List.mem_cons, List.not_mem_nil, or_false, not_or] at hy
    exact hmy3 y hy.1 hy.2.1 hy.2.2.1 hy.2.2.2.1 hy.2.2.2.2.1
  refine stage4 (s := { s with heap := h3, toks := tk3 }) (tn := tn) ho hf rfl W F3 N3b htl4 hTb3 dS dO3 dT dW dC dR (.head _) hIr (.tail _ (.head _)) hIn hn hk hwd hwl hwr ht rfl ((keep _ (by decide)).trans mSt) ((keep _ (by decide)).trans mWd) ((keep _ (by decide)).trans mWh) mP mTu ?_
  intro h4 tk4 m4 x Tl F4 N4 hTn4 hTb4 mL hWs hmy4
  have hnl : (ws.map (rot ((n : Int) + 1) tn)).length = k := by rw [List.length_map, hwl]
  have hnr : ∀ x ∈ ws.map (rot ((n : Int) + 1) tn), 0 ≤ x ∧ x < (n : Int) + 1 := by
    intro x hx
    obtain ⟨y, _, rfl⟩ := List.mem_map.mp hx
    exact rot_range (by (first | lia | omega))
  have hgone : (ringSt ((n : Int) + 1) ws).2 = (ringSt ((n : Int) + 1) (ws.map (rot ((n : Int) + 1) tn))).2 := by rw [ringSt_rot (by (first | lia | omega)) hwr]
  refine stage5 (s := { s with heap := h4, toks := tk4 }) ho hf rfl W F4 N4 htl4 hTn4 hTb4 hG dS dO3 dT dW dC dR (.tail _ (.head _)) hIn hn hk hnl hnr rfl hgone (fun hp => by
      obtain ⟨Dd, dv, cd, e1, e2, e3⟩ := hdl3 (of_decide_eq_true hp)
      exact ⟨Dd, dv, cd, e1, .tail _ (.tail _ (List.mem_append_left _ e2)), e3⟩) hWs ((hmy4 _ (by decide) (by decide) (by decide)).trans mP) ((hmy4 _ (by decide) (by decide) (by decide)).trans mD) ((hmy4 _ (by decide) (by decide) (by decide)).trans mTu) mL
    ((hmy4 _ (by decide) (by decide) (by decide)).trans ((keep _ (by decide)).trans mG)) ?_
  intro h5 tk5 gs5 m5 oS5 vS5 F5 N5 dS5 hTb5 hG5 hmy5
  refine next h5 tk5 gs5 m5 oS5 oO3 vS5 _ F5 (led_tail N5 fun q hq => led_rest N5 q (.tail _ (.tail _ (List.mem_append_right _ hq)))) dS5 dO3 hTb5 hG5 fun y hy => ?_
  have hk := keep y hy
  simp only [turnNames, List.mem_cons, List.not_mem_nil, or_false, not_or] at hy
  obtain ⟨_, _, _, _, _, a6, a7, a8, a9, a10, a11, a12, a13⟩ := hy
  exact (hmy5 y a9 a10 a11 a12 a13).trans ((hmy4 y a6 a7 a8).trans hk)
end
end
section
theorem TabOk.packI {g h : Heap} {L P I : Addr} {m : Str → Option Value} {pos : Pos} {qual : Str} {oI : Obj} (x : TabOk P pos qual h) (F : Fr g L h m) (hg : g.get? P = none) (hPL : P ≠ L) (hI : h.get? I = some oI) (z1 : oI.cls ≠ .none) (z3 : ∀ vs q t, oI.data = .fields vs → vs[1]? = some (.str q t) → False) :
    ∃ tb : List (Addr × Obj), (∀ q ∈ tb, (∀ v, q.2.data ≠ .cell v) ∧ q.1 ≠ I) ∧ News g L h tb ∧ ∀ h' : Heap, (∀ b o, g.get? b = some o → h'.get? b = some o) → (∀ q ∈ tb, h'.get? q.1 = some q.2) → TabOk P pos qual h' := by
  obtain ⟨ps, h1, h2, h3⟩ := x
  have z : h.get? P = some (tabObj ps) ∧ P ≠ L ∧ g.get? P = none := ⟨h1, hPL, hg⟩
  have hPI : P ≠ I := fun e => by
    rw [e, hI] at h1
    exact z1 (by rw [Option.some.inj h1])
  have zz : (∀ v, (tabObj ps).data ≠ .cell v) ∧ P ≠ I := ⟨fun v e => (by cases e), hPI⟩
  rcases h3 with hn | ⟨c', e1, c₂, oc, vs, t, e2, hoc, hd, hv⟩
  · exact ⟨[(P, tabObj ps)], List.forall_mem_singleton.mpr zz, List.forall_mem_singleton.mpr z, fun h' hk hT => ⟨ps, hT _ (.head _), h2, .inl hn⟩⟩
  · cases e : g.get? c₂ with
    | some o =>
      have e3 := F.keep _ _ e
      rw [hoc] at e3
      cases e3
      exact ⟨[(P, tabObj ps)], List.forall_mem_singleton.mpr zz, List.forall_mem_singleton.mpr z, fun h' hk hT => ⟨ps, hT _ (.head _), h2, .inr ⟨c', e1, c₂, oc, vs, t, e2, hk _ _ e, hd, hv⟩⟩⟩
    | none =>
      have hne : c₂ ≠ L := fun q => by
        obtain ⟨oL, _, _, a, b, _⟩ := F.ns
        rw [q, a] at hoc
        cases hoc
        rw [b] at hd
        cases hd
      have hcI : c₂ ≠ I := fun q => by
        rw [q, hI] at hoc
        cases hoc
        exact z3 _ _ _ hd hv
      exact ⟨[(P, tabObj ps), (c₂, oc)], List.forall_mem_cons.mpr ⟨zz, List.forall_mem_singleton.mpr ⟨fun v e => (by rw [hd] at e; cases e), hcI⟩⟩, List.forall_mem_cons.mpr ⟨z, List.forall_mem_singleton.mpr ⟨hoc, hne, e⟩⟩,
        fun h' hk hT => ⟨ps, hT _ (.head _), h2, .inr ⟨c', e1, c₂, oc, vs, t, e2, hT _ (.tail _ (.head _)), hd, hv⟩⟩⟩
theorem Tabs.packI {g h : Heap} {L I : Addr} {m : Str → Option Value} {d : Nat} {oI : Obj} (x : Tabs h) (F : Fr g L h m) (W : Law d w p loose mean mg mb A g L) (hI : h.get? I = some oI) (z1 : oI.cls ≠ .none) (z3 : ∀ vs q t, oI.data = .fields vs → vs[1]? = some (.str q t) → False) :
    ∃ tb : List (Addr × Obj), (∀ q ∈ tb, (∀ v, q.2.data ≠ .cell v) ∧ q.1 ≠ I) ∧ News g L h tb ∧ ∀ h' : Heap, (∀ b o, g.get? b = some o → h'.get? b = some o) → (∀ q ∈ tb, h'.get? q.1 = some q.2) → Tabs h' := by
  obtain ⟨t1, a1, a2, a3⟩ := x.1.packI F W.n62 (Nat.ne_of_lt W.l62) hI z1 z3
  obtain ⟨t2, b1, b2, b3⟩ := x.2.1.packI F W.n55 (Nat.ne_of_lt W.l55) hI z1 z3
  obtain ⟨t3, c1, c2, c3⟩ := x.2.2.packI F W.n156 (Nat.ne_of_lt W.l156) hI z1 z3
  refine ⟨t1 ++ (t2 ++ t3), ?_, ?_, fun h' hk hT => ⟨a3 h' hk fun q hq => hT q (by simp [hq]), b3 h' hk fun q hq => hT q (by simp [hq]), c3 h' hk fun q hq => hT q (by simp [hq])⟩⟩
  · intro q hq
    rcases List.mem_append.mp hq with h | h
    · exact a1 q h
    · rcases List.mem_append.mp h with h | h
      · exact b1 q h
      · exact c1 q h
  · intro q hq
    rcases List.mem_append.mp hq with h | h
    · exact a2 q h
    · rcases List.mem_append.mp h with h | h
      · exact b2 q h
      · exact c2 q h
local macro_rules | `(tactic| k_all) => `(tactic| with_reducible assumption)
local macro_rules | `(tactic| walk_at "m_run7") => `(tactic| repeat' ((fail_if_success (with_reducible show wpAny _ _ (getMethod (Value.ref _) _ _) _ _ _)); (fail_if_success (with_reducible show wpAny _ _ (subscriptTail _ _ _ _) _ _ _)); walk_at "m_stop"; walk_at "m_step"))
local macro_rules | `(tactic| walk_at "m_runE") => `(tactic| repeat' ((fail_if_success (with_reducible show wpAny _ _ (execs _ _) _ _ _)); walk_at "m_stop"; walk_at "m_step"))
section
variable {name qual : Str} {params : Arguments} {body rest : List Stmt} {scope : Scope} {dV kV doc pm cdv ct oc : Value} {an od : Option Addr} {osl : Array (Option Value)}
theorem stage2 {K : Flow → Shared → Prop} {g : Heap} {L : Addr} {m : Str → Option Value} {oS oO oT oW oC oR : Obj} {tl : List (Addr × Obj)} {n k wd : Nat} {tR tC tst tw : Tok} {Dw cw : Nat} {wv : List Value} {ws : List Int} {vS vO vT : Option Value}
    (ho : (Mine.kf.heap_1 w.params).lookup 185 = some ⟨oc, od, .func (fnOf name qual params body scope dV kV doc pm an cdv ct), osl⟩) (hr : rest = body.drop 6)
    (W : Law (d + 50) w p loose mean mg mb A g L) (F : Fr g L s.heap m) (N : News g L s.heap ((L + 6, oS) :: (L + 5, oO) :: (L + 4, oT) :: (L + 3, oW) :: (L + 2, oC) :: (L + 1, oR) :: tl)) (htl : ∀ q ∈ tl, NT q.2) (hTb : Tabs s.heap) (hG : AllBare s.gens)
    (dS : oS.data = .cell vS) (dO : oO.data = .cell vO) (dT : oT.data = .cell vT) (dW : oW.data = .cell (some (.ref Dw))) (dC : oC.data = .cell (some (.int k tC))) (dR : oR.data = .cell (some (.int ((n : Int) + 1) tR)))
    (hw : (Dw, listV wv cw) ∈ tl) (hIw : IntsAre wv ws) (hn : 4 ≤ n ∧ n ≤ 6) (hk : 2 ≤ k ∧ k ≤ n) (hwd : 4 ≤ wd ∧ wd < 904) (hwl : ws.length = k) (hwr : ∀ x ∈ ws, 0 ≤ x ∧ x < (n : Int) + 1)
    (mSt : m (Str.ofString "street") = some (.int (n : Int) tst)) (mWd : m (Str.ofString "width") = some (.int (wd : Int) tw))
    (next : ∀ (h' : Heap) (tk' : Nat) (gs' : Array GenState) (m' : Str → Option Value), Fr g L h' m' → Tabs h' → AllBare gs' → K (.ret (.bool true)) { s with heap := h', gens := gs', toks := tk' }) :
    wpAny (MM w) A (execs rest (envOfC qual scope L 185 cdv)) K (fun _ _ => False) s := by
  have hL := Law.cx W F
  walk_at "m_fill"
  refine' lawInv ho ?e ?_
  case e => k_is
  intro e1 e2 e3 e4
  subst e1 e2 e3 e4
  simp only [List.drop_succ_cons, List.drop_zero] at hr
  subst hr
  have hA := W.hh
  have X := W.X
  have T := W.T
  have hrg : ∀ y ∈ (ringSt ((n : Int) + 1) ws).1, 0 ≤ y ∧ y < (n : Int) + 1 := ringFold_range (by (first | lia | omega)) ws _ hwr (fun _ h => by cases h)
  walk_at "m_run7"
  refine ring_spec (Law.cx (d := d + 40 + 1) (e := 9) W F) ((led_rest N).isList hw) hIw (by (first | lia | omega)) (by (first | lia | omega)) (fun i x hx => ?_) ?_
  · refine ringGo_free (by (first | lia | omega)) (hwr _ (List.mem_of_getElem? hx)) ?_
    have hi : i < ws.length := (List.getElem?_eq_some_iff.mp hx).1
    rw [ringSt_len, List.length_take]
    (first | lia | omega)
  intro h1 Dt Tr vsD cD tg tk1 hIt hk1 hDt hTr hDt0 hTr0 hDTr
  generalize hst : ringSt ((n : Int) + 1) ws = st at *
  have F1 := Fr.ext F hk1
  have hTb1 : Tabs h1 := ⟨hTb.1.keep fun b o e => hk1 b o e, hTb.2.1.keep fun b o e => hk1 b o e, hTb.2.2.keep fun b o e => hk1 b o e⟩
  refine hideG ?_; intro XX kXX
  obtain ⟨t1, ht1, Nt1, hTp1⟩ := Tabs.pack hTb1 F1 W
  refine kXX ?_; clear kXX XX
  obtain ⟨tu, htu⟩ : ∃ tu, tu = ((Dt, listV vsD cD) :: tl) ++ t1 := ⟨_, rfl⟩
  have N1 : News g L h1 ((Tr, tupV [.ref Dt, .int st.2 tg] 0) :: (L + 6, oS) :: (L + 5, oO) :: (L + 4, oT) :: (L + 3, oW) :: (L + 2, oC) :: (L + 1, oR) :: tu) := by
    have Na := News.ext N hk1
    have hb := news_one F (h' := h1) hDt0 hDt _ (.head _)
    exact List.forall_mem_cons.mpr ⟨news_one F (h' := h1) hTr0 hTr _ (.head _), led_tail Na (htu ▸ news_app (List.forall_mem_cons.mpr ⟨hb, led_rest Na⟩) Nt1)⟩
  have hsub : ∀ q ∈ (Dt, listV vsD cD) :: tl, q ∈ tu := fun q hq => by rw [htu]; exact List.mem_append_left _ hq
  clear Nt1
  clear F N hk1 hDt hTr hDt0 hTr0 hTb hL
  walk_at "m_run7"
  (rename Fr _ _ _ _ => F2); (rename News _ _ _ _ => N2)
  refine comp_open (cl := [(Str.ofString "wishes", L + 3)]) (fun x y => ∃ u, y = .int (ws.count x : Nat) u) rfl (by decide) rfl (by decide) rfl ?_
  walk_at "m_run7"
  refine range1_rows F2 N2 ?_
  intro h3 tk3 tr1 tu1 tv1 rg3 F3 N3 _
  clear F2 N2
  have gW3 := N3 _ (.tail _ (.tail _ (.tail _ (.tail _ (.head _)))))
  have gDw3 := N3 _ (.tail _ (.tail _ (.tail _ (.tail _ (.tail _ (.tail _ (.tail _ (hsub _ (.tail _ hw)))))))))
  dsimp only at rg3 ⊢
  refine comp_range (n + 1) hA rg3 (by (first | lia | omega)) (by (first | lia | omega)) (by (first | lia | omega)) (by (first | lia | omega)) ?_ ?_
  · intro C' y u s₃ m₃ E' hy hC' hN hm hk'
    have gc := hk' _ _ gW3.1
    have gd := hk' _ _ gDw3.1
    clear F3 N3 gW3 gDw3 rg3
    walk_at "m_step"
    refine' ld_cell (c := L + 3) rfl ?ha dW ?_
    case ha => exact gc
    have hlw : s₃.heap.IsList Dw wv.toArray := ⟨_, gd, rfl, _, rfl⟩
    with_unfolding_all refine getMethod_list_of PySem.F.slot_list_count PySem.F.type_list_count hlw ⟨_, gd, rfl⟩ ?_
    walk_at "m_step"
    walk_at "m_step"
    refine' ld_comp ?hn ?hm ?_
    case hn => exact hN
    case hm => exact hm
    walk_at "m_step"
    refine count_list_ints hlw hIw ?_
    exact ⟨⟨_, rfl⟩, _, _, rfl, fun _ _ e => e⟩
  · intro D4 h4 tk4 ys4 c4 hD04 hD4 hF4 hk4
    have F4 := Fr.ext F3 hk4
    have N4 : News g L h4 ((D4, listV ys4 c4) :: (L + 6, oS) :: (L + 5, oO) :: (L + 4, oT) :: (L + 3, oW) :: (L + 2, oC) :: (L + 1, oR) :: tu) := List.forall_mem_cons.mpr ⟨news_one F3 hD04 hD4 _ (.head _), fun q hq => News.ext N3 hk4 q (.tail _ hq)⟩
    have hI4 := ints_of hF4
    clear F3 N3 gW3 gDw3 hk4 hD4 hD04 hF4 rg3
    walk_at "m_run7"
    rw [show (rangeKs 0 (n + 1)).map (fun x => ((ws.count x : Nat) : Int)) = cntR (n + 1) ws from rfl] at hI4
    have hdg := turn_digits (tn := 0) (wd := wd) hn.1 hwl (by (first | lia | omega)) hwd.1 (by (first | lia | omega)) hwr
    have hTb4 := hTp1 h4 F4.keep fun q hq => (N4 q (.tail _ (.tail _ (.tail _ (.tail _ (.tail _ (.tail _ (.tail _ (by rw [htu]; exact List.mem_append_right _ hq))))))))).1
    refine dig_spec (Law.cx (d := d + 40) (e := 10) W F4) (N4.isList (.head _)) hI4 (by rw [cntR_len]; (first | lia | omega)) (by (first | lia | omega)) hdg.2.2.2.2.2.1 hTb4.1 W.n62 ?_
    intro h5 tWh tk5 hk5 hT62
    have hk5' : ∀ b o, b ≠ 62 → b ≠ 55 → b ≠ 156 → h4.get? b = some o → h5.get? b = some o := fun b o e1 _ _ e => hk5 b o e1 e
    have hTb5 : Tabs h5 := ⟨hT62, hTb4.2.1.keep2 hTb4.1 (by decide) hk5, hTb4.2.2.keep2 hTb4.1 (by decide) hk5⟩
    have F5 := Fr.ext4 F4 W hk5'
    have N4b : News g L h4 ((L + 6, oS) :: (L + 5, oO) :: (L + 4, oT) :: (L + 3, oW) :: (L + 2, oC) :: (L + 1, oR) :: ((Dt, listV vsD cD) :: tl)) := led_tail (fun q hq => N4 q (.tail _ hq)) (fun q hq => N4 q (.tail _ (.tail _ (.tail _ (.tail _ (.tail _ (.tail _ (.tail _ (hsub q hq)))))))))
    have htl2 : ∀ q ∈ (Dt, listV vsD cD) :: tl, NT q.2 := List.forall_mem_cons.mpr ⟨NT.list _ _, htl⟩
    have N5 := led_keep N4b (cells_nt dS dO dT dW dC dR htl2) hTb4 hk5'
    refine hideG ?_; intro XX kXX
    obtain ⟨t5, ht5, Nt5, hTp5⟩ := Tabs.pack hTb5 F5 W
    refine kXX ?_; clear kXX XX
    obtain ⟨tx, htx⟩ : ∃ tx, tx = ((Dt, listV vsD cD) :: tl) ++ t5 := ⟨_, rfl⟩
    have N6 : News g L h5 ((L + 6, oS) :: (L + 5, oO) :: (L + 4, oT) :: (L + 3, oW) :: (L + 2, oC) :: (L + 1, oR) :: tx) := led_tail N5 (htx ▸ news_app (led_rest N5) Nt5)
    have hsubx : ∀ q ∈ (Dt, listV vsD cD) :: tl, q ∈ tx := fun q hq => by rw [htx]; exact List.mem_append_left _ hq
    clear F4 N4 N4b N5 hk5 hk5' Nt5 hTp1 hsub htu ht1 hdg hI4
    generalize hWH : dval wd (cntR (n + 1) ws) = WH at *
    walk_at "m_run7"
    (rename Fr _ _ _ _ => F7); (rename News _ _ _ _ => N7)
    refine range2_rows F7 N7 ?_
    intro h8 tk8 tr8 tu8 tv8 rg8 F8 N8 _
    clear F7 N7
    dsimp only at rg8 ⊢
    walk_at "m_run7"
    have hnk : (n : Int) - k = ((n - k : Nat) : Int) := by (first | lia | omega)
    refine lead_spec (rs := rangeKs ((n : Int) - k) k) (Law.cx (d := d + 40 + 1) (e := 9) W F8) (.inr ⟨_, _, _, _, _, rg8, (by rw [show ((n : Int) - ((n : Int) - k)).toNat = k by (first | lia | omega)]), (by (first | lia | omega)), (by (first | lia | omega))⟩) (by rw [rangeKs_length]; (first | lia | omega)) (fun r hr => by have := mem_rangeKs hr; (first | lia | omega)) ?_
    intro h9 ts tk9 hk9
    have F9 := Fr.ext F8 hk9
    have N9 := News.ext N8 hk9
    clear F8 N8 hk9 rg8
    walk_at "m_run7"
    refine wpAny_For ?_
    walk_at "m_run7"
    (rename Fr _ _ _ _ => F10); (rename News _ _ _ _ => N10)
    refine range1_rows F10 N10 ?_
    intro h11 tk11 tr11 tu11 tv11 rg11 F11 N11' _
    clear F10 N10
    dsimp only at rg11 ⊢
    have N11 : News g L h11 ((L + 6, oS) :: (L + 5, oO) :: (L + 4, oT) :: (L + 3, oW) :: (L + 2, oC) :: (L + 1, oR) :: tx) := N11'
    clear N11'
    refine hideG ?_; intro XX kXX
    obtain ⟨m2, F12, eSt, eTk, eSs, eWd, eWh, eG⟩ : ∃ m2 : Str → Option Value, Fr g L h11 m2 ∧ m2 (Str.ofString "street") = some (.int (n : Int) tst) ∧ m2 (Str.ofString "taken") = some (.ref Dt) ∧ m2 (Str.ofString "stairs") = some (.str (leadS (rangeKs ((n : Int) - k) k)) ts) ∧
        m2 (Str.ofString "width") = some (.int (wd : Int) tw) ∧ m2 (Str.ofString "whole") = some (.int WH tWh) ∧ m2 (Str.ofString "gone") = some (.int st.2 tg) := ⟨_, F11, mSt, rfl, rfl, mWd, rfl, rfl⟩
    refine kXX ?_; clear kXX XX
    clear F11
    refine for_rangeG (n + 1) (fun _ m' news' gs' => ∃ oS' oO' oT' vS' vO' vT' tb, news' = (L + 6, oS') :: (L + 5, oO') :: (L + 4, oT') :: (L + 3, oW) :: (L + 2, oC) :: (L + 1, oR) :: (((Dt, listV vsD cD) :: tl) ++ tb) ∧ oS'.data = .cell vS' ∧ oO'.data = .cell vO' ∧ oT'.data = .cell vT' ∧
        (∀ q ∈ tb, ∀ v, q.2.data ≠ .cell v) ∧ (∀ h' : Heap, (∀ b o, g.get? b = some o → h'.get? b = some o) → (∀ q ∈ tb, h'.get? q.1 = some q.2) → Tabs h') ∧ AllBare gs' ∧ ∀ y, y ∉ turnNames → m' y = m2 y)
      hA rg11 (by (first | lia | omega)) (by (first | lia | omega)) (by (first | lia | omega)) rfl F12 N11 ⟨oS, oO, oT, vS, vO, vT, t5, by rw [htx], dS, dO, dT, ht5, hTp5, hG, fun _ _ => rfl⟩ ?_ ?_
    · rintro I i v m₁ news₁ h tk' gs oI hi hJ10 hI1 hJ12 hoff Fi Ni hJ16
      refine hideG ?_; intro XX kXX
      obtain ⟨tv, rfl⟩ := hJ10
      obtain ⟨oS', oO', oT', vS', vO', vT', tb, rfl, dS', dO', dT', htb, hTpb, hGb, hmy⟩ := hJ12
      obtain ⟨zI1, zI2, zI3⟩ := hJ16
      refine kXX ?_; clear kXX XX
      have htl3 : ∀ q ∈ (Dt, listV vsD cD) :: tl, NT q.2 := List.forall_mem_cons.mpr ⟨NT.list _ _, htl⟩
      obtain ⟨tz, htz⟩ : ∃ tz, tz = ((Dt, listV vsD cD) :: tl) ++ tb := ⟨_, rfl⟩
      rw [← htz] at Ni hoff
      have hz0 : ∀ q ∈ tz, ∀ v, q.2.data ≠ .cell v := fun q hq => by
        rw [htz] at hq
        exact (List.mem_append.mp hq).elim (fun h => (htl3 q h).1) (htb q)
      have hTbi : Tabs h := hTpb h Fi.keep fun q hq => (Ni q (.tail _ (.tail _ (.tail _ (.tail _ (.tail _ (.tail _ (.tail _ (by rw [htz]; exact List.mem_append_right _ hq))))))))).1
      have off4 : ∀ q ∈ tz, q.1 ≠ L + 4 := off_cell (fun q hq => Ni q (.tail _ hq)) hz0 (.tail _ (.tail _ (.head _))) dT'
      have offI : @Ne Nat I (L + 4) := fun e => hoff _ (.tail _ (.tail _ (.head _))) e.symm
      clear F12 N11 rg11
      walk_at "m_runE"
      rename_i hq oT2 Fq Nq dT2
      rw [Int.zero_add] at dT2
      have hTbq : Tabs hq := hTpb hq Fq.keep fun q hq => (Nq q (.tail _ (.tail _ (.tail _ (.tail _ (.tail _ (.tail _ (.tail _ (by rw [htz]; exact List.mem_append_right _ hq))))))))).1
      have Nq2 : News g L hq ((L + 6, oS') :: (L + 5, oO') :: (L + 4, oT2) :: (L + 3, oW) :: (L + 2, oC) :: (L + 1, oR) :: ((I, oI) :: (Dt, listV vsD cD) :: tl)) := by
        refine led_tail (fun q hq => Nq q (.tail _ hq)) (List.forall_mem_cons.mpr ⟨Nq _ (.head _), fun q hq => Nq q (.tail _ (.tail _ (.tail _ (.tail _ (.tail _ (.tail _ (.tail _ ?_))))))) ⟩)
        rw [htz]
        exact List.mem_append_left _ hq
      have hoff2 : ∀ q ∈ (Dt, listV vsD cD) :: tl, q.1 ≠ I := fun q hq => hoff q (.tail _ (.tail _ (.tail _ (.tail _ (.tail _ (.tail _ (by rw [htz]; exact List.mem_append_left _ hq)))))))
      have offc : (L + 6 ≠ I ∧ L + 5 ≠ I ∧ L + 4 ≠ I) ∧ L + 3 ≠ I ∧ L + 2 ≠ I ∧ L + 1 ≠ I := ⟨⟨hoff _ (.head _), hoff _ (.tail _ (.head _)), hoff _ (.tail _ (.tail _ (.head _)))⟩, hoff _ (.tail _ (.tail _ (.tail _ (.head _)))), hoff _ (.tail _ (.tail _ (.tail _ (.tail _ (.head _))))), hoff _ (.tail _ (.tail _ (.tail _ (.tail _ (.tail _ (.head _)))))) ⟩
      clear Nq Ni Fi off4 offI hTbi hTpb htb hz0 hoff
      subst hst hWH
      refine turn_all (s := { s with heap := hq, gens := gs, toks := _ }) (tn := i) (gone := 0) ho rfl W Fq Nq2 (List.forall_mem_cons.mpr ⟨NT.cls zI1 zI2, htl3⟩) hTbq hGb dS' dO' dT2 dW dC dR (.tail _ (.tail _ hw)) hIw (.tail _ (.head _)) hIt hn hk hwd hwl hwr hi
        ((hmy _ (by decide)).trans eSt) ((hmy _ (by decide)).trans eTk) ((hmy _ (by decide)).trans eSs) ((hmy _ (by decide)).trans eWd) ((hmy _ (by decide)).trans eWh) ((hmy _ (by decide)).trans eG) ?_
      intro h9 tk9 gs9 m9 oS9 oO9 vS9 vO9 F9 N9 dS9 dO9 hTb9 hG9 hmy9
      have gI := (led_rest N9 _ (.head _)).1
      refine hideG ?_; intro XX kXX
      obtain ⟨tc, htc, Ntc, hTc⟩ := Tabs.packI hTb9 F9 W gI zI1 zI3
      refine kXX ?_; clear kXX XX
      refine ⟨h9, tk9, gs9, m9, (L + 6, oS9) :: (L + 5, oO9) :: (L + 4, oT2) :: (L + 3, oW) :: (L + 2, oC) :: (L + 1, oR) :: (((Dt, listV vsD cD) :: tl) ++ tc), rfl, F9, ?_, ?_, ⟨oS9, oO9, oT2, vS9, vO9, _, tc, rfl, dS9, dO9, dT2, fun q hq => (htc q hq).1, hTc, hG9, fun y hy => (hmy9 y hy).trans (hmy y hy)⟩⟩
      · exact List.forall_mem_cons.mpr ⟨led_rest N9 _ (.head _), led_tail N9 (news_app (fun q hq => led_rest N9 q (.tail _ hq)) Ntc)⟩
      · intro q hq
        simp only [List.mem_cons, List.mem_append] at hq
        rcases hq with h | h | h | h | h | h | h | h
        · rw [h]; exact offc.1.1
        · rw [h]; exact offc.1.2.1
        · rw [h]; exact offc.1.2.2
        · rw [h]; exact offc.2.1
        · rw [h]; exact offc.2.2.1
        · rw [h]; exact offc.2.2.2
        · exact hoff2 q (List.mem_cons.mpr h)
        · exact (htc q h).2
    · rintro m₁ news₁ h tk' gs hJ5 Fi Ni
      refine hideG ?_; intro XX kXX
      obtain ⟨oS', oO', oT', vS', vO', vT', tb, rfl, dS', dO', dT', htb, hTpb, hGb, hmy⟩ := hJ5
      refine kXX ?_; clear kXX XX
      try dsimp only
      have hTbz : Tabs h := hTpb h Fi.keep fun q hq => (led_rest Ni q (List.mem_append_right _ hq)).1
      walk_at "m_run7"
      exact next _ _ _ _ Fi hTbz hGb
end
end
section
local macro_rules | `(tactic| walk_at "m_step") => `(tactic| first | (k_unfold; (try dsimp only)) | walk1 | (dsimp only; walk1))
local macro_rules | `(tactic| walk_at "m_runs") => `(tactic| repeat' ((fail_if_success (with_reducible show wpAny _ _ (subscriptTail _ _ _ _) _ _ _)); walk_at "m_stop"; walk_at "m_step"))
theorem ints_of_mod {R : Int} : ∀ {us : List Int} {ys : List Value}, Paired (fun x y => ∃ t, y = .int (x % R) t) us ys → IntsAre ys (us.map fun x => x % R)
  | _, _, .nil => .nil
  | _, _, .cons ⟨t, e⟩ r => by subst e; exact .cons _ _ (ints_of_mod r)
local macro_rules | `(tactic| k_all) => `(tactic| with_reducible assumption)
theorem law_spec {l : Addr} {vs : List Value} {ns : List Int} (C : Cx (d + 60) w p loose mean mg mb A h₀ s.heap) (hl : s.heap.IsList l vs.toArray) (hI : IntsAre vs ns) (hlen : ns.length ≤ 63)
    (h62 : s.heap.get? 62 = some (tabObj #[])) (h55 : s.heap.get? 55 = some (tabObj #[])) (h156 : s.heap.get? 156 = some (tabObj #[])) (hn62 : h₀.get? 62 = none) (hn55 : h₀.get? 55 = none) (hn156 : h₀.get? 156 = none) (hG : AllBare s.gens)
    (hret : ∀ h' tk' gs', AllBare gs' → (∀ b o, b ≠ 62 → b ≠ 55 → b ≠ 156 → s.heap.get? b = some o → h'.get? b = some o) → Tabs h' → Q (.bool true) { s with heap := h', gens := gs', toks := tk' }) :
    wpAny (MM w) A (call (.ref 185) [.ref l]) Q E s := by
  walk_at "m_fill"
  refine' enterC (binds := [(Str.ofString "script", .ref l)]) C ?ho ?hcd ?hb ?hl ?hnd ?_ ?c2 ?c3 ?c4
  case ho => k_is
  case hcd => k_is
  case hb => exact fun _ => rfl
  case hl => rfl
  case hnd => decide +kernel
  case c2 => rfl
  case c3 => rfl
  case c4 => rfl
  intro L h₁ tk cells F1 N1 Y
  k_cells Y
  rename_i oS oO oT oW oC oR dS dO dT dW dC dR
  have hA := C.hh
  have F := hide_fr (as := [62, 55, 156]) F1
  have hk := hide_keep (s := s) (as := [62, 55, 156]) C.k (by
    intro a ha
    rcases List.mem_cons.mp ha with rfl | ha
    · exact hn62
    rcases List.mem_cons.mp ha with rfl | ha
    · exact hn55
    · rw [List.mem_singleton.mp ha]; exact hn156)
  have l62 : (62 : Nat) < L := Nat.lt_of_lt_of_le (Heap.lt_size h62) F1.above
  have l55 : (55 : Nat) < L := Nat.lt_of_lt_of_le (Heap.lt_size h55) F1.above
  have l156 : (156 : Nat) < L := Nat.lt_of_lt_of_le (Heap.lt_size h156) F1.above
  have N0 := news_hide (as := [62, 55, 156]) F1 N1
  have hl2 : (hideAll s.heap [62, 55, 156]).IsList l vs.toArray := by
    obtain ⟨o, e, hc, r⟩ := hl
    refine ⟨o, hideAll_get _ e (fun q => ?_), hc, r⟩
    rcases List.mem_cons.mp q with q | q
    · rw [q, h62] at e; cases e; cases hc
    rcases List.mem_cons.mp q with q | q
    · rw [q, h55] at e; cases e; cases hc
    · rw [List.mem_singleton.mp q, h156] at e; cases e; cases hc
  have X := C.X.keeps hk
  have T := C.T.keeps hk
  have g62 := hide_new F1 h62 (as := [62, 55, 156]) (.head _)
  have g55 := hide_new F1 h55 (as := [62, 55, 156]) (.tail _ (.head _))
  have g156 := hide_new F1 h156 (as := [62, 55, 156]) (.tail _ (.tail _ (.head _)))
  obtain ⟨tb, htb⟩ : ∃ tb : List (Addr × Obj), tb = [(62, tabObj #[]), (55, tabObj #[]), (156, tabObj #[])] := ⟨_, rfl⟩
  have hoffs : ∀ q ∈ tb, @LT.lt Nat _ q.1 L := by
    rw [htb]
    exact List.forall_mem_cons.mpr ⟨l62, List.forall_mem_cons.mpr ⟨l55, List.forall_mem_singleton.mpr l156⟩⟩
  have offT1 : ∀ q ∈ tb, q.1 ≠ L + 1 := fun q hq => Nat.ne_of_lt (Nat.lt_of_lt_of_le (hoffs q hq) (Nat.le_add_right _ _))
  have offT2 : ∀ q ∈ tb, q.1 ≠ L + 2 := fun q hq => Nat.ne_of_lt (Nat.lt_of_lt_of_le (hoffs q hq) (Nat.le_add_right _ _))
  have offT3 : ∀ q ∈ tb, q.1 ≠ L + 3 := fun q hq => Nat.ne_of_lt (Nat.lt_of_lt_of_le (hoffs q hq) (Nat.le_add_right _ _))
  have Nb : News (hideAll s.heap [62, 55, 156]) L h₁ tb := by
    rw [htb]
    exact List.forall_mem_cons.mpr ⟨g62, List.forall_mem_cons.mpr ⟨g55, List.forall_mem_singleton.mpr g156⟩⟩
  have N : News (hideAll s.heap [62, 55, 156]) L h₁ ((L + 6, oS) :: (L + 5, oO) :: (L + 4, oT) :: (L + 3, oW) :: (L + 2, oC) :: (L + 1, oR) :: tb) := led_tail (tl := []) N0 Nb
  clear F1 N1 N0 Nb
  walk_at "m_run"
  rename_i D0 ws0 h0 F2 N2 hI0 hC0 hL0 l0
  have hws0 := hI0.length
  refine kup_listOf F2 N2 (.head _) (zs := ws0) (by simp) ?_ (by rw [show sizeLine = 16777216 from rfl]; simp; (first | lia | omega))
  intro D1 c1 h2 F3 N3 lD1
  clear F2 N2
  walk_at "m_runs"
  rename_i D2 h3 F4 N4 l2
  walk_at "m_step"
  walk_at "m_runs"
  rename_i D3 ws3 h4 F5 N5 hI3 hC3 hL3 l3
  refine kba_turn (value' := PySem.Expr.Name (Str.ofString "_") ⟨0, 0, 0, 0⟩) (fun _ => rfl) ?_
  refine' kmk_slice_ints (ns := [0, 0, 4, 3, 1, 3, 0, 3, 4]) F5 N5 (N5.isList (.tail _ (.head _))) (.int _ _) .none ?i (kmk_from ?i (Int.natCast_nonneg _)) rfl ?_ ?s ?t ?z
  case i => repeat' (first | exact .nil | refine .cons _ _ ?_)
  case s => with_unfolding_all rfl
  case t => exact fun _ => rfl
  case z => rw [show sizeLine = 16777216 from rfl]; exact Nat.le_of_ble_eq_true rfl
  intro D4 ws4 h5 F6 N6 l4 hI4 _ hL4
  clear F5 N5
  refine kmk_add_ints F6 N6 (N6.isList (.tail _ (.tail _ (.tail _ (.head _))))) (N6.isList (.head _)) hI0 hI4 ?_ ?_
  rotate_left
  · rw [show sizeLine = 16777216 from rfl]
    refine Nat.le_trans (Nat.add_le_add hL0 hL4) ?_
    show ns.length + 9 ≤ _
    (first | lia | omega)
  intro D5 cv h6 F7 N7' l5 hIc
  have l5a := l5 _ (.tail _ (.tail _ (.tail _ (.tail _ (.tail _ (.head _))))))
  have l5' : @LT.lt Nat _ (L + 6) D5 := l5a
  have N7 : News (hideAll s.heap [62, 55, 156]) L h6 ((D5, listV cv 0) :: (L + 6, oS) :: (L + 5, oO) :: (L + 4, oT) :: (L + 3, oW) :: (L + 2, oC) :: (L + 1, oR) :: tb) := fun p hp => N7' p (by
    rcases List.mem_cons.mp hp with h | hp
    · exact h ▸ .head _
    · exact .tail _ (.tail _ (.tail _ (.tail _ (.tail _ (.tail _ hp))))))
  clear N7' N6 l5 l5a l4 l3 l2 lD1 l0 hI3 hC3 hL3 hI0 hC0 hL0 hws0 F6
  have hcl : (List.take 9 ns ++ List.drop ((((List.take 9 ns).length : Nat) : Int)).toNat [0, 0, 4, 3, 1, 3, 0, 3, 4]).length = 9 := by
    rw [Int.toNat_natCast, List.length_append, List.length_drop, List.length_take]
    show min 9 ns.length + (9 - min 9 ns.length) = 9
    (first | lia | omega)
  generalize (List.take 9 ns ++ List.drop ((((List.take 9 ns).length : Nat) : Int)).toNat [0, 0, 4, 3, 1, 3, 0, 3, 4]) = cs at *
  have hcv := hIc.length
  walk_at "m_run"
  rename_i h7 tk7 t7 h8 oR' dR' h9 t9 h10 oC' dC' t10 h11 F8 N8
  clear hI4 hL4 dR dC D0 D1 D2 D3 D4 ws0 ws3 ws4
  have b0 : 0 ≤ (cs.getD (Int.toNat 0) 0).fmod 3 ∧ (cs.getD (Int.toNat 0) 0).fmod 3 < 3 := ⟨Int.fmod_nonneg_of_pos _ (by (first | lia | omega)), Int.fmod_lt_of_pos _ (by (first | lia | omega))⟩
  have b1 : 0 ≤ (cs.getD (Int.toNat 1) 0).fmod 3 ∧ (cs.getD (Int.toNat 1) 0).fmod 3 < 3 := ⟨Int.fmod_nonneg_of_pos _ (by (first | lia | omega)), Int.fmod_lt_of_pos _ (by (first | lia | omega))⟩
  have b2 : 0 ≤ (cs.getD (Int.toNat 2) 0).fmod 900 ∧ (cs.getD (Int.toNat 2) 0).fmod 900 < 900 := ⟨Int.fmod_nonneg_of_pos _ (by (first | lia | omega)), Int.fmod_lt_of_pos _ (by (first | lia | omega))⟩
  generalize (cs.getD (Int.toNat 0) 0).fmod 3 = r0 at *
  generalize (cs.getD (Int.toNat 1) 0).fmod 3 = r1 at *
  generalize (cs.getD (Int.toNat 2) 0).fmod 900 = r2 at *
  obtain ⟨n, hn⟩ : ∃ n : Nat, 5 + r0 = (n : Int) + 1 := ⟨(4 + r0).toNat, by (first | lia | omega)⟩
  have hn46 : 4 ≤ n ∧ n ≤ 6 := by (first | lia | omega)
  rw [hn, Int.add_sub_cancel] at F8 dC'
  rw [hn] at dR'
  obtain ⟨k, hkc⟩ : ∃ k : Nat, (n : Int) - r1 = k := ⟨((n : Int) - r1).toNat, by (first | lia | omega)⟩
  obtain ⟨wd, hwd⟩ : ∃ wd : Nat, 4 + r2 = (wd : Int) := ⟨(4 + r2).toNat, by (first | lia | omega)⟩
  rw [hkc] at dC'
  rw [hwd] at F8
  have hk26 : 2 ≤ k ∧ k ≤ n := by (first | lia | omega)
  have hwd4 : 4 ≤ wd ∧ wd < 904 := by (first | lia | omega)
  clear hn hkc hwd b0 b1 b2
  obtain ⟨tR, dR⟩ : ∃ t, oR'.data = .cell (some (.int ((n : Int) + 1) t)) := ⟨_, dR'⟩
  obtain ⟨tC, dC⟩ : ∃ t, oC'.data = .cell (some (.int (k : Int) t)) := ⟨_, dC'⟩
  refine hideG ?_; intro XX kXX
  obtain ⟨m1, tk11, F9, ⟨tW, mW⟩, ⟨tSt, mSt⟩, mCe⟩ : ∃ (m1 : Str → Option Value) (tk11 : Nat), Fr (hideAll s.heap [62, 55, 156]) L h11 m1 ∧ (∃ t, m1 (Str.ofString "width") = some (.int (wd : Int) t)) ∧ (∃ t, m1 (Str.ofString "street") = some (.int (n : Int) t)) ∧ m1 (Str.ofString "cells") = some (.ref D5) :=
    ⟨_, 0, F8, ⟨_, rfl⟩, ⟨_, rfl⟩, rfl⟩
  refine kXX ?_; clear kXX XX
  have N9 : News (hideAll s.heap [62, 55, 156]) L h11 ((D5, listV cv 0) :: (L + 6, oS) :: (L + 5, oO) :: (L + 4, oT) :: (L + 3, oW) :: (L + 2, oC') :: (L + 1, oR') :: tb) := N8
  clear F8 N8 dR' dC'
  refine comp_open (cl := [(Str.ofString "ring", L + 1)]) (fun x y => ∃ t, y = .int (x % ((n : Int) + 1)) t) rfl (by decide) rfl (by decide) rfl ?_
  walk_at "m_run"
  rename_i D6 ws6 h12 F10 N10 hI6 hC6 hL6 l6
  have hlen6 : (List.take (min (3 + (k : Int)).toNat cs.length - 3) (List.drop 3 cs)).length = k := by rw [hC6, hcl]; (first | lia | omega)
  generalize List.take (min (3 + (k : Int)).toNat cs.length - 3) (List.drop 3 cs) = us at *
  clear hC6 hL6
  have gR := N10 (L + 1, oR') (.tail _ (.tail _ (.tail _ (.tail _ (.tail _ (.tail _ (.tail _ (.head _))))))))
  refine comp_list hA (N10.isList (.head _)) hI6 (by (first | lia | omega)) ?_ ?_
  · intro C' x t s₃ m₃ E' hx hC' hN hm hk'
    have gR3 := hk' _ _ gR.1
    walk_at "m_step"
    refine ld_comp hN hm ?_
    refine ld_cell (c := L + 1) rfl gR3 dR ?_
    walk_at "m_step"
    exact ⟨⟨_, congrArg (fun z => Value.int z _) (Int.fmod_eq_emod_of_nonneg _ (by (first | lia | omega)))⟩, Keeps.tok⟩
  · intro D h13 tk13 ys c hD hD' hF hk13
    obtain ⟨F11, N11, -⟩ : Fr (hideAll s.heap [62, 55, 156]) L h13 m1 ∧ News (hideAll s.heap [62, 55, 156]) L h13 ((D, listV ys c) :: (L + 6, oS) :: (L + 5, oO) :: (L + 4, oT) :: (L + 3, oW) :: (L + 2, oC') :: (L + 1, oR') :: tb) ∧ True := by
      have N11 := News.ext N10 hk13
      have hDn := News.got F10 N10 hk13 hD hD'
      refine ⟨Fr.ext F10 hk13, fun p hp => ?_, trivial⟩
      rcases List.mem_cons.mp hp with h | hp
      · exact h ▸ hDn _ (.head _)
      · exact N11 p (.tail _ (.tail _ hp))
    have nD6 : @Ne Nat D (L + 6) := neFresh hD (N10 _ (.tail _ (.tail _ (.head _)))).1
    have nD5 : @Ne Nat D (L + 5) := neFresh hD (N10 _ (.tail _ (.tail _ (.tail _ (.head _))))).1
    have nD4 : @Ne Nat D (L + 4) := neFresh hD (N10 _ (.tail _ (.tail _ (.tail _ (.tail _ (.head _)))))).1
    have nD3 : @Ne Nat D (L + 3) := neFresh hD (N10 _ (.tail _ (.tail _ (.tail _ (.tail _ (.tail _ (.head _))))))).1
    have nD2 : @Ne Nat D (L + 2) := neFresh hD (N10 _ (.tail _ (.tail _ (.tail _ (.tail _ (.tail _ (.tail _ (.head _)))))))).1
    have nD1 : @Ne Nat D (L + 1) := neFresh hD (N10 _ (.tail _ (.tail _ (.tail _ (.tail _ (.tail _ (.tail _ (.tail _ (.head _))))))))).1
    obtain ⟨ws, hws⟩ : ∃ ws : List Int, ws = us.map fun x => x % ((n : Int) + 1) := ⟨_, rfl⟩
    have hIw : IntsAre ys ws := by rw [hws]; exact ints_of_mod hF
    have hwl : ws.length = k := by rw [hws, List.length_map, hlen6]
    have hwr : ∀ x ∈ ws, 0 ≤ x ∧ x < (n : Int) + 1 := by
      intro x hx
      rw [hws] at hx
      obtain ⟨y, _, rfl⟩ := List.mem_map.mp hx
      exact ⟨Int.emod_nonneg _ (by (first | lia | omega)), Int.emod_lt_of_pos _ (by (first | lia | omega))⟩
    walk_at "m_step"
    rename_i h14 oW' F14 N14 dW'
    have hTb : Tabs h14 := by
      have q1 := (N14 (62, tabObj #[]) (.tail _ (.tail _ (.tail _ (.tail _ (.tail _ (.tail _ (.tail _ (htb ▸ .head _)))))))) ).1
      have q2 := (N14 (55, tabObj #[]) (.tail _ (.tail _ (.tail _ (.tail _ (.tail _ (.tail _ (.tail _ (htb ▸ .tail _ (.head _))))))))) ).1
      have q3 := (N14 (156, tabObj #[]) (.tail _ (.tail _ (.tail _ (.tail _ (.tail _ (.tail _ (.tail _ (htb ▸ .tail _ (.tail _ (.head _)))))))))) ).1
      exact ⟨⟨_, q1, trivial, .inl rfl⟩, ⟨_, q2, trivial, .inl rfl⟩, ⟨_, q3, trivial, .inl rfl⟩⟩
    have N14b : News (hideAll s.heap [62, 55, 156]) L h14 ((L + 6, oS) :: (L + 5, oO) :: (L + 4, oT) :: (L + 3, oW') :: (L + 2, oC') :: (L + 1, oR') :: tb) := fun q hq => N14 q (.tail _ hq)
    have N15 := led_tail (tl' := [(D, listV ys c)]) N14b (List.forall_mem_singleton.mpr (N14 _ (.head _)))
    clear N14b
    clear N14
    refine' stage2 (d := d) (n := n) (k := k) (wd := wd) ?ho ?hr ?W F14 N15 ?htl hTb hG dS dO dT dW' dC dR (.head _) hIw hn46 hk26 hwd4 hwl hwr mSt mW ?_
    case ho => k_is
    case hr => rfl
    case W =>
      exact ⟨X, T, by have := C.hd; show A.depth + 1 + (d + 50) < _; (first | lia | omega), by have := C.hu; show A.units + 3 + 10 * (d + 50) < _; (first | lia | omega), by obtain ⟨l, e⟩ := C.fr; exact ⟨_ :: l, by show A.frames.map _ = _; rw [e]; rfl⟩, C.hh, C.c1.keeps hk, C.c2.keeps hk, C.c3.keeps hk, hideAll_none _ (.head _), hideAll_none _ (.tail _ (.head _)), hideAll_none _ (.tail _ (.tail _ (.head _))), l62, l55, l156⟩
    case htl => exact List.forall_mem_singleton.mpr (NT.list _ _)
    intro h' tk' gs' m' F' hTb' hG'
    exact hret h' tk' gs' hG' (fun b o e1 e2 e3 e => F'.keep b o (hideAll_get _ e (by
      intro q
      rcases List.mem_cons.mp q with q | q
      · exact e1 q
      rcases List.mem_cons.mp q with q | q
      · exact e2 q
      · exact e3 (List.mem_singleton.mp q)))) hTb'
end
section
theorem fin_post {cw : ClaimW} {cl : Str → Option Addr} {mean : ExcName → Option Value} {args : List WData} {tabs : List (Addr × Addr)} {s₁ s' : Shared} (hT : TabsAt tabs s₁.heap)
    (hk : ∀ b o, b ∉ tabs.map (·.2) → s₁.heap.get? b = some o → s'.heap.get? b = some o) (hgr : ∀ q ∈ tabs, ∃ ps, s'.heap.get? q.2 = some (tabObj ps)) (hos : s'.os = s₁.os) (hG : AllBare s'.gens)
    (hn : ∀ cls, cw.raises args cls = false) (hp : cw.post args (.bool true) args = true) : GoodWG cw cl mean args s₁ (.ok (.ret (.bool true))) s' := by
  have old : ∀ b o, b ∈ tabs.map (·.2) → s₁.heap.get? b = some o → ∃ q ∈ tabs, b = q.2 ∧ o = tabObj #[] := fun b o hb e => by
    obtain ⟨q, hq, rfl⟩ := List.mem_map.mp hb
    have e2 := (hT q hq).2
    rw [e] at e2
    exact ⟨q, hq, rfl, Option.some.inj e2⟩
  refine ⟨.inl ⟨_, _, [], rfl, hn, .bool _, hp, fun _ => ⟨.nil, fun _ h => by cases h⟩⟩, ⟨fun b o e => ?_, fun b o e => ?_⟩, hos, hG⟩
  · by_cases hb : b ∈ tabs.map (·.2)
    · obtain ⟨q, hq, rfl, rfl⟩ := old b o hb e
      obtain ⟨ps, hP⟩ := hgr q hq
      exact .inr (.inl ⟨((hT q hq).1.tab (hT q hq).2).isCodeTable, rfl, #[], ps, rfl, by rw [Array.empty_append]; exact hP⟩)
    · exact .inl (hk b o hb e)
  · by_cases hb : b ∈ tabs.map (·.2)
    · obtain ⟨q, hq, rfl, _⟩ := old b o hb e
      obtain ⟨ps, hP⟩ := hgr q hq
      exact ⟨_, hP⟩
    · exact ⟨o, hk b o hb e⟩
abbrev tabsL : List (Addr × Addr) := [(66, 62), (59, 55), (160, 156)]
theorem tabsL_at {K : Frag} {h : Heap} (X : K.In h) (e1 : codeHdIn K 66 62 = true) (e2 : codeHdIn K 59 55 = true) (e3 : codeHdIn K 160 156 = true) (hT : ∀ P ∈ ([62, 55, 156] : List Addr), h.get? P = some (tabObj #[])) : TabsAt tabsL h :=
  List.forall_mem_cons.mpr ⟨⟨codeHd_of_K X e1, hT _ (.head _)⟩, List.forall_mem_cons.mpr ⟨⟨codeHd_of_K X e2, hT _ (.tail _ (.head _))⟩, List.forall_mem_singleton.mpr ⟨codeHd_of_K X e3, hT _ (.tail _ (.tail _ (.head _)))⟩⟩⟩
theorem law_end {s₁ : Shared} {l : Addr} {vs : List Value} {ns : List Int} {cw : ClaimW} {cl : Str → Option Addr} {mean' : ExcName → Option Value} {args : List WData} (KX : (Mine.kf.heap_1 w.params).In s₁.heap) (T : Top p loose mean mg mb s₁.heap) (hT8 : ∀ P ∈ ([62, 55, 156] : List Addr), s₁.heap.get? P = some (tabObj #[]))
    (hl : s₁.heap.IsList l vs.toArray) (hI : IntsAre vs ns) (hlen : ns.length ≤ 63) (hg : s₁.gens = #[]) (hn : ∀ cls, cw.raises args cls = false) (hp : cw.post args (.bool true) args = true) :
    wpAny (MM w) callerA (call (.ref 185) [.ref l]) (fun v s' => GoodWG cw cl mean' args s₁ (.ok (.ret v)) s') (fun e s' => GoodWG cw cl mean' args s₁ (.error e) s') s₁ := by
  have hT : TabsAt tabsL s₁.heap := tabsL_at KX (by kernel_rfl) (by kernel_rfl) (by kernel_rfl) hT8
  obtain ⟨c1, c2, c3, _⟩ := ghost_code hT
  have n0 : ∀ a ∈ ([62, 55, 156] : List Addr), (ghostOf s₁.heap tabsL).get? a = none := fun a ha => hideAll_none _ ha
  refine law_spec (d := 0) (h₀ := ghostOf s₁.heap tabsL) ⟨ghost_K hT KX (by kernel_rfl), ghost_top hT T, fun b o e => of_hideAll _ e, Nat.le_of_eq (hideAll_size _ _), by decide, by decide, ⟨_, rfl⟩, rfl, c1, c2, c3⟩ hl hI hlen
    (hT8 _ (.head _)) (hT8 _ (.tail _ (.head _))) (hT8 _ (.tail _ (.tail _ (.head _)))) (n0 _ (.head _)) (n0 _ (.tail _ (.head _))) (n0 _ (.tail _ (.tail _ (.head _)))) (.of_eq hg) ?_
  intro h' tk' gs' hG' hk' hTb
  refine fin_post hT (fun b o hb e => hk' b o (fun q => hb (q ▸ .head _)) (fun q => hb (q ▸ .tail _ (.head _))) (fun q => hb (q ▸ .tail _ (.tail _ (.head _)))) e) ?_ rfl hG' hn hp
  exact List.forall_mem_cons.mpr ⟨⟨_, hTb.1.choose_spec.1⟩, List.forall_mem_cons.mpr ⟨⟨_, hTb.2.1.choose_spec.1⟩, List.forall_mem_singleton.mpr ⟨_, hTb.2.2.choose_spec.1⟩⟩⟩
end
end Mine
theorem PySem.Challenge.cw_sw0081_01_holds : PySem.Challenge.rw_sw0081_01.Holds := by
  refine Mine.hd ?_
  k_fill
  intro w s₀ s₁ mg mb G Y fa o pm cd doc dV kV ho hd hcd hD hmg hg args vals as hpre hlay hrd hwl hlo
  have KX := km_in_of Y
  have hT8 := km_tabs_of Y
  refine Ground.open G ?_
  intro T B D TE TW
  have hfa := mg_of (n := Str.ofString "law") (v := .ref 185) KX T.g (by kernel_rfl)
  have hfa2 := hmg.symm.trans hfa
  cases hfa2
  clear hmg hfa ho hd hcd hD B D TE TW Y
  wrow_args hpre hlay hrd hwl hlo
  rename_i hL _ _ _ hI _ hlen _
  refine Mine.law_end KX T hT8 hL hI ?_ hg ?_ ?_
  · (first | lia | omega)
  · exact raisesW_false (by wrow_none_raised)
  · exact postW_of (by wrow_shape) (by wtm_val) (by w_fin)
