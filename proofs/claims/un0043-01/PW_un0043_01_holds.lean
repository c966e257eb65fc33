import PyProof.Rows.All
import Wide.All
import OpenK.AllK
import Wide.FinOn
import PySem.Challenge.RW_un0043_01
set_option Elab.async false
set_option maxRecDepth 100000
set_option maxHeartbeats 8000000
set_option linter.all false
open PySem PySem.W PySem.Calls PyProof.Rows PySem.Spec
namespace Mine
/-- the statements of the text that the walk looks at -/
def vQ : PySem.Program := PySem.W.view PySem.Challenge.rw_un0043_01.row.toRowW.prog [0, 1, 4, 5, 6, 7, 9, 10, 12, 13, 14, 16, 17, 18, 19, 20, 21]
theorem said : PySem.Challenge.rw_un0043_01.wellSaid = true := by
  rw [PySem.W.Fast.te9446332074065402090]
  kernel_rfl
end Mine
local macro_rules | `(tactic| o_law) => `(tactic| refine PySem.W.holds_law Mine.said fun said => ?_)
local macro_rules | `(tactic| o_head ($f:ident $k $a $e $ts)) => do
  let hw := Lean.mkIdent `hw
  let hc := Lean.mkIdent `hc
  let H ← `(PySem.W.kmHook $k $a $e ($ts ++ [123]))
  `(tactic| refine PySem.W.holds_open (q := Mine.vQ) (loose := [PySem.Str.ofString "compute_powers", PySem.Str.ofString "_Accumulator", PySem.Str.ofString "_name_disallowed_re", PySem.Str.ofString "_value_disallowed_re"]) (Xt := fun s => PySem.W.xlAt Mine.vQ [] s && PySem.W.recOk (PySem.W.RowW.records PySem.Challenge.rw_un0043_01.row.toRowW) s) (XP := PySem.W.XL Mine.vQ []) (Yf := PySem.W.Hook.obs $H) (Ya := PySem.W.Hook.val $H) (YP := PySem.W.Hook.says $H) (N := 3730) (by intro w; unfold PySem.W.openEnds PySem.W.fencedOpening PySem.W.topFrom; rw [PySem.W.Fast.te14364793385576792824, PySem.W.Fast.te14082659384304107361, PySem.W.Fast.te10274390034422433532, PySem.W.Fast.te1435165496053646825, PySem.W.Fast.te4187177175401517315]; kernel_rfl) (PySem.W.Hook.of $H) (PySem.W.Hook.keeps $H) (fun s e => PySem.W.xl_of s (Bool.and_eq_true_iff.mp e).1) PySem.W.XL.keeps (by rfl) (by rfl) (by rfl) (fun s e => PySem.W.recFacts_of (Bool.and_eq_true_iff.mp e).2) (by rfl) (by assumption) (by decide +kernel) ⟨rfl, rfl, rfl, rfl, rfl, by decide +kernel⟩ ?$hw ?$hc)
namespace Mine
open_top hd for PySem.Challenge.rw_un0043_01
end Mine
namespace Mine

abbrev theProg : Program := PySem.Challenge.rw_un0043_01.row.toRowW.prog

/-- room for calls -/
structure Room (A : Around) (n : Nat) : Prop where
  hh : A.handled = none
  hd : A.depth + n < recursionLimit
  hu : A.units + 10 * n < cLine

theorem Room.deeper {A : Around} {n : Nat} (h : Room A (n + 1)) (env : Env) : Room (A.deeper env) n :=
  ⟨h.hh, by have := h.hd; show A.depth + 1 + n < _; omega, by have := h.hu; show A.units + 3 + 10 * n < _; omega⟩
theorem Room.mono {A : Around} {n m : Nat} (h : Room A n) (hm : m ≤ n) : Room A m :=
  ⟨h.hh, by have := h.hd; omega, by have := h.hu; omega⟩
theorem Room.depth {A : Around} {n : Nat} (h : Room A n) : A.depth < recursionLimit := by have := h.hd; omega

/-- what stands of a heap away from S -/
def Keep (S : List Addr) (h h' : Heap) : Prop := ∀ b o, b ∉ S → h.get? b = some o → h'.get? b = some o

section
variable {prog : Program} {w : World} {A : Around} {s : Shared} {K : Frag}
  {R : Result → Shared → Prop} {name qual : Str} {params : Arguments} {body : List Stmt} {scope : Scope} {dV kV doc pm cdv ct oc : Value} {an od : Option Addr} {osl : Array (Option Value)} {f : Addr} {args : Args} {binds : List (Str × Value)}
  {p : Program} {loose : List Str} {mean : ExcName → Option Value} {mg mb : Str → Option Value}

theorem Top.of_stays {h h' : Heap} (T : Top p loose mean mg mb h) (st : h.StaysIn h') : Top p loose mean mg mb h' := T.keeps st

theorem News.app {h₀ h : Heap} {L : Addr} {a b : List (Addr × Obj)} (x : News h₀ L h a) (y : News h₀ L h b) : News h₀ L h (a ++ b) := fun p hp => (List.mem_append.mp hp).elim (x p) (y p)

/-- enter a plain def of the top: muts are the objects that the body may turn -/
theorem enterM {B : Heap} {n : Nat} (muts : List (Addr × Obj)) (X : K.In B) (T : Top p loose mean mg mb B) (hA : Room A (n + 1)) (st : B.StaysIn s.heap) (hm : ∀ p ∈ muts, s.heap.get? p.1 = some p.2 ∧ B.get? p.1 = none)
    (ho : K.lookup f = some ⟨oc, od, .func (fnOf name qual params body scope dV kV doc pm an cdv ct), osl⟩) (hcd : codeIn K cdv qual = true)
    (hbind : BindsTo s (fnOf name qual params body scope dV kV doc pm an cdv ct) args binds) (hloc : ∀ y ∈ binds, scope.names.lookup y.1 = some .local)
    (h : ∀ g L h₁, Keep (muts.map (·.1)) s.heap g → (∀ a o, s.heap.get? a = some o → @LT.lt Nat _ a L) → Fr g L h₁ (fun y => binds.reverse.lookup y) → News g L h₁ muts → K.In g → Top p loose mean mg mb g → B.StaysIn g → Room (A.deeper (envOf qual scope L f cdv)) n →
      wpAny (model prog w) (A.deeper (envOf qual scope L f cdv)) (execs body (envOf qual scope L f cdv))
        (fun fl s' => R (.ok (.ret (match fl with | .ret v => v | _ => .none))) s') (fun _ _ => False)
        { s with heap := h₁, toks := s.toks + binds.length })
    (hcell : ∀ x ∈ scope.names, x.2 ≠ .cell) (hco : scope.isCoroutine = false := by rfl) (hgen : scope.isGenerator = false := by rfl) (hk : scope.kind = .function := by rfl) : codeAny (model prog w) A (.call (.ref f) args) R s := by
  have hS : ∀ a ∈ muts.map (·.1), B.get? a = none := fun a ha => by obtain ⟨q, hq, rfl⟩ := List.mem_map.mp ha; exact (hm q hq).2
  have stg : B.StaysIn (hideAll s.heap (muts.map (·.1))) := fun b o e => hideAll_get _ (st b o e) fun q => by rw [hS b q] at e; cases e
  refine codeAny_call_def (fd := fnOf name qual params body scope dV kV doc pm an cdv ct) (body := body) (binds := binds) hA.depth (st _ _ (X _ _ ho)) rfl (T.nolimit.keeps st) (codeRec_of (fun a o e => st a o (X a o e)) hcd) rfl hbind hcell hloc (fun h₁ hns hk₁ => ?_) hco hgen hk
  refine wpAny_mono (h _ s.heap.objs.size h₁ (fun b o hb e => hideAll_get _ e hb) (fun a o e => Heap.lt_size e) ⟨hns, fun b o e => hk₁ b o (of_hideAll _ e), Nat.le_of_eq (hideAll_size _ _)⟩
    (fun p hp => ⟨hk₁ _ _ (hm p hp).1, Nat.ne_of_lt (Heap.lt_size (hm p hp).1), hideAll_none _ (List.mem_map_of_mem hp)⟩)
    (fun a o e => stg a o (X a o e)) (T.keeps stg) stg (hA.deeper _)) (fun _ _ x => x) fun _ _ x => x.elim

/-- enter a def of the top that has cells -/
theorem enterC {B : Heap} {n : Nat} (muts : List (Addr × Obj)) (X : K.In B) (T : Top p loose mean mg mb B) (hA : Room A (n + 1)) (st : B.StaysIn s.heap) (hm : ∀ p ∈ muts, s.heap.get? p.1 = some p.2 ∧ B.get? p.1 = none)
    (ho : K.lookup f = some ⟨oc, od, .func (fnOf name qual params body scope dV kV doc pm an cdv ct), osl⟩) (hcd : codeIn K cdv qual = true)
    (hbind : BindsTo s (fnOf name qual params body scope dV kV doc pm an cdv ct) args binds) (hkind : (binds.all fun y => scope.names.lookup y.1 == some .local || scope.names.lookup y.1 == some .cell) = true)
    (hnd : ((cellsFrom 0 scope.names []).map (·.1)).Nodup)
    (h : ∀ g L h₁ tk cells, Keep (muts.map (·.1)) s.heap g → (∀ a o, s.heap.get? a = some o → @LT.lt Nat _ a L) → Fr g L h₁ (bindL (envOfC qual scope L f cdv).kindOf binds fun _ => none) → News g L h₁ (cells ++ muts) →
      CellsAre (bindC (envOfC qual scope L f cdv).kindOf binds fun _ => none) (cellsFrom (L + 1) scope.names []) cells → K.In g → Top p loose mean mg mb g → B.StaysIn g → Room (A.deeper (envOfC qual scope L f cdv)) n →
      wpAny (model prog w) (A.deeper (envOfC qual scope L f cdv)) (execs body (envOfC qual scope L f cdv))
        (fun fl s' => R (.ok (.ret (match fl with | .ret v => v | _ => .none))) s') (fun _ _ => False)
        { s with heap := h₁, toks := tk })
    (hco : scope.isCoroutine = false := by rfl) (hgen : scope.isGenerator = false := by rfl) (hk : scope.kind = .function := by rfl) : codeAny (model prog w) A (.call (.ref f) args) R s := by
  have hS : ∀ a ∈ muts.map (·.1), B.get? a = none := fun a ha => by obtain ⟨q, hq, rfl⟩ := List.mem_map.mp ha; exact (hm q hq).2
  have stg : B.StaysIn (hideAll s.heap (muts.map (·.1))) := fun b o e => hideAll_get _ (st b o e) fun q => by rw [hS b q] at e; cases e
  refine codeAny_call_function hA.depth (st _ _ (X _ _ ho)) rfl hco hgen rfl (codeRec_of (fun a o e => st a o (X a o e)) hcd) (hbind _ _ _ _ ?_)
  refine wpAny_newFunctionEnv_cells hk (kindsX hkind _) fun env' he s' x => ?_
  subst he
  refine ⟨(T.nolimit.keeps st).keeps x.toInCall.keep, codeAny_func ?_⟩
  obtain ⟨h₁, tk, rfl, _⟩ := x.done
  have hk₁ := x.toInCall.keep
  obtain ⟨cells, NC, Y⟩ := Cl.news (h₀ := s.heap) (Nat.le_refl _) fun n c hm => ⟨x.cell n c (lookup_of_mem_nodup (cellsFrom_names scope.names 0 (s.heap.objs.size + 1) [] [] rfl ▸ hnd) hm), x.above n c hm⟩
  refine wpAny_mono (h _ s.heap.objs.size h₁ tk cells (fun b o hb e => hideAll_get _ e hb) (fun a o e => Heap.lt_size e) ⟨x.toInCall.ns, fun b o e => hk₁ b o (of_hideAll _ e), Nat.le_of_eq (hideAll_size _ _)⟩ (News.app (fun p hp => ?_) (fun p hp => ⟨hk₁ _ _ (hm p hp).1, Nat.ne_of_lt (Heap.lt_size (hm p hp).1), hideAll_none _ (List.mem_map_of_mem hp)⟩)) Y (fun a o e => stg a o (X a o e)) (T.keeps stg) stg (hA.deeper _)) (fun _ _ x => x) fun _ _ x => x.elim
  refine ⟨(NC p hp).1, (NC p hp).2.1, ?_⟩
  cases q : (hideAll s.heap (muts.map (·.1))).get? p.1 with
  | none => rfl
  | some o => have := of_hideAll _ q; rw [(NC p hp).2.2] at this; cases this

/-- the caller's ground, laid aside for a call -/
theorem ground_of {h₀ : Heap} {L : Addr} {m : Str → Option Value} {news : List (Addr × Obj)} (F : Fr h₀ L s.heap m) (N : News h₀ L s.heap news) :
    Fr h₀ L (hideAll s.heap (news.map (·.1))) m ∧ h₀.StaysIn (hideAll s.heap (news.map (·.1))) ∧ ∀ v s', LeaveK h₀ L m (hideAll s.heap (news.map (·.1))) R v s' → R (.ok (.ret v)) s' := by
  have nm : ∀ b o, h₀.get? b = some o → b ∉ news.map (·.1) := fun b o e q => by
    obtain ⟨p, hp, rfl⟩ := List.mem_map.mp q
    rw [(N p hp).2.2] at e; cases e
  have st : h₀.StaysIn (hideAll s.heap (news.map (·.1))) := fun b o e => hideAll_get _ (F.keep b o e) (nm b o e)
  obtain ⟨oL, es, ep, hL, hLd, hLk, hLf⟩ := F.ns
  have nL : L ∉ news.map (·.1) := fun q => by
    obtain ⟨p, hp, e⟩ := List.mem_map.mp q
    exact (N p hp).2.1 e
  have hLg := hideAll_get (news.map (·.1)) hL nL
  refine ⟨⟨⟨oL, es, ep, hLg, hLd, hLk, hLf⟩, st, F.above⟩, st, fun v s' hl => ?_⟩
  obtain ⟨L', m', news', F', N', k⟩ := hl
  refine k ⟨⟨oL, es, ep, F'.keep L oL hLg, hLd, hLk, hLf⟩, fun b o e => F'.keep b o (st b o e), F.above⟩ fun p hp => ⟨(N' p hp).1, fun q => ?_, ?_⟩
  · have := (N' p hp).2.2; rw [q, hLg] at this; cases this
  · cases q : h₀.get? p.1 with
    | none => rfl
    | some o => have := (N' p hp).2.2; rw [st _ _ q] at this; cases this

/-- enter a def that the frame has made (it lies on the ledger) -/
theorem enterN {h₀ : Heap} {L : Addr} {m : Str → Option Value} {news : List (Addr × Obj)} {n : Nat} {cl : List (Str × Addr)} {c' : Addr} {ctv : Value} (X : K.In h₀) (T : Top p loose mean mg mb h₀) (hA : Room A (n + 1)) (F : Fr h₀ L s.heap m) (N : News h₀ L s.heap news)
    (ho : (f, fnMade name qual params body scope cl doc pm c' ctv) ∈ news) (hcd : s.heap.CodeRec (.ref c') qual)
    (hbind : BindsTo s (fnX name qual params body scope cl .none .none doc pm none (.ref c') ctv) args binds) (hloc : ∀ y ∈ binds, scope.names.lookup y.1 = some .local)
    (h : ∀ g L' h₁, Fr h₀ L g m → Fr g L' h₁ (fun y => binds.reverse.lookup y) → News g L' h₁ news → h₀.StaysIn g → K.In g → Top p loose mean mg mb g → (∀ q ∈ news, q.1 < L') → Room (A.deeper (envX qual scope L' f (.ref c') cl)) n →
      wpAny (model prog w) (A.deeper (envX qual scope L' f (.ref c') cl)) (execs body (envX qual scope L' f (.ref c') cl))
        (fun fl s' => LeaveK h₀ L m g R (match fl with | .ret v => v | _ => .none) s') (fun _ _ => False)
        { s with heap := h₁, toks := s.toks + binds.length })
    (hcell : ∀ x ∈ scope.names, x.2 ≠ .cell) (hco : scope.isCoroutine = false := by rfl) (hgen : scope.isGenerator = false := by rfl) (hk : scope.kind = .function := by rfl) : codeAny (model prog w) A (.call (.ref f) args) R s := by
  obtain ⟨FG, st, lv⟩ := ground_of (R := R) F N
  refine codeAny_call_def (fd := fnX name qual params body scope cl .none .none doc pm none (.ref c') ctv) (body := body) (binds := binds) hA.depth (N _ ho).1 rfl (T.nolimit.keeps F.keep) hcd rfl hbind hcell hloc (fun h₁ hns hk₁ => ?_) hco hgen hk
  exact wpAny_mono (h _ s.heap.objs.size h₁ FG ⟨hns, fun b o e => hk₁ b o (of_hideAll _ e), Nat.le_of_eq (hideAll_size _ _)⟩
    (fun p hp => ⟨hk₁ _ _ (N p hp).1, Nat.ne_of_lt (Heap.lt_size (N p hp).1), hideAll_none _ (List.mem_map_of_mem hp)⟩) st (fun a o e => st a o (X a o e)) (T.keeps st) (fun p hp => Heap.lt_size (N p hp).1) (hA.deeper _)) (fun fl s' hl => lv _ _ hl) fun _ _ y => y.elim

/-- enter a def that a frame has made, from any state that keeps the frame's ledger -/
theorem enterG {g h : Heap} {L : Addr} {news : List (Addr × Obj)} {n : Nat} {cl : List (Str × Addr)} {c' : Addr} {ctv : Value} (X : K.In g) (T : Top p loose mean mg mb g) (hA : Room A (n + 1)) (N : News g L h news) (st : g.StaysIn s.heap) (hk : h.StaysIn s.heap)
    (ho : (f, fnMade name qual params body scope cl doc pm c' ctv) ∈ news) (hcd : h.CodeRec (.ref c') qual)
    (hbind : BindsTo s (fnX name qual params body scope cl .none .none doc pm none (.ref c') ctv) args binds) (hloc : ∀ y ∈ binds, scope.names.lookup y.1 = some .local)
    (h : ∀ g' L' h₁, Keep (news.map (·.1)) s.heap g' → g.StaysIn g' → Fr g' L' h₁ (fun y => binds.reverse.lookup y) → News g' L' h₁ news → K.In g' → Top p loose mean mg mb g' → (∀ q ∈ news, q.1 < L') → Room (A.deeper (envX qual scope L' f (.ref c') cl)) n →
      wpAny (model prog w) (A.deeper (envX qual scope L' f (.ref c') cl)) (execs body (envX qual scope L' f (.ref c') cl))
        (fun fl s' => R (.ok (.ret (match fl with | .ret v => v | _ => .none))) s') (fun _ _ => False)
        { s with heap := h₁, toks := s.toks + binds.length })
    (hcell : ∀ x ∈ scope.names, x.2 ≠ .cell) (hco : scope.isCoroutine = false := by rfl) (hgen : scope.isGenerator = false := by rfl) (hkd : scope.kind = .function := by rfl) : codeAny (model prog w) A (.call (.ref f) args) R s := by
  have nm : ∀ b o, g.get? b = some o → b ∉ news.map (·.1) := fun b o e q => by
    obtain ⟨p, hp, rfl⟩ := List.mem_map.mp q
    rw [(N p hp).2.2] at e; cases e
  have stg : g.StaysIn (hideAll s.heap (news.map (·.1))) := fun b o e => hideAll_get _ (st b o e) (nm b o e)
  have here : ∀ p ∈ news, s.heap.get? p.1 = some p.2 := fun p hp => hk _ _ (N p hp).1
  refine codeAny_call_def (fd := fnX name qual params body scope cl .none .none doc pm none (.ref c') ctv) (body := body) (binds := binds) hA.depth (here _ ho) rfl (T.nolimit.keeps st) (hcd.keeps hk) rfl hbind hcell hloc (fun h₁ hns hk₁ => ?_) hco hgen hkd
  exact wpAny_mono (h _ s.heap.objs.size h₁ (fun b o hb e => hideAll_get _ e hb) stg ⟨hns, fun b o e => hk₁ b o (of_hideAll _ e), Nat.le_of_eq (hideAll_size _ _)⟩
    (fun p hp => ⟨hk₁ _ _ (here p hp), Nat.ne_of_lt (Heap.lt_size (here p hp)), hideAll_none _ (List.mem_map_of_mem hp)⟩) (fun a o e => stg a o (X a o e)) (T.keeps stg) (fun p hp => Heap.lt_size (here p hp)) (hA.deeper _)) (fun _ _ x => x) fun _ _ y => y.elim

theorem isList_keep {S : List Addr} {h g : Heap} {a : Addr} {xs : Array Value} (hl : h.IsList a xs) (k : Keep S h g) (hS : ∀ b ∈ S, ∀ o, h.get? b = some o → ∀ ys n, o.data ≠ .seq ys n) : g.IsList a xs := by
  obtain ⟨o, ho, hc, n, hd⟩ := hl
  exact ⟨o, k _ _ (fun q => hS _ q o ho _ _ hd) ho, hc, n, hd⟩
theorem with_heap {h₀ h : Heap} {L : Addr} {news : List (Addr × Obj)} (_N : News h₀ L h news) {C : Prop} (k : ∀ hN, hN = h → C) : C := k h rfl
theorem with_first {h₀ h : Heap} {L f : Addr} {o : Obj} {news : List (Addr × Obj)} (_N : News h₀ L h ((f, o) :: news)) {C : Prop} (k : ∀ f', f' = f → C) : C := k f rfl
theorem news_setK {h₀ h h' : Heap} {L D : Addr} {o o' : Obj} {pre post : List (Addr × Obj)} (N : News h₀ L h (pre ++ (D, o) :: post)) (h1 : ∀ p ∈ pre, p.1 ≠ D) (h2 : ∀ p ∈ post, p.1 ≠ D) (k : Keep [D] h h') (ho : h'.get? D = some o') : News h₀ L h' (pre ++ (D, o') :: post) := by
  intro p hp
  rcases List.mem_append.mp hp with hp | hp
  · have z := N p (List.mem_append.mpr (.inl hp))
    exact ⟨k _ _ (by simpa using h1 p hp) z.1, z.2⟩
  · rcases List.mem_cons.mp hp with rfl | hp
    · exact ⟨ho, (N (D, o) (List.mem_append.mpr (.inr (.head _)))).2⟩
    · have z := N p (List.mem_append.mpr (.inr (.tail _ hp)))
      exact ⟨k _ _ (by simpa using h2 p hp) z.1, z.2⟩
theorem keep_refl {h : Heap} {S : List Addr} : Keep S h h := fun _ _ _ e => e
/-- all but one of the laid-aside objects is untouched -/
theorem keep_one {h g h' : Heap} {L D : Addr} {muts news : List (Addr × Obj)} {m : Str → Option Value} (hg : Keep (muts.map (·.1)) h g) (F : Fr g L h' m) (N : News g L h' news) (hm : ∀ p ∈ muts, h.get? p.1 = some p.2) (hn : ∀ p ∈ muts, p.1 ≠ D → p ∈ news) : Keep [D] h h' := fun b o hD e => by
  by_cases hb : b ∈ muts.map (·.1)
  · obtain ⟨q, hq, rfl⟩ := List.mem_map.mp hb
    have e2 := hm q hq
    rw [e] at e2; cases e2
    exact (N q (hn q hq (by simpa using hD))).1
  · exact F.keep b o (hg b o hb e)
/-- a def's table of codes: fresh, or with the one inner def's code -/
def TabSt (B : Heap) (P : Addr) (pos : Pos) (qual : Str) (h : Heap) : Prop :=
  h.get? P = some (tabObj #[]) ∨ ∃ c' oc vs t, h.get? P = some (tabObj #[rawInt pos.line, rawInt pos.col, .ref c']) ∧ h.get? c' = some oc ∧ oc.data = .fields vs ∧ vs[1]? = some (.str qual t) ∧ B.get? c' = none
theorem TabSt.of {B h₀ h : Heap} {L P c' : Addr} {pos : Pos} {qual : Str} {oc : Obj} {vs : Array Value} {t : Tok} {news : List (Addr × Obj)} (N : News h₀ L h news) (st : B.StaysIn h₀) (h1 : (P, tabObj #[rawInt pos.line, rawInt pos.col, .ref c']) ∈ news) (h2 : (c', oc) ∈ news) (h3 : oc.data = .fields vs) (h4 : vs[1]? = some (.str qual t)) : TabSt B P pos qual h :=
  .inr ⟨c', oc, vs, t, (N _ h1).1, (N _ h2).1, h3, h4, by
    cases q : B.get? c' with
    | none => rfl
    | some o => have := st _ _ q; rw [(N _ h2).2.2] at this; cases this⟩
theorem TabSt.stays {B h h' : Heap} {P : Addr} {pos : Pos} {qual : Str} (x : TabSt B P pos qual h) (k : h.StaysIn h') : TabSt B P pos qual h' := by
  rcases x with x | ⟨c', oc, vs, t, h1, h2, h3, h4, h5⟩
  · exact .inl (k _ _ x)
  · exact .inr ⟨c', oc, vs, t, k _ _ h1, k _ _ h2, h3, h4, h5⟩
theorem TabSt.there {B h : Heap} {P : Addr} {pos : Pos} {qual : Str} (x : TabSt B P pos qual h) : ∃ o, h.get? P = some o := by
  rcases x with x | ⟨_, _, _, _, h1, _⟩ <;> exact ⟨_, by assumption⟩
/-- with the laid-aside objects untouched, all of it stays -/
theorem stays_all {h g h' : Heap} {L : Addr} {muts news : List (Addr × Obj)} {m : Str → Option Value} (hg : Keep (muts.map (·.1)) h g) (F : Fr g L h' m) (N : News g L h' news) (hm : ∀ p ∈ muts, h.get? p.1 = some p.2) (hn : ∀ p ∈ muts, p ∈ news) : h.StaysIn h' := fun b o e => by
  by_cases hb : b ∈ muts.map (·.1)
  · obtain ⟨q, hq, rfl⟩ := List.mem_map.mp hb
    have e2 := hm q hq
    rw [e] at e2; cases e2
    exact (N q (hn q hq)).1
  · exact F.keep b o (hg b o hb e)
theorem CodeRec.of_get {h : Heap} {c : Addr} {oc : Obj} {vs : Array Value} {qual : Str} {t : Tok} (e : h.get? c = some oc) (hd : oc.data = .fields vs) (hv : vs[1]? = some (.str qual t)) : h.CodeRec (.ref c) qual := ⟨c, oc, vs, t, rfl, e, hd, hv⟩

theorem Fr.keepS {h₀ h h' : Heap} {L : Addr} {m : Str → Option Value} {S : List Addr} (F : Fr h₀ L h m) (k : Keep S h h') (hS : ∀ a ∈ S, h₀.get? a = none) (hL : L ∉ S) : Fr h₀ L h' m := by
  obtain ⟨oL, es, ep, e, r⟩ := F.ns
  exact ⟨⟨oL, es, ep, k L oL hL e, r⟩, fun b o e => k b o (fun q => by rw [hS b q] at e; cases e) (F.keep b o e), F.above⟩
theorem News.keepS {h₀ h h' : Heap} {L : Addr} {news : List (Addr × Obj)} {S : List Addr} (N : News h₀ L h news) (k : Keep S h h') (hS : ∀ p ∈ news, p.1 ∉ S) : News h₀ L h' news := fun p hp => ⟨k _ _ (hS p hp) (N p hp).1, (N p hp).2⟩
theorem stays_keepS {B h h' : Heap} {S : List Addr} (st : B.StaysIn h) (k : Keep S h h') (hS : ∀ a ∈ S, B.get? a = none) : B.StaysIn h' := fun b o e => k b o (fun q => by rw [hS b q] at e; cases e) (st b o e)
theorem Keep.trans {h h' h'' : Heap} {S : List Addr} (a : Keep S h h') (b : Keep S h' h'') : Keep S h h'' := fun x o hx e => b x o hx (a x o hx e)
theorem Keep.mono {h h' : Heap} {S S' : List Addr} (a : Keep S h h') (hs : ∀ x ∈ S, x ∈ S') : Keep S' h h' := fun x o hx e => a x o (fun q => hx (hs x q)) e
theorem News.st {h₀ h h' : Heap} {L : Addr} {news : List (Addr × Obj)} (N : News h₀ L h news) (k : h.StaysIn h') : News h₀ L h' news := fun p hp => ⟨k _ _ (N p hp).1, (N p hp).2⟩
theorem Fr.st {h₀ h h' : Heap} {L : Addr} {m : Str → Option Value} (F : Fr h₀ L h m) (k : h.StaysIn h') : Fr h₀ L h' m := F.keeps k
end
end Mine
--LINES
local macro_rules | `(tactic| walk_at "storeName") => `(tactic| (k_here; k_dflt (refine' storeX_C ?F ?N ?c ?U ?d ?_ ?a ?b; (case a => exact rfl); (case b => exact rfl); (case F => k_asm); (case N => k_asm); (case c => exact rfl); (case U => k_updF); (case d => k_asm); k_whole); intro h' o' F' N' d'; (try simp only [List.cons_append, List.nil_append] at N'); (try k_sweep)))
--END
namespace Mine
section
variable {prog : Program} {w : World} {A : Around} {E : Value → Shared → Prop} {s : Shared}

theorem noBool_set : typeLookup (.type "set") "__bool__" = pure none := by rw [typeLookup_type, builtinLookup_eq_fast]; kernel_rfl

theorem truthy_setObj {a : Addr} {o : Obj} {es : Array (Int × Value)} {ep : Nat} {t : SetTable} {Q : Bool → Shared → Prop} (ho : s.heap.get? a = some o) (hex : o.ExactSet) (hd : o.data = .set es ep t) (hf : t.fits es.size = true) (hfit : (es.size : Int) < 2 ^ 63)
    (h : Q ((es.size : Int) != 0) { s with toks := s.toks + 1 + 1 }) : wpAny (model prog w) A (truthy (.ref a)) Q E s := by
  have hT : s.TypeIs (.ref a) "set" := ⟨o, ho, hex.1⟩
  have key : wpAny (model prog w) A (runValue (.builtin "len" ⟨[.ref a], []⟩)) (fun r s' => r = .int es.size (s.toks + 1) ∧ Q ((es.size : Int) != 0) s') E s := by
    refine wpAny_runValue (codeAny_builtin entry_len ?_)
    rw [Around.under_plainId plain_len _]
    exact wpAny_mono (wpAny_len_body_set (Q := fun r s' => r = .int es.size (s.toks + 1) ∧ Q ((es.size : Int) != 0) s') ho hex hd hf hfit ⟨rfl, h⟩)
      (fun fin s' h' => by obtain ⟨r, rfl, hq⟩ := h'; exact hq) fun _ _ e => e
  unfold truthy
  first
    | refine wpAny_bind (wpAny_callSpecial?_none (name := Str.ofString "__bool__") hT noBool_set ?_)
    | refine wpAny_bind (wpAny_pure (wpAny_bind (wpAny_callSpecial?_none (name := Str.ofString "__bool__") hT noBool_set ?_)))
  first
    | refine wpAny_bind (wpAny_specialOf (name := Str.ofString "__len__") hT F.slot_set_len.lookup ?_)
    | refine wpAny_bind (wpAny_pure (wpAny_bind (wpAny_specialOf (name := Str.ofString "__len__") hT F.slot_set_len.lookup ?_)))
  first
    | exact wpAny_bind (wpAny_mono key (fun r s' h' => by obtain ⟨rfl, hq⟩ := h'; exact wpAny_pure hq) fun _ _ e => e)
    | exact wpAny_bind (wpAny_pure (wpAny_bind (wpAny_mono key (fun r s' h' => by obtain ⟨rfl, hq⟩ := h'; exact wpAny_pure hq) fun _ _ e => e)))

theorem insertAt_size {α : Type} (xs : Array α) (p : Nat) (x : α) : (SetTable.insertAt xs p x).size = xs.size + 1 := by
  unfold SetTable.insertAt; simp only [Array.size_append, Array.size_push, Array.size_extract]; omega

theorem choose_any {n : Nat} {src : Source} {Q : Nat → Shared → Prop} (hn : n ≠ 0) (h : ∀ k d', k < n → Q k { s with drawn := d' }) : wpAny (model prog w) A (choose src n) Q E s := fun Γ p _ => by
  show Sem.wp _ _ (.choose src n .pure) _ _ _ _
  rw [Sem.wp_choose]
  exact ⟨hn, h _ _ (Nat.mod_lt _ (Nat.pos_of_ne_zero hn))⟩

/-- set.pop on a set of one -/
theorem setPop_one {a : Addr} {o : Obj} {x : Int × Value} {ep : Nat} {t : SetTable} {Q : Option Value → Shared → Prop} (ho : s.heap.get? a = some o) (hex : o.ExactSet) (hd : o.data = .set #[x] ep t) (hf : t.fits 1 = true)
    (h : ∀ h' d' o' ep' t', Heap.SameBut a s.heap h' → h'.get? a = some o' → o'.ExactSet → o'.data = .set #[] ep' t' → t'.fits 0 = true → Q (some x.2) { s with heap := h', drawn := d' }) :
    wpAny (model prog w) A (setPop a) Q E s := by
  unfold setPop
  refine wpAny_bind (wpAny_setState_of ho hd hf ?_)
  dsimp only
  have hf' := hf
  simp only [SetTable.fits, Bool.and_eq_true, beq_iff_eq, decide_eq_true_eq] at hf'
  obtain ⟨f1, f2⟩ := hf'
  have hpop : t.popPlace = some 0 := by
    unfold SetTable.popPlace
    have : t.place.isEmpty = false := by
      rw [Array.isEmpty_eq_false_iff]; intro e; rw [e] at f1; cases f1
    rw [this]
    simp only [Bool.false_eq_true, if_false, Option.some.injEq]
    split <;> omega
  rw [hpop]
  dsimp only
  have tail : ∀ d' i, i = 0 → wpAny (model prog w) A (do
      let some (_, y) := (#[x] : Array (Int × Value))[i]? | unsupported "internal:set.pop"
      storeSet a (SetTable.eraseAt (#[x] : Array (Int × Value)) i) (t.popped i)
      return some y : Sem (Option Value)) Q E { s with drawn := d' } := by
    rintro d' i rfl
    obtain ⟨k, v⟩ := x
    show wpAny (model prog w) A (storeSet a (SetTable.eraseAt #[(k, v)] 0) (t.popped 0) >>= fun _ => pure (some v)) Q E { s with drawn := d' }
    refine wpAny_bind (wpAny_storeSet_of (s := { s with drawn := d' }) ho hd ?_ (Nat.zero_le _))
    refine wpAny_pure ?_
    have hs : Heap.SameBut a s.heap (s.heap.update a (Obj.putSet (SetTable.eraseAt #[(k, v)] 0) (t.popped 0))) := Heap.SameBut.update ..
    have e1 : (SetTable.eraseAt #[(k, v)] 0 : Array (Int × Value)) = #[] := rfl
    have hnf : (Obj.putSet (SetTable.eraseAt #[(k, v)] 0) (t.popped 0) o).isFreed = false := by rw [putSet_of _ _ hd]; rfl
    have ge := Heap.get?_update_self (Obj.putSet (SetTable.eraseAt #[(k, v)] 0) (t.popped 0)) ho hnf
    rw [putSet_of _ _ hd] at ge
    refine h _ d' _ (ep + 1) (t.popped 0) hs ge ⟨hex.1, hex.2.1, hex.2.2⟩ (by rw [e1]) ?_
    have hp0 : ∃ j, t.place[0]? = some j := by
      have : 0 < t.place.size := by omega
      exact ⟨_, Array.getElem?_eq_getElem this⟩
    obtain ⟨j, hj⟩ := hp0
    have e2 : (SetTable.eraseAt t.place 0).size = 0 := by
      unfold SetTable.eraseAt; simp only [Array.size_append, Array.size_extract]; omega
    have e4 : t.drop 0 = { t with place := SetTable.eraseAt t.place 0, dummies := SetTable.insertAt t.dummies (SetTable.below t.dummies j) j } := by
      unfold SetTable.drop; rw [hj]
    unfold SetTable.popped
    rw [e4]
    simp only [SetTable.fits, Bool.and_eq_true, beq_iff_eq, decide_eq_true_eq, SetTable.fill, e2, insertAt_size]
    unfold SetTable.fill at f2
    refine ⟨trivial, by omega⟩
  refine wpAny_bind (m := setsByText) (wpAny_bind (wpAny_askSetting (wpAny_pure ?_)))
  dsimp only
  split
  · refine wpAny_bind (choose_any (by simp) fun k d' hk => ?_)
    have : k = 0 := by simp at hk; omega
    exact tail d' k this
  · have e3 : (!t.led && decide ((#[x] : Array (Int × Value)).size > 1)) = false := by simp
    refine wpAny_bind ?_
    wp_delta
    rw [e3]
    simp only [Bool.false_eq_true, if_false]
    exact wpAny_pure (wpAny_bind (wpAny_pure (tail _ 0 rfl)))

theorem call_set_pop {a : Addr} {o : Obj} {x : Int × Value} {ep : Nat} {t : SetTable} {Q : Value → Shared → Prop} (ho : s.heap.get? a = some o) (hex : o.ExactSet) (hd : o.data = .set #[x] ep t) (hf : t.fits 1 = true)
    (h : ∀ h' d' o' ep' t', Heap.SameBut a s.heap h' → h'.get? a = some o' → o'.ExactSet → o'.data = .set #[] ep' t' → t'.fits 0 = true → Q x.2 { s with heap := h', drawn := d' }) :
    wpAny (model prog w) A (call (.builtin "set.pop") [.ref a]) Q E s := by
  refine wpAny_call_entry F.slot_set_pop ⟨o, ho, hex.1⟩ F.entry_set_pop ?_ (F.args_set_pop_1 _)
  unfold Builtin.«set.pop» Builtin.Frozenset.noArgs Builtin.Frozenset.addrOf
  refine wpAny_bind (wpAny_pure ?_)
  refine wpAny_bind (setPop_one ho hex hd hf fun h' d' o' ep' t' a1 a2 a3 a4 a5 => ?_)
  exact wpAny_pure ⟨_, rfl, h h' d' o' ep' t' a1 a2 a3 a4 a5⟩

theorem getMethod_set_pop {a : Addr} {o : Obj} {pl : Sem Bool} {Q : Value × List Value → Shared → Prop} (ho : s.heap.get? a = some o) (hex : o.ExactSet) (h : Q (.builtin "set.pop", [.ref a]) s) :
    wpAny (model prog w) A (getMethod (.ref a) "pop" pl) Q E s :=
  getMethod_builtin ⟨o, ho, hex.1⟩ F.plainAttrs_set F.slot_set_pop F.type_set_pop (fun b e => by injection e with e; subst e; exact ⟨o, ho, hex.2.1⟩) h

theorem setObj_one {o : Obj} {n : Int} {S : Int → Bool} (h : o.SetObjOf (intKind prog w) S 1) (hS : S n = true) : ∃ k t ep tb, o.ExactSet ∧ o.data = .set #[(k, .int n t)] ep tb ∧ tb.fits 1 = true := by
  obtain ⟨hex, es, ep, tb, hd, hel, hmem, hn, hf⟩ := h
  obtain ⟨e, he, hk⟩ := (hmem n).mp hS
  obtain ⟨l⟩ := es
  obtain ⟨y, rfl⟩ : ∃ y, l = [y] := List.length_eq_one_iff.mp (by simpa using hn)
  have : e = y := by simpa using he
  subst this
  obtain ⟨t, ht⟩ := Value.isInt_shape hk
  obtain ⟨k, v⟩ := e
  dsimp only at ht
  subst ht
  exact ⟨k, t, ep, tb, hex, hd, hf⟩
end
end Mine
namespace Mine
section
variable {prog : Program} {w : World} {A : Around} {E : Value → Shared → Prop} {s : Shared}
theorem truthy_setOf {K : Type} [DecidableEq K] [BEq K] [LawfulBEq K] {knd : KeyKind prog w K} {S : K → Bool} {n : Nat} {a : Addr} {o : Obj} {Q : Bool → Shared → Prop} (ho : s.heap.get? a = some o) (hs : o.SetObjOf knd S n) (hfit : (n : Int) < 2 ^ 63)
    (h : Q ((n : Int) != 0) { s with toks := s.toks + 1 + 1 }) : wpAny (model prog w) A (truthy (.ref a)) Q E s := by
  obtain ⟨hex, es, ep, t, hd, _, _, hn, hf⟩ := hs
  subst hn
  exact truthy_setObj ho hex hd hf hfit h
theorem getMethod_set_popOf {K : Type} [DecidableEq K] [BEq K] [LawfulBEq K] {knd : KeyKind prog w K} {S : K → Bool} {n : Nat} {a : Addr} {o : Obj} {pl : Sem Bool} {Q : Value × List Value → Shared → Prop} (ho : s.heap.get? a = some o) (hs : o.SetObjOf knd S n) (h : Q (.builtin "set.pop", [.ref a]) s) :
    wpAny (model prog w) A (getMethod (.ref a) "pop" pl) Q E s := getMethod_set_pop ho hs.1 h
end
end Mine
--LINES
local macro_rules | `(tactic| walk_at "truthy ref") => `(tactic| (k_here; k_dflt (refine' Mine.truthy_setObj (News.get ?N ?m) ?x ?d ?f ?z ?_; (case N => k_asm); (case m => k_mem); (case x => first | assumption | exact ⟨rfl, rfl, rfl⟩); (case d => first | assumption | exact rfl); (case f => first | assumption | exact rfl); (case z => exact of_decide_eq_true rfl))))
local macro_rules | `(tactic| walk_at "truthy ref") => `(tactic| (k_here; k_dflt (refine' Mine.truthy_setOf (knd := PySem.intKind _ _) (News.get ?N ?m) ?x ?z ?_; (case N => k_asm); (case m => k_mem); (case x => assumption); (case z => exact of_decide_eq_true rfl))))
local macro_rules | `(tactic| walk_at "getMethod ref") => `(tactic| (k_here; (with_reducible show wpAny _ _ (getMethod (Value.ref _) (Str.ofString "pop") _) _ _ _); k_dflt (refine' Mine.getMethod_set_popOf (knd := PySem.intKind _ _) (News.get ?N ?m) ?x ?_; (case N => k_asm); (case m => k_mem); (case x => assumption))))
--END
namespace Mine
section
variable {w : World} {B : Heap} {p : Program} {loose : List Str} {mean : ExcName → Option Value} {mg mb : Str → Option Value} {A : Around} {s : Shared} {Q E : Value → Shared → Prop}

theorem powers_c {n : Int} {t t1 t2 : Tok} (X : (hd.heap_1 w.params).In B) (T : Top p loose mean mg mb B) (hA : Room A 2) (st : B.StaysIn s.heap) (hn : 1 ≤ n) (hn2 : n < 6)
    (hQ : ∀ h' d' tk' v, s.heap.StaysIn h' → Q (.ref v) { s with heap := h', drawn := d', toks := tk' }) :
    wpAny (model PySem.Challenge.rw_un0043_01.row.toRowW.prog w) A (call (.ref 46) [.int n t, .int 5 t1, .int 2048 t2]) Q E s := by
  revert X; k_fill; intro X
  have Xs : (hd.heap_1 w.params).In s.heap := fun a o e => st a o (X a o e)
  refine wpAny_call ?_
  k_dflt (refine' enterM [] X T hA st ?hm ?ho ?hcd ?hb ?hl ?_ ?hc ?h1 ?h2 ?h3; (case hm => exact fun _ h => nomatch h); (case ho => k_is); (case hcd => k_is); (case hb => first | exact BindsTo.of_eq rfl | exact binds_K Xs rfl (by k_is) rfl rfl rfl); (case hl => exact locs rfl); (case hc => decide); (case h1 => exact rfl); (case h2 => exact rfl); (case h3 => exact rfl))
  intro g L h₁ hg hL F N X' T' st' hA'
  replace F : Fr g L h₁ (fun y => List.lookup y [(Str.ofString "show", Value.bool false), (Str.ofString "more_than", .int 2048 t2), (Str.ofString "base", .int 5 t1), (Str.ofString "w", .int n t)]) := F
  show wpAny _ _ _ _ _ _
  k_fold
  k_steps
  rename Obj.SetObjOf _ _ _ 1 => hso
  obtain ⟨_, _, _, _, hex, hd, hf⟩ := setObj_one hso (n := n) (by simp)
  rename News _ _ _ _ => Nn
  rename Fr _ _ _ _ => Fn
  have ho := (Nn _ (List.Mem.head _)).1
  refine call_set_pop ho hex hd hf ?_
  intro h2 d2 o2 ep2 tb2 hs2 ho2 hex2 hd2 hf2
  have F2 := Fn.change hs2 (Nn _ (List.Mem.head _)).2.1 (Nn _ (List.Mem.head _)).2.2
  have N2 := news_set (pre := []) Nn (by simp) (by k_all) hs2 ho2
  simp only [List.nil_append] at N2
  clear Nn Fn ho hs2
  k_steps
  exact hQ _ _ _ _ fun b o e => Fr.keep (by assumption) b o (hg b o (fun h => nomatch h) e)

theorem powers_use {h₀ : Heap} {L : Addr} {m : Str → Option Value} {news : List (Addr × Obj)} {n : Int} {t t1 t2 : Tok} {k : Nat} (X : (hd.heap_1 w.params).In h₀) (T : Top p loose mean mg mb h₀) (hA : Room A (k + 2)) (F : Fr h₀ L s.heap m) (N : News h₀ L s.heap news) (hn : 1 ≤ n) (hn2 : n < 6)
    (hQ : ∀ h' d' tk' v, Fr h₀ L h' m → News h₀ L h' news → Q (.ref v) { s with heap := h', drawn := d', toks := tk' }) :
    wpAny (model PySem.Challenge.rw_un0043_01.row.toRowW.prog w) A (call (.ref 46) [.int n t, .int 5 t1, .int 2048 t2]) Q E s :=
  powers_c X T (hA.mono (by omega)) F.keep hn hn2 fun h' d' tk' v st => hQ h' d' tk' v (F.keeps st) (News.st N st)
end
end Mine
--LINES
local macro_rules | `(tactic| walk_at "call ref") => `(tactic| (k_here; (with_reducible show wpAny _ _ (call (Value.ref 46) _) _ _ _); k_dflt (refine' Mine.powers_use ?X ?T ?A ?F ?N ?a ?b ?_; (case X => k_asm); (case T => k_asm); (case A => k_asm); (case F => k_asm); (case N => k_asm); (case a => omega); (case b => omega); k_whole); intro h' d' tk' v' F' N'))
--END
namespace Mine
section
variable {w : World} {B : Heap} {p : Program} {loose : List Str} {mean : ExcName → Option Value} {mg mb : Str → Option Value} {A : Around} {s : Shared} {Q E : Value → Shared → Prop}

abbrev TabS (B h : Heap) : Prop := TabSt B 48 ⟨50, 4, 54, 74⟩ (Str.ofString "_str_to_int_inner.<locals>.inner") h

theorem stri_c {x : Str} {t : Tok} {n : Int} (X : (hd.heap_1 w.params).In B) (T : Top p loose mean mg mb B) (hA : Room A 4) (st : B.StaysIn s.heap) (hB : B.get? 48 = none) (hC : CodeHd B 52 48) (hT : TabS B s.heap) (hx : 1 ≤ x.length) (hx2 : x.length < 6)
    (hn : PySem.intText? x = some n) (hsl : Txt.slice x (some 0) (some x.length) = x)
    (hQ : ∀ h' d' tk' t', TabS B h' → Keep [48] s.heap h' → Q (.int n t') { s with heap := h', drawn := d', toks := tk' }) :
    wpAny (model PySem.Challenge.rw_un0043_01.row.toRowW.prog w) A (call (.ref 53) [.str x t]) Q E s := by
  revert X; k_fill; intro X
  have Xs : (hd.heap_1 w.params).In s.heap := fun a o e => st a o (X a o e)
  refine wpAny_call ?_
  rcases hT with h48 | ⟨c9, oc9, vs9, t9, h48, hc9, hd9, hv9, hB9⟩
  · k_dflt (refine' enterC [(48, tabObj #[])] X T hA st ?hm ?ho ?hcd ?hb ?hl ?hnd ?_ ?h1 ?h2 ?h3; (case hm => simpa using ⟨h48, hB⟩); (case ho => k_is); (case hcd => k_is); (case hb => first | exact BindsTo.of_eq rfl | exact binds_K Xs rfl (by k_is) rfl rfl rfl); (case hl => exact rfl); (case hnd => decide +kernel); (case h1 => exact rfl); (case h2 => exact rfl); (case h3 => exact rfl))
    intro g L h₁ tk cells hg hL F N Y X' T' st' hA'
    k_cells Y
    simp only [List.cons_append, List.nil_append] at N
    have hC' := hC.keeps st'
    have l48 := hL _ _ h48
    replace F : Fr g L h₁ (fun _ => none) := F
    show wpAny _ _ _ _ _ _
    k_fold
    k_steps
    refine wpAny_call ?_
    k_dflt (refine' enterN ?X ?T ?A ?F ?N ?ho ?hcd ?hb ?hl ?_ ?hc ?h1 ?h2 ?h3; (case X => k_asm); (case T => k_asm); (case A => k_asm); (case F => k_asm); (case N => k_asm); (case ho => k_mem); (case hcd => exact codeRec_news (by k_asm) (by k_mem) (by assumption) (by assumption)); (case hb => exact BindsTo.of_eq rfl); (case hl => exact locs rfl); (case hc => decide); (case h1 => exact rfl); (case h2 => exact rfl); (case h3 => exact rfl))
    intro g2 L2 h2 FG2 F2 N2 st2 X2 T2 l2 hA2
    k_lt l2
    show wpAny _ _ _ _ _ _
    k_steps
    rw [hsl]
    refine KIN.call_text hn (by omega) ?_
    k_steps
    rename News g L _ _ => kN
    rename Fr g L _ _ => kF
    exact hQ _ _ _ _ (TabSt.of kN st' (by k_mem) (by k_mem) (by assumption) (by assumption)) (fun b o hb e => kF.keep b o (hg b o hb e))
  · k_dflt (refine' enterC [(48, tabObj #[rawInt ((50 : Nat) : Int), rawInt ((4 : Nat) : Int), .ref c9]), (c9, oc9)] X T hA st ?hm ?ho ?hcd ?hb ?hl ?hnd ?_ ?h1 ?h2 ?h3; (case hm => simpa using ⟨⟨h48, hB⟩, hc9, hB9⟩); (case ho => k_is); (case hcd => k_is); (case hb => first | exact BindsTo.of_eq rfl | exact binds_K Xs rfl (by k_is) rfl rfl rfl); (case hl => exact rfl); (case hnd => decide +kernel); (case h1 => exact rfl); (case h2 => exact rfl); (case h3 => exact rfl))
    intro g L h₁ tk cells hg hL F N Y X' T' st' hA'
    k_cells Y
    simp only [List.cons_append, List.nil_append] at N
    have hC' := hC.keeps st'
    have l48 := hL _ _ h48
    have l9 := hL _ _ hc9
    have n9 : @Ne Nat c9 48 := by rintro rfl; rw [h48] at hc9; cases hc9; cases hd9; cases hv9
    replace F : Fr g L h₁ (fun _ => none) := F
    show wpAny _ _ _ _ _ _
    k_fold
    k_steps
    refine wpAny_call ?_
    k_dflt (refine' enterN ?X ?T ?A ?F ?N ?ho ?hcd ?hb ?hl ?_ ?hc ?h1 ?h2 ?h3; (case X => k_asm); (case T => k_asm); (case A => k_asm); (case F => k_asm); (case N => k_asm); (case ho => k_mem); (case hcd => exact codeRec_news (by k_asm) (by k_mem) (by assumption) (by assumption)); (case hb => exact BindsTo.of_eq rfl); (case hl => exact locs rfl); (case hc => decide); (case h1 => exact rfl); (case h2 => exact rfl); (case h3 => exact rfl))
    intro g2 L2 h2 FG2 F2 N2 st2 X2 T2 l2 hA2
    k_lt l2
    show wpAny _ _ _ _ _ _
    k_steps
    rw [hsl]
    refine KIN.call_text hn (by omega) ?_
    k_steps
    rename News g L _ _ => kN
    rename Fr g L _ _ => kF
    refine hQ _ _ _ _ (TabSt.of kN st' (by k_mem) (by k_mem) (by assumption) (by assumption)) (fun b o hb e => ?_)
    by_cases h9 : b = c9
    · rw [h9, hc9] at e; cases e; rw [h9]; exact (kN (c9, oc9) (by k_mem)).1
    · exact kF.keep b o (hg b o (by simpa using ⟨by simpa using hb, h9⟩) e)
end
end Mine
namespace Mine
section
open Builtin Builtin.Str
variable {prog : Program} {w : World} {A : Around} {E : Value → Shared → Prop} {s : Shared} {x y z : Str} {t u v : Tok} {Q : Value → Shared → Prop}
theorem replace_none (hc : (occurrences x y 0 x.length (x.length + 1)).isEmpty = true) (hq : Q (.str x t) s) : wpAny (model prog w) A (call (.builtin "str.replace") [.str x t, .str y u, .str z v]) Q E s := by
  refine call_gives F.slot_str_replace (typeIs_str _ _ _) F.entry_str_replace (F.args_str_replace_3 _ _ _) (gives_str_replace x y z t u v fun h => ?_) ?_
  · rw [hc] at h; simp at h
  · rw [hc]; simp only [Bool.true_or, if_true]; exact hq
end
section
variable {w : World} {B : Heap} {p : Program} {loose : List Str} {mean : ExcName → Option Value} {mg mb : Str → Option Value} {A : Around} {s : Shared} {Q E : Value → Shared → Prop}

theorem ifs_c {x : Str} {t : Tok} {n : Int} (X : (hd.heap_1 w.params).In B) (T : Top p loose mean mg mb B) (hA : Room A 5) (st : B.StaysIn s.heap) (hB : B.get? 48 = none) (hC : CodeHd B 52 48) (hT : TabS B s.heap) (hx : 1 ≤ x.length) (hx2 : x.length < 6)
    (hn : PySem.intText? x = some n) (hsl : Txt.slice x (some 0) (some x.length) = x) (hrs : Txt.rstrip x = x) (hrp : (Builtin.Str.occurrences x (Str.ofString "_") 0 x.length (x.length + 1)).isEmpty = true)
    (hQ : ∀ h' d' tk' t', TabS B h' → Keep [48] s.heap h' → Q (.int n t') { s with heap := h', drawn := d', toks := tk' }) :
    wpAny (model PySem.Challenge.rw_un0043_01.row.toRowW.prog w) A (call (.ref 60) [.str x t]) Q E s := by
  revert X; k_fill; intro X
  have Xs : (hd.heap_1 w.params).In s.heap := fun a o e => st a o (X a o e)
  refine wpAny_call ?_
  obtain ⟨o48, h48⟩ : ∃ o, s.heap.get? 48 = some o := by rcases hT with h | ⟨_, _, _, _, h, _⟩ <;> exact ⟨_, h⟩
  k_dflt (refine' enterM [(48, o48)] X T hA st ?hm ?ho ?hcd ?hb ?hl ?_ ?hc ?h1 ?h2 ?h3; (case hm => simpa using ⟨h48, hB⟩); (case ho => k_is); (case hcd => k_is); (case hb => first | exact BindsTo.of_eq rfl | exact binds_K Xs rfl (by k_is) rfl rfl rfl); (case hl => exact locs rfl); (case hc => decide); (case h1 => exact rfl); (case h2 => exact rfl); (case h3 => exact rfl))
  intro g L h₁ hg hL F N X' T' st' hA'
  have l48 := hL _ _ h48
  replace F : Fr g L h₁ (fun y => List.lookup y [(Str.ofString "s", Value.str x t)]) := F
  show wpAny _ _ _ _ _ _
  k_fold
  k_steps
  rw [hrs]
  refine replace_none hrp ?_
  k_steps
  rename Fr g L _ _ => kF
  rename News g L _ _ => kN
  have sa := stays_all hg kF kN (by simpa using h48) (fun _ h => h)
  refine stri_c X T (hA'.mono (by decide)) (fun b o e => sa b o (st b o e)) hB hC (hT.stays sa) hx hx2 hn hsl ?_
  intro h' d' tk' t' hT' hk'
  k_steps
  exact hQ _ _ _ _ hT' fun b o hb e => hk' b o hb (sa b o e)
end
end Mine
namespace Mine
/-- the number of binary figures, the lowest first -/
def dval : List Int → Int
  | [] => 0
  | x :: r => x + 2 * dval r
theorem half_int (a b : Nat) : ((a : Int) + (b : Int)).fdiv (2 ^ Int.toNat 1) = (((a + b) / 2 : Nat) : Int) := by
  show ((a : Int) + (b : Int)).fdiv 2 = _
  rw [Int.fdiv_eq_ediv_of_nonneg _ (by decide)]; omega
theorem dval_append : ∀ a b : List Int, dval (a ++ b) = dval a + 2 ^ a.length * dval b
  | [], b => by simp [dval]
  | x :: a, b => by
    rw [List.cons_append, dval, dval, dval_append a b, List.length_cons, Int.pow_succ]
    generalize (2 : Int) ^ a.length = k
    rw [Int.mul_add, Int.add_assoc, ← Int.mul_assoc, Int.mul_comm 2 k]
theorem dval_bounds : ∀ ns : List Int, (∀ x ∈ ns, x = 0 ∨ x = 1) → 0 ≤ dval ns ∧ dval ns < 2 ^ ns.length
  | [], _ => by simp [dval]
  | x :: r, h => by
    have ih := dval_bounds r fun y hy => h y (List.mem_cons_of_mem _ hy)
    have hx := h x (List.mem_cons_self ..)
    rw [dval, List.length_cons, Int.pow_succ]
    generalize (2 : Int) ^ r.length = k at ih
    omega
theorem seg_split {ns : List Int} {l m r : Nat} (h1 : l ≤ m) (h2 : m ≤ r) : (ns.drop l).take (r - l) = (ns.drop l).take (m - l) ++ (ns.drop m).take (r - m) := by
  have e1 : r - l = (m - l) + (r - m) := by omega
  rw [e1, List.take_add, List.drop_drop]
  have e2 : l + (m - l) = m := by omega
  rw [e2]
theorem seg_len {ns : List Int} {l r : Nat} (h2 : r ≤ ns.length) : ((ns.drop l).take (r - l)).length = r - l := by
  rw [List.length_take, List.length_drop]; omega
theorem seg_one {ns : List Int} {l r : Nat} (h1 : l + 1 = r) (h2 : r ≤ ns.length) : dval ((ns.drop l).take (r - l)) = ns.getD l 0 := by
  subst h1
  have e : l + 1 - l = 1 := by omega
  have hl : l < ns.length := h2
  rw [e, List.drop_eq_getElem_cons hl, List.take_succ_cons, List.take_zero, List.getD_eq_getElem?_getD, List.getElem?_eq_getElem hl]
  simp [dval]
theorem seg_bounds {ns : List Int} {l r : Nat} (h : ∀ x ∈ ns, x = 0 ∨ x = 1) (hr : r ≤ ns.length) (h16 : ns.length ≤ 16) : 0 ≤ dval ((ns.drop l).take (r - l)) ∧ dval ((ns.drop l).take (r - l)) < 65536 := by
  have b := dval_bounds ((ns.drop l).take (r - l)) fun x hx => h x (List.mem_of_mem_drop (List.mem_of_mem_take hx))
  rw [seg_len hr] at b
  refine ⟨b.1, Int.lt_of_lt_of_le b.2 ?_⟩
  have : (2 : Nat) ^ (r - l) ≤ 2 ^ 16 := Nat.pow_le_pow_right (by decide) (by omega)
  have e : (2 : Int) ^ (r - l) = ((2 ^ (r - l) : Nat) : Int) := by rw [Int.natCast_pow]; rfl
  rw [e]
  generalize (2 : Nat) ^ (r - l) = k at this
  omega
theorem seg_join {ns : List Int} {l m r : Nat} (h1 : l ≤ m) (h2 : m ≤ r) (h3 : r ≤ ns.length) : dval ((ns.drop m).take (r - m)) * 2 ^ ((((m : Nat) : Int) - (l : Int)) * 1).toNat + dval ((ns.drop l).take (m - l)) = dval ((ns.drop l).take (r - l)) := by
  rw [seg_split h1 h2, dval_append, seg_len (by omega)]
  have : ((((m : Nat) : Int) - (l : Int)) * 1).toNat = m - l := by omega
  rw [this, Int.mul_comm]
  omega
theorem mid_ok {l r j : Nat} (h : r - l ≤ j + 1) (h1 : l < r) (h2 : ¬ ((l : Int) + 1 = (r : Int))) : l < (l + r) / 2 ∧ (l + r) / 2 < r ∧ (l + r) / 2 - l ≤ j ∧ r - (l + r) / 2 ≤ j := by
  have h3 : l + 1 ≠ r := fun e => h2 (by omega)
  clear h2
  omega
section
variable {w : World} {B : Heap} {p : Program} {loose : List Str} {mean : ExcName → Option Value} {mg mb : Str → Option Value} {A : Around} {s : Shared} {Q E : Value → Shared → Prop}

abbrev TabD (B h : Heap) : Prop := TabSt B 69 ⟨78, 4, 83, 0⟩ (Str.ofString "_digits2int.<locals>.inner") h

theorem digits_c {ld : Addr} {vs : List Value} {ns : List Int} {t : Tok} (X : (hd.heap_1 w.params).In B) (T : Top p loose mean mg mb B) (hA : Room A 30) (st : B.StaysIn s.heap) (hB : B.get? 69 = none) (hC : CodeHd B 73 69) (hT : TabD B s.heap)
    (hl : s.heap.IsList ld vs.toArray) (hi : IntsAre vs ns) (hlen : ns.length ≤ 16) (h01 : ∀ x ∈ ns, x = 0 ∨ x = 1)
    (hQ : ∀ h' d' tk' t', TabD B h' → Keep [69] s.heap h' → Q (.int (dval ns) t') { s with heap := h', drawn := d', toks := tk' }) :
    wpAny (model PySem.Challenge.rw_un0043_01.row.toRowW.prog w) A (call (.ref 74) [.ref ld, .int 1 t]) Q E s := by
  revert X; k_fill; intro X
  have Xs : (hd.heap_1 w.params).In s.heap := fun a o e => st a o (X a o e)
  refine wpAny_call ?_
  rcases hT with h48 | ⟨c9, oc9, vs9, t9, h48, hc9, hd9, hv9, hB9⟩
  · k_dflt (refine' enterC [(69, tabObj #[])] X T hA st ?hm ?ho ?hcd ?hb ?hl ?hnd ?_ ?h1 ?h2 ?h3; (case hm => simpa using ⟨h48, hB⟩); (case ho => k_is); (case hcd => k_is); (case hb => first | exact BindsTo.of_eq rfl | exact binds_K Xs rfl (by k_is) rfl rfl rfl); (case hl => exact rfl); (case hnd => decide +kernel); (case h1 => exact rfl); (case h2 => exact rfl); (case h3 => exact rfl))
    intro g L h₁ tk cells hg hL F N Y X' T' st' hA'
    k_cells Y
    simp only [List.cons_append, List.nil_append] at N
    have hC' := hC.keeps st'
    have l48 := hL _ _ h48
    have hlg := isList_keep hl hg (by intro b hb o e; simp at hb; subst hb; rw [h48] at e; cases e; exact fun _ _ h => nomatch h)
    replace F : Fr g L h₁ (fun _ => none) := F
    show wpAny _ _ _ _ _ _
    k_fold
    k_steps
    · rename News g L _ _ => kN
      rename Fr g L _ _ => kF
      refine with_heap kN fun hN hE => ?_
      subst hE
      refine with_first kN fun fi hE => ?_
      subst hE
      have key : ∀ (k l r : Nat) (A : Around) (s2 : Shared) (Q2 E2 : Value → Shared → Prop) (t1 t2 : Tok), r - l ≤ k → l < r → r ≤ ns.length → Room A (k + 1) → hN.StaysIn s2.heap → g.StaysIn s2.heap → (∀ h2 tk2 t2, s2.heap.StaysIn h2 → Q2 (.int (dval ((ns.drop l).take (r - l))) t2) { s2 with heap := h2, toks := tk2 }) → wpAny (model PySem.Challenge.rw_un0043_01.row.toRowW.prog w) A (call (.ref fi) [.int (l : Int) t1, .int (r : Int) t2]) Q2 E2 s2 := by
        clear hQ qk ek
        intro k
        induction k with
        | zero => intros; omega
        | succ k ih =>
          intro l r A s2 Q2 E2 t1 t2 hk hlr hr hA2 hs2 hg2 hQ2
          refine wpAny_call ?_
          k_dflt (refine' enterG X' T' hA2 kN hg2 hs2 ?ho ?hcd ?hb ?hl ?_ ?hc ?h1 ?h2 ?h3; (case ho => k_mem); (case hcd => exact codeRec_news kN (by k_mem) (by assumption) (by assumption)); (case hb => exact BindsTo.of_eq rfl); (case hl => exact locs rfl); (case hc => decide); (case h1 => exact rfl); (case h2 => exact rfl); (case h3 => exact rfl))
          intro g3 L3 h3 hk3 st3 F3 N3 X3 T3 l3 hA3
          k_lt l3
          have hlg3 : g3.IsList ld vs.toArray := stays_list st3 hlg
          replace F3 : Fr g3 L3 h3 (fun y => List.lookup y [(Str.ofString "R", Value.int r t2), (Str.ofString "L", Value.int l t1)]) := F3
          show wpAny _ _ _ _ _ _
          k_fold
          k_steps
          · rename (l : Int) + 1 = (r : Int) => hlr1
            rename Fr g3 L3 _ _ => F9
            rename News g3 L3 _ _ => N9
            have sa := stays_all hk3 F9 N9 (fun p hp => hs2 _ _ (kN p hp).1) (fun _ h => h)
            rw [Int.toNat_natCast, ← seg_one (by omega) hr]
            exact hQ2 _ _ _ sa
          · rw [half_int]
            rename Fr g3 L3 _ _ => F9
            rename News g3 L3 _ _ => N9
            rw [half_int] at F9
            have sa := stays_all hk3 F9 N9 (fun p hp => hs2 _ _ (kN p hp).1) (fun _ h => h)
            rename ¬ (l : Int) + 1 = (r : Int) => hlr1
            have mo := mid_ok hk hlr hlr1
            have mr := Nat.le_trans (Nat.le_of_lt mo.2.1) hr
            refine ih _ _ _ _ _ _ _ _ mo.2.2.2 mo.2.1 hr hA3 (fun b o e => sa b o (hs2 b o e)) (fun b o e => sa b o (hg2 b o e)) ?_
            intro h4 tk4 t4 st4
            have F10 := F9.keeps st4
            have N10 := News.st N9 st4
            clear F9 N9
            k_steps
            have b1 := seg_bounds (l := (l + r) / 2) h01 hr hlen
            refine lshift_int_small (by omega) (by omega) (by omega) ?_
            k_steps
            rename Fr g3 L3 _ _ => F9
            rename News g3 L3 _ _ => N9
            have sa2 := stays_all hk3 F9 N9 (fun p hp => hs2 _ _ (kN p hp).1) (fun _ h => h)
            refine ih _ _ _ _ _ _ _ _ mo.2.2.1 mo.1 mr hA3 (fun b o e => sa2 b o (hs2 b o e)) (fun b o e => sa2 b o (hg2 b o e)) ?_
            intro h5 tk5 t5 st5
            have F11 := F9.keeps st5
            have N11 := News.st N9 st5
            clear F9 N9
            k_steps
            rw [seg_join (Nat.le_of_lt mo.1) (Nat.le_of_lt mo.2.1) hr]
            exact hQ2 _ _ _ (fun b o e => st5 b o (sa2 b o e))
      refine key ns.length 0 ns.length _ _ _ _ _ _ (by omega) (by assumption) (Nat.le_refl _) (hA'.mono (by omega)) (fun b o e => e) (fun b o e => kF.keep b o e) ?_
      intro h6 tk6 t6 st6
      have F6 := kF.keeps st6
      have N6 := News.st kN st6
      k_steps
      have e9 : (List.drop 0 ns).take (ns.length - 0) = ns := by simp
      rw [e9]
      exact hQ _ _ _ _ (TabSt.of N6 st' (by k_mem) (by k_mem) (by assumption) (by assumption)) (fun b o hb e => F6.keep b o (hg b o hb e))
    · rename News g L _ _ => N6
      rename Fr g L _ _ => F6
      rename ¬ 0 < ns.length => hz
      have e9 : ns = [] := List.eq_nil_of_length_eq_zero (by omega)
      k_steps
      have e8 : dval ns = 0 := by rw [e9]; rfl
      rw [e8] at hQ
      exact hQ _ _ _ _ (TabSt.of N6 st' (by k_mem) (by k_mem) (by assumption) (by assumption)) (fun b o hb e => F6.keep b o (hg b o hb e))
  · k_dflt (refine' enterC [(69, tabObj #[rawInt ((78 : Nat) : Int), rawInt ((4 : Nat) : Int), .ref c9]), (c9, oc9)] X T hA st ?hm ?ho ?hcd ?hb ?hl ?hnd ?_ ?h1 ?h2 ?h3; (case hm => simpa using ⟨⟨h48, hB⟩, hc9, hB9⟩); (case ho => k_is); (case hcd => k_is); (case hb => first | exact BindsTo.of_eq rfl | exact binds_K Xs rfl (by k_is) rfl rfl rfl); (case hl => exact rfl); (case hnd => decide +kernel); (case h1 => exact rfl); (case h2 => exact rfl); (case h3 => exact rfl))
    intro g L h₁ tk cells hg hL F N Y X' T' st' hA'
    k_cells Y
    simp only [List.cons_append, List.nil_append] at N
    have hC' := hC.keeps st'
    have l48 := hL _ _ h48
    have l9 := hL _ _ hc9
    have n9 : @Ne Nat c9 69 := by rintro rfl; rw [h48] at hc9; cases hc9; cases hd9; cases hv9
    have hlg := isList_keep hl hg (by
      intro b hb o e
      simp at hb
      rcases hb with rfl | rfl
      · rw [h48] at e; cases e; exact fun _ _ h => nomatch h
      · rw [hc9] at e; cases e; intro _ _ h; rw [hd9] at h; cases h)
    replace F : Fr g L h₁ (fun _ => none) := F
    show wpAny _ _ _ _ _ _
    k_fold
    k_steps
    · rename News g L _ _ => kN
      rename Fr g L _ _ => kF
      refine with_heap kN fun hN hE => ?_
      subst hE
      refine with_first kN fun fi hE => ?_
      subst hE
      have key : ∀ (k l r : Nat) (A : Around) (s2 : Shared) (Q2 E2 : Value → Shared → Prop) (t1 t2 : Tok), r - l ≤ k → l < r → r ≤ ns.length → Room A (k + 1) → hN.StaysIn s2.heap → g.StaysIn s2.heap → (∀ h2 tk2 t2, s2.heap.StaysIn h2 → Q2 (.int (dval ((ns.drop l).take (r - l))) t2) { s2 with heap := h2, toks := tk2 }) → wpAny (model PySem.Challenge.rw_un0043_01.row.toRowW.prog w) A (call (.ref fi) [.int (l : Int) t1, .int (r : Int) t2]) Q2 E2 s2 := by
        clear hQ qk ek
        intro k
        induction k with
        | zero => intros; omega
        | succ k ih =>
          intro l r A s2 Q2 E2 t1 t2 hk hlr hr hA2 hs2 hg2 hQ2
          refine wpAny_call ?_
          k_dflt (refine' enterG X' T' hA2 kN hg2 hs2 ?ho ?hcd ?hb ?hl ?_ ?hc ?h1 ?h2 ?h3; (case ho => k_mem); (case hcd => exact codeRec_news kN (by k_mem) (by assumption) (by assumption)); (case hb => exact BindsTo.of_eq rfl); (case hl => exact locs rfl); (case hc => decide); (case h1 => exact rfl); (case h2 => exact rfl); (case h3 => exact rfl))
          intro g3 L3 h3 hk3 st3 F3 N3 X3 T3 l3 hA3
          k_lt l3
          have hlg3 : g3.IsList ld vs.toArray := stays_list st3 hlg
          replace F3 : Fr g3 L3 h3 (fun y => List.lookup y [(Str.ofString "R", Value.int r t2), (Str.ofString "L", Value.int l t1)]) := F3
          show wpAny _ _ _ _ _ _
          k_fold
          k_steps
          · rename (l : Int) + 1 = (r : Int) => hlr1
            rename Fr g3 L3 _ _ => F9
            rename News g3 L3 _ _ => N9
            have sa := stays_all hk3 F9 N9 (fun p hp => hs2 _ _ (kN p hp).1) (fun _ h => h)
            rw [Int.toNat_natCast, ← seg_one (by omega) hr]
            exact hQ2 _ _ _ sa
          · rw [half_int]
            rename Fr g3 L3 _ _ => F9
            rename News g3 L3 _ _ => N9
            rw [half_int] at F9
            have sa := stays_all hk3 F9 N9 (fun p hp => hs2 _ _ (kN p hp).1) (fun _ h => h)
            rename ¬ (l : Int) + 1 = (r : Int) => hlr1
            have mo := mid_ok hk hlr hlr1
            have mr := Nat.le_trans (Nat.le_of_lt mo.2.1) hr
            refine ih _ _ _ _ _ _ _ _ mo.2.2.2 mo.2.1 hr hA3 (fun b o e => sa b o (hs2 b o e)) (fun b o e => sa b o (hg2 b o e)) ?_
            intro h4 tk4 t4 st4
            have F10 := F9.keeps st4
            have N10 := News.st N9 st4
            clear F9 N9
            k_steps
            have b1 := seg_bounds (l := (l + r) / 2) h01 hr hlen
            refine lshift_int_small (by omega) (by omega) (by omega) ?_
            k_steps
            rename Fr g3 L3 _ _ => F9
            rename News g3 L3 _ _ => N9
            have sa2 := stays_all hk3 F9 N9 (fun p hp => hs2 _ _ (kN p hp).1) (fun _ h => h)
            refine ih _ _ _ _ _ _ _ _ mo.2.2.1 mo.1 mr hA3 (fun b o e => sa2 b o (hs2 b o e)) (fun b o e => sa2 b o (hg2 b o e)) ?_
            intro h5 tk5 t5 st5
            have F11 := F9.keeps st5
            have N11 := News.st N9 st5
            clear F9 N9
            k_steps
            rw [seg_join (Nat.le_of_lt mo.1) (Nat.le_of_lt mo.2.1) hr]
            exact hQ2 _ _ _ (fun b o e => st5 b o (sa2 b o e))
      refine key ns.length 0 ns.length _ _ _ _ _ _ (by omega) (by assumption) (Nat.le_refl _) (hA'.mono (by omega)) (fun b o e => e) (fun b o e => kF.keep b o e) ?_
      intro h6 tk6 t6 st6
      have F6 := kF.keeps st6
      have N6 := News.st kN st6
      k_steps
      have e9 : (List.drop 0 ns).take (ns.length - 0) = ns := by simp
      rw [e9]
      exact hQ _ _ _ _ (TabSt.of N6 st' (by k_mem) (by k_mem) (by assumption) (by assumption)) (fun b o hb e => by
        by_cases h9 : b = c9
        · rw [h9, hc9] at e; cases e; rw [h9]; exact (N6 (c9, oc9) (by k_mem)).1
        · exact F6.keep b o (hg b o (by simpa using ⟨by simpa using hb, h9⟩) e))
    · rename News g L _ _ => N6
      rename Fr g L _ _ => F6
      rename ¬ 0 < ns.length => hz
      have e9 : ns = [] := List.eq_nil_of_length_eq_zero (by omega)
      k_steps
      have e8 : dval ns = 0 := by rw [e9]; rfl
      rw [e8] at hQ
      exact hQ _ _ _ _ (TabSt.of N6 st' (by k_mem) (by k_mem) (by assumption) (by assumption)) (fun b o hb e => by
        by_cases h9 : b = c9
        · rw [h9, hc9] at e; cases e; rw [h9]; exact (N6 (c9, oc9) (by k_mem)).1
        · exact F6.keep b o (hg b o (by simpa using ⟨by simpa using hb, h9⟩) e))
end
end Mine
namespace Mine
theorem rep_one {α : Type} (v : α) : ∀ k : Nat, (List.replicate k [v]).flatten = List.replicate k v
  | 0 => rfl
  | k + 1 => by rw [List.replicate_succ, List.flatten_cons, rep_one v k, List.replicate_succ]; rfl
theorem mul_rep {prog : Program} {w : World} {A : Around} {E : Value → Shared → Prop} {s : Shared} {h₀ : Heap} {L : Addr} {m : Str → Option Value} {news : List (Addr × Obj)} {l : Addr} {v : Value} {c k : Nat} {u : Tok} {Q : Value → Shared → Prop}
    (F : Fr h₀ L s.heap m) (N : News h₀ L s.heap news) (hm : (l, W.listOf #[v] c) ∈ news) (hk : k ≤ 16)
    (h : ∀ D h', Fr h₀ L h' m → News h₀ L h' ((D, W.listOf (List.replicate k v).toArray 0) :: news) → (∀ p ∈ news, p.1 < D) → Q (.ref D) { s with heap := h' }) :
    wpAny (model prog w) A (binaryOp .Mult (.ref l) (.int (k : Int) u)) Q E s :=
  KMa.mul F N (vs := [v]) ⟨_, (N _ hm).1, rfl, c, rfl⟩ (by omega) (by omega) (by simp only [List.length_cons, List.length_nil]; omega) (by rw [Int.toNat_natCast]; exact rep_one v k) h
theorem and_high (a s : Nat) : a &&& (a / 2 ^ s * 2 ^ s) = a / 2 ^ s * 2 ^ s := by
  apply Nat.eq_of_testBit_eq
  intro i
  rw [Nat.testBit_and, Nat.testBit_mul_two_pow, Nat.testBit_div_two_pow]
  by_cases h : s ≤ i
  · simp [h]
  · simp [h]
theorem low_eq (x : Int) (hx : 0 ≤ x) (s : Nat) : Builtin.bitXor x (x.fdiv (2 ^ s) * 2 ^ s) = x % 2 ^ s := by
  obtain ⟨a, rfl⟩ := Int.eq_ofNat_of_zero_le hx
  have e2 : ((2 : Int) ^ s) = ((2 ^ s : Nat) : Int) := by rw [Int.natCast_pow]; rfl
  have hp : (0 : Int) ≤ (2 ^ s : Int) := by rw [e2]; exact Int.natCast_nonneg _
  have ey : ((a : Int).fdiv (2 ^ s) * 2 ^ s) = ((a / 2 ^ s * 2 ^ s : Nat) : Int) := by
    rw [Int.fdiv_eq_ediv_of_nonneg _ hp, e2, ← Int.natCast_ediv, ← Int.natCast_mul]
  rw [bitXor_and, ey, bitAnd_pp (by omega) (by omega), Int.toNat_natCast, Int.toNat_natCast, and_high, e2]
  have := Nat.div_add_mod a (2 ^ s)
  rw [Nat.mul_comm] at this
  rw [← Int.natCast_emod]
  generalize a / 2 ^ s * 2 ^ s = y at *
  omega
/-- the lowest k binary figures, the lowest first -/
def bits (x : Int) : Nat → List Int
  | 0 => []
  | k + 1 => x % 2 :: bits (x / 2) k
theorem bits_len (x : Int) : ∀ k, (bits x k).length = k
  | 0 => rfl
  | k + 1 => by rw [bits, List.length_cons, bits_len]
theorem bits_add : ∀ (m n : Nat) (x : Int), bits x (m + n) = bits (x % 2 ^ m) m ++ bits (x / 2 ^ m) n
  | 0, n, x => by simp [bits]
  | m + 1, n, x => by
    have e : m + 1 + n = (m + n) + 1 := by omega
    rw [e, bits, bits_add m n, bits]
    have p : (0 : Int) < 2 ^ m := Int.pow_pos (by decide)
    have e1 : x % 2 ^ (m + 1) % 2 = x % 2 := by
      rw [Int.pow_succ, Int.mul_comm]; exact Int.emod_emod_of_dvd x (Int.dvd_mul_right 2 _)
    have e2 : x % 2 ^ (m + 1) / 2 = x / 2 % 2 ^ m := by
      rw [Int.pow_succ, Int.mul_comm, Int.emod_def, Int.emod_def, ← Int.ediv_ediv_of_nonneg (by decide), Int.mul_assoc]
      generalize (2 : Int) ^ m * (x / 2 / 2 ^ m) = t
      omega
    have e3 : x / 2 / 2 ^ m = x / 2 ^ (m + 1) := by
      rw [Int.pow_succ, Int.mul_comm, Int.ediv_ediv_of_nonneg (by decide)]
    rw [e1, e2, e3]
    rfl
theorem sh_toNat (m l : Nat) : ((((m : Nat) : Int) - (l : Int)) * 1).toNat = m - l := by omega
theorem len_three {l m k : Nat} (h : l < m) (h2 : m ≤ k) : min l k + (m - l) + (k - m) = k := by omega
theorem bits_set {xs : List Int} {l r : Nat} {x : Int} (h1 : l + 1 = r) (hr : r ≤ xs.length) (h0 : 0 ≤ x) (h2 : x < 2 ^ (r - l)) : xs.set l x = xs.take l ++ bits x (r - l) ++ xs.drop r := by
  subst h1
  have e : l + 1 - l = 1 := by omega
  rw [e] at h2 ⊢
  have e2 : x % 2 = x := by omega
  rw [bits, bits, e2, List.set_eq_take_append_cons_drop, if_pos (by omega)]
  simp
theorem bits_two {xs : List Int} {l m r : Nat} {x : Int} (h1 : l ≤ m) (h2 : m ≤ r) (h3 : r ≤ xs.length) :
    (xs.take l ++ bits (x % 2 ^ (m - l)) (m - l) ++ xs.drop m).take m ++ bits (x / 2 ^ (m - l)) (r - m) ++ (xs.take l ++ bits (x % 2 ^ (m - l)) (m - l) ++ xs.drop m).drop r = xs.take l ++ bits x (r - l) ++ xs.drop r := by
  have hl : (xs.take l ++ bits (x % 2 ^ (m - l)) (m - l)).length = m := by rw [List.length_append, List.length_take, bits_len]; omega
  have e : r - l = (m - l) + (r - m) := by omega
  rw [List.take_append_of_le_length (by omega), List.take_of_length_le (by omega), e, bits_add]
  rw [List.drop_append, List.drop_eq_nil_of_le (by omega), hl, List.nil_append, List.drop_drop]
  have e2 : m + (r - m) = r := by omega
  rw [e2]
  simp only [List.append_assoc]
theorem pow_nat (s : Nat) : (2 : Int) ^ s = ((2 ^ s : Nat) : Int) := by rw [Int.natCast_pow]; rfl
theorem pow_le16 {s : Nat} (h : s ≤ 16) : (2 : Int) ^ s ≤ 65536 := by
  have := Nat.pow_le_pow_right (n := 2) (by decide) h
  rw [pow_nat]; generalize (2 : Nat) ^ s = k at this; omega
theorem pow_pos2 (s : Nat) : (0 : Int) < 2 ^ s := Int.pow_pos (by decide)
theorem up_bounds {x : Int} {l m r : Nat} (h0 : 0 ≤ x) (h2 : x < 2 ^ (r - l)) (h1 : l ≤ m) (hm : m ≤ r) (h16 : r ≤ 16) : x < 65536 ∧ 0 ≤ x / 2 ^ (m - l) ∧ x / 2 ^ (m - l) < 65536 ∧ x / 2 ^ (m - l) < 2 ^ (r - m) ∧ 0 ≤ x % 2 ^ (m - l) ∧ x % 2 ^ (m - l) < 2 ^ (m - l) ∧ x.fdiv (2 ^ (m - l)) = x / 2 ^ (m - l) := by
  have a := pow_le16 (s := r - l) (by omega)
  have p1 := pow_pos2 (m - l)
  have p2 := pow_pos2 (r - m)
  have q0 := Int.ediv_nonneg h0 (Int.le_of_lt p1)
  have q1 := Int.ediv_le_self (2 ^ (m - l)) h0
  refine ⟨by omega, q0, by omega, ?_, Int.emod_nonneg _ (by omega), Int.emod_lt_of_pos _ p1, Int.fdiv_eq_ediv_of_nonneg _ (Int.le_of_lt p1)⟩
  refine Int.ediv_lt_of_lt_mul p1 ?_
  rw [← Int.pow_add]
  have : r - m + (m - l) = r - l := by omega
  rw [this]; exact h2
theorem Fr.keep1 {h₀ h h' : Heap} {L D : Addr} {o : Obj} {m : Str → Option Value} {news : List (Addr × Obj)} (F : Fr h₀ L h m) (N : News h₀ L h news) (hm : (D, o) ∈ news) (k : Keep [D] h h') : Fr h₀ L h' m :=
  Mine.Fr.keepS F k (fun a ha => by simp at ha; subst ha; exact (N _ hm).2.2) (fun hL => by simp at hL; exact (N _ hm).2.1 hL.symm)
theorem stays_keep1 {h₀ h h' : Heap} {L D : Addr} {o : Obj} {m : Str → Option Value} {news : List (Addr × Obj)} (F : Fr h₀ L h m) (N : News h₀ L h news) (hm : (D, o) ∈ news) (k : Keep [D] h h') : h₀.StaysIn h' :=
  stays_keepS F.keep k (fun a ha => by simp at ha; subst ha; exact (N _ hm).2.2)
theorem IntsAre_replicate (t : Tok) : ∀ (k : Nat), IntsAre (List.replicate k (.int 0 t)) (List.replicate k 0)
  | 0 => .nil
  | k + 1 => .cons 0 t (IntsAre_replicate t k)
theorem bits_lt {a : Int} (ha : 0 ≤ a) : a < 2 ^ (Builtin.Int.intBits a) := by
  have := PySem.intBits_le_iff.mp (Nat.le_refl (Builtin.Int.intBits a))
  rw [pow_nat]; generalize (2 : Nat) ^ (Builtin.Int.intBits a) = k at *; omega
theorem news_set2 {h₀ h h' : Heap} {L D f c : Addr} {o o' of oc : Obj} {post : List (Addr × Obj)} (N : News h₀ L h ((f, of) :: (c, oc) :: (D, o) :: post)) (h1 : @Ne Nat f D) (h2 : @Ne Nat c D) (h3 : ∀ a ∈ post.map (·.1), a < D) (k : Keep [D] h h') (ho : h'.get? D = some o') : News h₀ L h' ((f, of) :: (c, oc) :: (D, o') :: post) :=
  news_setK (pre := [(f, of), (c, oc)]) N (fun p hp => by
    rcases List.mem_cons.mp hp with rfl | hp
    · exact h1
    · rcases List.mem_cons.mp hp with rfl | hp
      · exact h2
      · exact nomatch hp) (fun p hp => Nat.ne_of_lt (h3 _ (List.mem_map.mpr ⟨p, hp, rfl⟩))) k ho
theorem with_two {h₀ h : Heap} {L f c : Addr} {o oc : Obj} {news : List (Addr × Obj)} (_N : News h₀ L h ((f, o) :: (c, oc) :: news)) {C : Prop} (k : ∀ f' c', f' = f → c' = c → C) : C := k f c rfl rfl
theorem news_set1 {h₀ h h' : Heap} {L D f : Addr} {o o' of : Obj} {post : List (Addr × Obj)} (N : News h₀ L h ((f, of) :: (D, o) :: post)) (h1 : @Ne Nat f D) (h3 : ∀ a ∈ post.map (·.1), a < D) (k : Keep [D] h h') (ho : h'.get? D = some o') : News h₀ L h' ((f, of) :: (D, o') :: post) :=
  news_setK (pre := [(f, of)]) N (fun p hp => by
    rcases List.mem_cons.mp hp with rfl | hp
    · exact h1
    · exact nomatch hp) (fun p hp => Nat.ne_of_lt (h3 _ (List.mem_map.mpr ⟨p, hp, rfl⟩))) k ho
theorem lt_map {D : Addr} {l : List (Addr × Obj)} (h : ∀ p ∈ l, p.1 < D) : ∀ a ∈ l.map (·.1), a < D := fun a ha => by
  obtain ⟨p, hp, rfl⟩ := List.mem_map.mp ha
  exact h p hp
theorem keep_pp {h g h' : Heap} {L D : Addr} {o o' : Obj} {pre post : List (Addr × Obj)} {m : Str → Option Value} (hg : Keep ((pre ++ (D, o) :: post).map (·.1)) h g) (F : Fr g L h' m) (N : News g L h' (pre ++ (D, o') :: post)) (hm : ∀ p ∈ pre ++ (D, o) :: post, h.get? p.1 = some p.2) : Keep [D] h h' :=
  keep_one hg F N hm (fun p hp hne => by
    rcases List.mem_append.mp hp with hp | hp
    · exact List.mem_append.mpr (.inl hp)
    · rcases List.mem_cons.mp hp with rfl | hp
      · exact absurd rfl hne
      · exact List.mem_append.mpr (.inr (.tail _ hp)))
section
variable {w : World} {B : Heap} {p : Program} {loose : List Str} {mean : ExcName → Option Value} {mg mb : Str → Option Value} {A : Around} {s : Shared} {Q E : Value → Shared → Prop}

abbrev TabI (B h : Heap) : Prop := TabSt B 62 ⟨63, 4, 83, 0⟩ (Str.ofString "_int2digits.<locals>.inner") h

theorem int2_c {a : Int} {t t1 : Tok} (X : (hd.heap_1 w.params).In B) (T : Top p loose mean mg mb B) (hA : Room A 30) (st : B.StaysIn s.heap) (hB : B.get? 62 = none) (hC : CodeHd B 66 62) (hT : TabI B s.heap)
    (ha : 0 ≤ a) (ha2 : a < 65536)
    (hQ : ∀ h' d' tk' D us e, TabI B h' → Keep [62] s.heap h' → h'.get? D = some (W.listOf us.toArray e) → s.heap.get? D = none → IntsAre us (bits a (Builtin.Int.intBits a)) → Q (.ref D) { s with heap := h', drawn := d', toks := tk' }) :
    wpAny (model PySem.Challenge.rw_un0043_01.row.toRowW.prog w) A (call (.ref 67) [.int a t, .int 1 t1]) Q E s := by
  revert X; k_fill; intro X
  have Xs : (hd.heap_1 w.params).In s.heap := fun a o e => st a o (X a o e)
  refine wpAny_call ?_
  rcases hT with h48 | ⟨c9, oc9, vs9, t9, h48, hc9, hd9, hv9, hB9⟩
  · k_dflt (refine' enterC [(62, tabObj #[])] X T hA st ?hm ?ho ?hcd ?hb ?hl ?hnd ?_ ?h1 ?h2 ?h3; (case hm => simpa using ⟨h48, hB⟩); (case ho => k_is); (case hcd => k_is); (case hb => first | exact BindsTo.of_eq rfl | exact binds_K Xs rfl (by k_is) rfl rfl rfl); (case hl => exact rfl); (case hnd => decide +kernel); (case h1 => exact rfl); (case h2 => exact rfl); (case h3 => exact rfl))
    intro g L h₁ tk cells hg hL F N Y X' T' st' hA'
    k_cells Y
    simp only [List.cons_append, List.nil_append] at N
    have hC' := hC.keeps st'
    have l48 := hL _ _ h48
    replace F : Fr g L h₁ (fun y => if y = Str.ofString "a" then some (.int a t) else none) := F
    show wpAny _ _ _ _ _ _
    k_fold
    k_steps
    rw [show ((((Builtin.Int.intBits a : Nat) : Int) + 1 - 1).fdiv 1) = ((Builtin.Int.intBits a : Nat) : Int) from by rw [Int.fdiv_eq_ediv_of_nonneg _ (by decide)]; omega]
    have hk16 : Builtin.Int.intBits a ≤ 16 := intBits_le (by omega)
    generalize hka : Builtin.Int.intBits a = k at hk16
    rename Fr g L _ _ => F9
    rename News g L _ _ => N9
    refine mul_rep F9 N9 (by k_mem) hk16 ?_
    intro D h' F' N' l1
    have lD := lt_map l1
    k_lt l1
    clear F9 N9
    k_steps
    · rename Fr g L _ _ => FH
      rename News g L _ _ => NH
      refine KM.len_K NH (by k_mem) (n := k) (by simp) (by omega) ?_
      k_steps
      refine with_heap NH fun hN hE => ?_
      subst hE
      refine with_two NH fun fi ci hE hE2 => ?_
      subst hE
      subst hE2
      have fD : @Ne Nat fi D := by omega
      have cD : @Ne Nat ci D := by omega
      have key : ∀ (j l r : Nat) (A : Around) (s2 : Shared) (Q2 E2 : Value → Shared → Prop) (t0 t1 t2 : Tok) (x : Int) (us : List Value) (xs : List Int) (e : Nat), r - l ≤ j → l < r → r ≤ k → xs.length = k → IntsAre us xs → 0 ≤ x → x < 2 ^ (r - l) → Room A (j + 1) →
          Keep [D] hN s2.heap → s2.heap.get? D = some (W.listOf us.toArray e) → g.StaysIn s2.heap →
          (∀ h2 tk2 us' e', Keep [D] s2.heap h2 → h2.get? D = some (W.listOf us'.toArray e') → IntsAre us' (xs.take l ++ bits x (r - l) ++ xs.drop r) → Q2 .none { s2 with heap := h2, toks := tk2 }) →
          wpAny (model PySem.Challenge.rw_un0043_01.row.toRowW.prog w) A (call (.ref fi) [.int x t0, .int (l : Int) t1, .int (r : Int) t2]) Q2 E2 s2 := by
        clear hQ qk ek
        intro j
        induction j with
        | zero => intros; omega
        | succ j ih =>
          intro l r A s2 Q2 E2 t0 t1 t2 x us xs e hj hlr hr hxs hus hx0 hx2 hA2 hs2 hD2 hg2 hQ2
          have N2 := news_set2 NH fD cD lD hs2 hD2
          refine wpAny_call ?_
          k_dflt (refine' enterG X' T' hA2 N2 hg2 (fun b o e => e) ?ho ?hcd ?hb ?hl ?_ ?hc ?h1 ?h2 ?h3; (case ho => k_mem); (case hcd => exact codeRec_news N2 (by k_mem) (by assumption) (by assumption)); (case hb => exact BindsTo.of_eq rfl); (case hl => exact locs rfl); (case hc => decide); (case h1 => exact rfl); (case h2 => exact rfl); (case h3 => exact rfl))
          intro g3 L3 h3 hk3 st3 F3 N3 X3 T3 l3 hA3
          k_lt l3
          replace F3 : Fr g3 L3 h3 (fun y => List.lookup y [(Str.ofString "R", Value.int r t2), (Str.ofString "L", Value.int l t1), (Str.ofString "x", Value.int x t0)]) := F3
          show wpAny _ _ _ _ _ _
          k_fold
          k_steps
          · rename (l : Int) + 1 = (r : Int) => hlr1
            rename Fr g3 L3 _ _ => F4
            rename News g3 L3 _ _ => N4
            rename IntsAre (List.set _ _ _) _ => I4
            rw [Int.toNat_natCast, bits_set (by omega) (by omega) hx0 hx2] at I4
            rw [Int.toNat_natCast] at N4
            exact hQ2 _ _ _ _ (keep_pp (pre := [_, _]) hk3 F4 N4 (fun p hp => (N2 p hp).1)) (N4 (D, _) (by k_mem)).1 I4
          · rename ¬ (l : Int) + 1 = (r : Int) => hlr1
            rw [half_int]
            rename Fr g3 L3 _ _ => F4
            rename News g3 L3 _ _ => N4
            rw [half_int] at F4
            obtain ⟨m, hm, hlm, hmr, hmj, hrj⟩ : ∃ m : Nat, (l + r) / 2 = m ∧ l < m ∧ m < r ∧ m - l ≤ j ∧ r - m ≤ j := ⟨_, rfl, mid_ok hj hlr hlr1⟩
            have hrk := Nat.le_trans (Nat.le_of_lt hmr) hr
            rw [hm] at F4
            rw [hm]
            have esh : ((((m : Nat) : Int) - (l : Int)) * 1).toNat = m - l := sh_toNat m l
            refine rshift_int (by omega) ?_
            rw [esh]
            obtain ⟨u1, u2, u3, u4, u5, u6, u7⟩ := up_bounds hx0 hx2 (Nat.le_of_lt hlm) (Nat.le_of_lt hmr) (by omega)
            have lo := low_eq x hx0 (m - l)
            k_steps
            rename Fr g3 L3 _ _ => F9
            rename News g3 L3 _ _ => N9
            rw [esh, lo]
            have hDk := keep_pp (pre := [_, _]) hk3 F9 N9 (fun p hp => (N2 p hp).1)
            refine ih l m _ _ _ _ _ _ _ _ us xs e hmj hlm hrk hxs hus u5 u6 hA3 (hs2.trans hDk) (N9 (D, _) (by k_mem)).1 (stays_keepS hg2 hDk (fun a ha => by rw [List.mem_singleton] at ha; rw [ha]; exact (N2 (D, _) (by k_mem)).2.2)) ?_
            intro h4 tk4 us4 e4 k4 hD4 I4
            have F10 := Fr.keep1 F9 N9 (o := W.listOf us.toArray e) (by k_mem) k4
            have N10 := news_set2 N9 fD cD lD k4 hD4
            clear F9 N9
            have hsD4 := hDk.trans k4
            k_steps
            rename Fr g3 L3 _ _ => F9
            rename News g3 L3 _ _ => N9
            rw [u7]
            have hDk2 := keep_pp (pre := [_, _]) hk3 F9 N9 (fun p hp => (N2 p hp).1)
            refine ih m r _ _ _ _ _ _ _ _ us4 _ e4 hrj hmr hr (by rw [List.length_append, List.length_append, List.length_take, bits_len, List.length_drop, hxs]; exact len_three hlm hrk) I4 u2 u4 hA3 (hs2.trans hDk2) (N9 (D, _) (by k_mem)).1 (stays_keepS hg2 hDk2 (fun a ha => by rw [List.mem_singleton] at ha; rw [ha]; exact (N2 (D, _) (by k_mem)).2.2)) ?_
            intro h5 tk5 us5 e5 k5 hD5 I5
            rw [bits_two (Nat.le_of_lt hlm) (Nat.le_of_lt hmr) (by rw [hxs]; exact hr)] at I5
            k_steps
            exact hQ2 _ _ _ _ (hDk2.trans k5) hD5 I5
      have klt : a < 2 ^ k := hka ▸ bits_lt ha
      refine key k 0 k _ _ _ _ _ _ _ a _ (List.replicate k 0) _ (by omega) (by rename ¬ a = 0 => hz; cases k with | zero => simp at klt; omega | succ k => omega) (Nat.le_refl _) (by simp) (IntsAre_replicate _ _) ha klt (hA'.mono (by omega)) keep_refl (NH (D, _) (by k_mem)).1 (fun b o e => FH.keep b o e) ?_
      intro h6 tk6 us6 e6 k6 hD6 I6
      have F6 := Fr.keep1 FH NH (by k_mem) k6
      have N6 := news_set2 NH fD cD lD k6 hD6
      rw [Nat.sub_zero, List.take_zero, List.nil_append, List.drop_replicate, Nat.sub_self, List.replicate_zero, List.append_nil] at I6
      k_steps
      rename News g L _ _ => N7
      exact hQ _ _ _ _ _ _ (TabSt.of N7 st' (by k_mem) (by k_mem) (by assumption) (by assumption)) (fun b o hb e => F6.keep b o (hg b o hb e)) (N7 (D, _) (by k_mem)).1 (by cases q : s.heap.get? D with | none => rfl | some o => exact absurd (hL _ _ q) (by omega)) (by rw [hka]; exact I6)
    · rename a = 0 => hz
      have hk0 : k = 0 := by rw [← hka, hz]; rfl
      k_steps
      rename News g L _ _ => N7
      rename Fr g L _ _ => F6
      exact hQ _ _ _ _ _ _ (TabSt.of N7 st' (by k_mem) (by k_mem) (by assumption) (by assumption)) (fun b o hb e => F6.keep b o (hg b o hb e)) (N7 (D, _) (by k_mem)).1 (by cases q : s.heap.get? D with | none => rfl | some o => exact absurd (hL _ _ q) (by omega)) (by rw [hka, hk0]; exact .nil)
  · k_dflt (refine' enterC [(62, tabObj #[rawInt ((63 : Nat) : Int), rawInt ((4 : Nat) : Int), .ref c9]), (c9, oc9)] X T hA st ?hm ?ho ?hcd ?hb ?hl ?hnd ?_ ?h1 ?h2 ?h3; (case hm => simpa using ⟨⟨h48, hB⟩, hc9, hB9⟩); (case ho => k_is); (case hcd => k_is); (case hb => first | exact BindsTo.of_eq rfl | exact binds_K Xs rfl (by k_is) rfl rfl rfl); (case hl => exact rfl); (case hnd => decide +kernel); (case h1 => exact rfl); (case h2 => exact rfl); (case h3 => exact rfl))
    intro g L h₁ tk cells hg hL F N Y X' T' st' hA'
    k_cells Y
    simp only [List.cons_append, List.nil_append] at N
    have hC' := hC.keeps st'
    have l48 := hL _ _ h48
    have l9 := hL _ _ hc9
    have n9 : @Ne Nat c9 62 := by rintro rfl; rw [h48] at hc9; cases hc9; cases hd9; cases hv9
    replace F : Fr g L h₁ (fun y => if y = Str.ofString "a" then some (.int a t) else none) := F
    show wpAny _ _ _ _ _ _
    k_fold
    k_steps
    rw [show ((((Builtin.Int.intBits a : Nat) : Int) + 1 - 1).fdiv 1) = ((Builtin.Int.intBits a : Nat) : Int) from by rw [Int.fdiv_eq_ediv_of_nonneg _ (by decide)]; omega]
    have hk16 : Builtin.Int.intBits a ≤ 16 := intBits_le (by omega)
    generalize hka : Builtin.Int.intBits a = k at hk16
    rename Fr g L _ _ => F9
    rename News g L _ _ => N9
    refine mul_rep F9 N9 (by k_mem) hk16 ?_
    intro D h' F' N' l1
    have lD := lt_map l1
    k_lt l1
    clear F9 N9
    k_steps
    · rename Fr g L _ _ => FH
      rename News g L _ _ => NH
      refine KM.len_K NH (by k_mem) (n := k) (by simp) (by omega) ?_
      k_steps
      refine with_heap NH fun hN hE => ?_
      subst hE
      refine with_first NH fun fi hE => ?_
      subst hE
      have fD : @Ne Nat fi D := by omega
      have key : ∀ (j l r : Nat) (A : Around) (s2 : Shared) (Q2 E2 : Value → Shared → Prop) (t0 t1 t2 : Tok) (x : Int) (us : List Value) (xs : List Int) (e : Nat), r - l ≤ j → l < r → r ≤ k → xs.length = k → IntsAre us xs → 0 ≤ x → x < 2 ^ (r - l) → Room A (j + 1) →
          Keep [D] hN s2.heap → s2.heap.get? D = some (W.listOf us.toArray e) → g.StaysIn s2.heap →
          (∀ h2 tk2 us' e', Keep [D] s2.heap h2 → h2.get? D = some (W.listOf us'.toArray e') → IntsAre us' (xs.take l ++ bits x (r - l) ++ xs.drop r) → Q2 .none { s2 with heap := h2, toks := tk2 }) →
          wpAny (model PySem.Challenge.rw_un0043_01.row.toRowW.prog w) A (call (.ref fi) [.int x t0, .int (l : Int) t1, .int (r : Int) t2]) Q2 E2 s2 := by
        clear hQ qk ek
        intro j
        induction j with
        | zero => intros; omega
        | succ j ih =>
          intro l r A s2 Q2 E2 t0 t1 t2 x us xs e hj hlr hr hxs hus hx0 hx2 hA2 hs2 hD2 hg2 hQ2
          have N2 := news_set1 NH fD lD hs2 hD2
          refine wpAny_call ?_
          k_dflt (refine' enterG X' T' hA2 N2 hg2 (fun b o e => e) ?ho ?hcd ?hb ?hl ?_ ?hc ?h1 ?h2 ?h3; (case ho => k_mem); (case hcd => exact codeRec_news N2 (by k_mem) (by assumption) (by assumption)); (case hb => exact BindsTo.of_eq rfl); (case hl => exact locs rfl); (case hc => decide); (case h1 => exact rfl); (case h2 => exact rfl); (case h3 => exact rfl))
          intro g3 L3 h3 hk3 st3 F3 N3 X3 T3 l3 hA3
          k_lt l3
          replace F3 : Fr g3 L3 h3 (fun y => List.lookup y [(Str.ofString "R", Value.int r t2), (Str.ofString "L", Value.int l t1), (Str.ofString "x", Value.int x t0)]) := F3
          show wpAny _ _ _ _ _ _
          k_fold
          k_steps
          · rename (l : Int) + 1 = (r : Int) => hlr1
            rename Fr g3 L3 _ _ => F4
            rename News g3 L3 _ _ => N4
            rename IntsAre (List.set _ _ _) _ => I4
            rw [Int.toNat_natCast, bits_set (by omega) (by omega) hx0 hx2] at I4
            rw [Int.toNat_natCast] at N4
            exact hQ2 _ _ _ _ (keep_pp (pre := [_]) hk3 F4 N4 (fun p hp => (N2 p hp).1)) (N4 (D, _) (by k_mem)).1 I4
          · rename ¬ (l : Int) + 1 = (r : Int) => hlr1
            rw [half_int]
            rename Fr g3 L3 _ _ => F4
            rename News g3 L3 _ _ => N4
            rw [half_int] at F4
            obtain ⟨m, hm, hlm, hmr, hmj, hrj⟩ : ∃ m : Nat, (l + r) / 2 = m ∧ l < m ∧ m < r ∧ m - l ≤ j ∧ r - m ≤ j := ⟨_, rfl, mid_ok hj hlr hlr1⟩
            have hrk := Nat.le_trans (Nat.le_of_lt hmr) hr
            rw [hm] at F4
            rw [hm]
            have esh : ((((m : Nat) : Int) - (l : Int)) * 1).toNat = m - l := sh_toNat m l
            refine rshift_int (by omega) ?_
            rw [esh]
            obtain ⟨u1, u2, u3, u4, u5, u6, u7⟩ := up_bounds hx0 hx2 (Nat.le_of_lt hlm) (Nat.le_of_lt hmr) (by omega)
            have lo := low_eq x hx0 (m - l)
            k_steps
            rename Fr g3 L3 _ _ => F9
            rename News g3 L3 _ _ => N9
            rw [esh, lo]
            have hDk := keep_pp (pre := [_]) hk3 F9 N9 (fun p hp => (N2 p hp).1)
            refine ih l m _ _ _ _ _ _ _ _ us xs e hmj hlm hrk hxs hus u5 u6 hA3 (hs2.trans hDk) (N9 (D, _) (by k_mem)).1 (stays_keepS hg2 hDk (fun a ha => by rw [List.mem_singleton] at ha; rw [ha]; exact (N2 (D, _) (by k_mem)).2.2)) ?_
            intro h4 tk4 us4 e4 k4 hD4 I4
            have F10 := Fr.keep1 F9 N9 (o := W.listOf us.toArray e) (by k_mem) k4
            have N10 := news_set1 N9 fD lD k4 hD4
            clear F9 N9
            have hsD4 := hDk.trans k4
            k_steps
            rename Fr g3 L3 _ _ => F9
            rename News g3 L3 _ _ => N9
            rw [u7]
            have hDk2 := keep_pp (pre := [_]) hk3 F9 N9 (fun p hp => (N2 p hp).1)
            refine ih m r _ _ _ _ _ _ _ _ us4 _ e4 hrj hmr hr (by rw [List.length_append, List.length_append, List.length_take, bits_len, List.length_drop, hxs]; exact len_three hlm hrk) I4 u2 u4 hA3 (hs2.trans hDk2) (N9 (D, _) (by k_mem)).1 (stays_keepS hg2 hDk2 (fun a ha => by rw [List.mem_singleton] at ha; rw [ha]; exact (N2 (D, _) (by k_mem)).2.2)) ?_
            intro h5 tk5 us5 e5 k5 hD5 I5
            rw [bits_two (Nat.le_of_lt hlm) (Nat.le_of_lt hmr) (by rw [hxs]; exact hr)] at I5
            k_steps
            exact hQ2 _ _ _ _ (hDk2.trans k5) hD5 I5
      have klt : a < 2 ^ k := hka ▸ bits_lt ha
      refine key k 0 k _ _ _ _ _ _ _ a _ (List.replicate k 0) _ (by omega) (by rename ¬ a = 0 => hz; cases k with | zero => simp at klt; omega | succ k => omega) (Nat.le_refl _) (by simp) (IntsAre_replicate _ _) ha klt (hA'.mono (by omega)) keep_refl (NH (D, _) (by k_mem)).1 (fun b o e => FH.keep b o e) ?_
      intro h6 tk6 us6 e6 k6 hD6 I6
      have F6 := Fr.keep1 FH NH (by k_mem) k6
      have N6 := news_set1 NH fD lD k6 hD6
      rw [Nat.sub_zero, List.take_zero, List.nil_append, List.drop_replicate, Nat.sub_self, List.replicate_zero, List.append_nil] at I6
      k_steps
      rename News g L _ _ => N7
      exact hQ _ _ _ _ _ _ (TabSt.of N7 st' (by k_mem) (by k_mem) (by assumption) (by assumption)) (fun b o hb e => by
        by_cases h9 : b = c9
        · rw [h9, hc9] at e; cases e; rw [h9]; exact (N7 (c9, oc9) (by k_mem)).1
        · exact F6.keep b o (hg b o (by simpa using ⟨by simpa using hb, h9⟩) e)) (N7 (D, _) (by k_mem)).1 (by cases q : s.heap.get? D with | none => rfl | some o => exact absurd (hL _ _ q) (by omega)) (by rw [hka]; exact I6)
    · rename a = 0 => hz
      have hk0 : k = 0 := by rw [← hka, hz]; rfl
      k_steps
      rename News g L _ _ => N7
      rename Fr g L _ _ => F6
      exact hQ _ _ _ _ _ _ (TabSt.of N7 st' (by k_mem) (by k_mem) (by assumption) (by assumption)) (fun b o hb e => by
        by_cases h9 : b = c9
        · rw [h9, hc9] at e; cases e; rw [h9]; exact (N7 (c9, oc9) (by k_mem)).1
        · exact F6.keep b o (hg b o (by simpa using ⟨by simpa using hb, h9⟩) e)) (N7 (D, _) (by k_mem)).1 (by cases q : s.heap.get? D with | none => rfl | some o => exact absurd (hL _ _ q) (by omega)) (by rw [hka, hk0]; exact .nil)
end
end Mine
namespace Mine
/-- the walk halts here -/
def Halt (P : Prop) : Prop := P
theorem halt_of {P : Prop} (h : Halt P) : P := h
end Mine
--LINES
local macro_rules | `(tactic| walk_at "InvEndN") => `(tactic| (k_here; k_dflt (refine Mine.halt_of ?_)))
--END
namespace Mine
/-- a text of its letters' numbers -/
def sS (l : List Nat) : Str := ⟨l.toArray⟩
theorem sS_app (a b : List Nat) : sS a ++ sS b = sS (a ++ b) := by
  show Str.append _ _ = _
  simp [Str.append, sS]
theorem sS_app' (a b : List Nat) : Str.append (sS a) (sS b) = sS (a ++ b) := sS_app a b
theorem sS_len (a : List Nat) : (sS a).length = a.length := by simp [Str.length, sS]
theorem sS_inj {a b : List Nat} (h : sS a = sS b) : a = b := by
  have := congrArg (fun x : Str => x.cps.toList) h
  simpa [sS] using this
theorem sB : Str.ofString "b" = sS [98] := by decide
theorem sA : Str.ofString "a" = sS [97] := by decide
theorem sE : Str.ofString "" = sS [] := by decide
/-- the places of the ones below k, the highest first -/
def desc (n : Nat) : Nat → List Nat
  | 0 => []
  | k + 1 => if n.testBit k then k :: desc n k else desc n k
def wlF : Nat → Nat → List Nat
  | 0, _ => [98, 97]
  | d + 1, n => 98 :: (desc n 16).flatMap (wlF d) ++ [97]
/-- the word of a number -/
def wl (n : Nat) : List Nat := wlF 4 n
theorem wl_small : ∀ k, k < 16 → wlF 3 k = wl k := by decide
theorem desc_lt {n k : Nat} : ∀ {m : Nat}, k ∈ desc n m → k < m
  | 0, h => nomatch h
  | m + 1, h => by
    rw [desc] at h
    split at h
    · rcases List.mem_cons.mp h with rfl | h
      · omega
      · have := desc_lt h; omega
    · have := desc_lt h; omega
theorem flatMap_congr' {f g : Nat → List Nat} : ∀ {l : List Nat}, (∀ k ∈ l, f k = g k) → l.flatMap f = l.flatMap g
  | [], _ => rfl
  | k :: l, h => by rw [List.flatMap_cons, List.flatMap_cons, h k (.head _), flatMap_congr' fun x hx => h x (.tail _ hx)]
theorem wl_eq (n : Nat) : wl n = 98 :: (desc n 16).flatMap wl ++ [97] := by
  show 98 :: (desc n 16).flatMap (wlF 3) ++ [97] = _
  rw [flatMap_congr' fun k hk => wl_small k (desc_lt hk)]
theorem desc_high {n m : Nat} (h : n < 2 ^ m) : ∀ j, desc n (m + j) = desc n m
  | 0 => rfl
  | j + 1 => by
    rw [← Nat.add_assoc, desc, if_neg, desc_high h j]
    rw [Nat.testBit_lt_two_pow (Nat.lt_of_lt_of_le h (Nat.pow_le_pow_right (by decide) (by omega)))]
    decide
theorem desc_eq {n m : Nat} (h : n < 2 ^ m) (hm : m ≤ 16) : desc n 16 = desc n m := by
  have := desc_high h (16 - m)
  rwa [show m + (16 - m) = 16 by omega] at this
theorem wl_len16 : ∀ k, k < 16 → (wl k).length ≤ 36 := by decide
theorem flat_len {f : Nat → List Nat} {c : Nat} : ∀ {l : List Nat}, (∀ k ∈ l, (f k).length ≤ c) → (l.flatMap f).length ≤ c * l.length
  | [], _ => by simp
  | k :: l, h => by
    rw [List.flatMap_cons, List.length_append, List.length_cons]
    have a := h k (.head _)
    have b := flat_len (c := c) (l := l) fun x hx => h x (.tail _ hx)
    rw [Nat.mul_add]; omega
theorem desc_len (n : Nat) : ∀ m, (desc n m).length ≤ m
  | 0 => Nat.le_refl _
  | m + 1 => by
    rw [desc]
    have := desc_len n m
    split
    · rw [List.length_cons]; omega
    · omega
theorem wl_len (n : Nat) : (wl n).length ≤ 600 := by
  rw [wl_eq, List.length_append, List.length_cons]
  have a := flat_len (f := wl) (c := 36) (l := desc n 16) fun k hk => wl_len16 k (desc_lt hk)
  have b := desc_len n 16
  show _ + 1 + 1 ≤ 600
  omega
theorem wl_ab16 : ∀ k, k < 16 → ∀ c ∈ wl k, c = 97 ∨ c = 98 := by decide
theorem wl_ab (n : Nat) : ∀ c ∈ wl n, c = 97 ∨ c = 98 := by
  intro c hc
  rw [wl_eq] at hc
  simp only [List.cons_append, List.mem_cons, List.mem_append, List.mem_flatMap, List.mem_singleton, List.not_mem_nil, or_false] at hc
  rcases hc with rfl | ⟨k, hk, hc⟩ | rfl
  · exact .inr rfl
  · exact wl_ab16 k (desc_lt hk) c hc
  · exact .inl rfl
def tow : Nat → Nat
  | 0 => 1
  | d + 1 => 2 ^ tow d
theorem fr_at {h₀ h : Heap} {L : Addr} {m : Str → Option Value} (_F : Fr h₀ L h m) {y : Str} {v : Tok → Value} {t : Tok} (e : m y = some (v t)) {C : Prop} (k : ∀ t', m y = some (v t') → C) : C := k t e
section
variable {w : World} {B : Heap} {p : Program} {loose : List Str} {mean : ExcName → Option Value} {mg mb : Str → Option Value} {A : Around} {s : Shared} {Q E : Value → Shared → Prop}

theorem spelled_c {x : Str} {t t1 : Tok} {n : Int} (X : (hd.heap_1 w.params).In B) (T : Top p loose mean mg mb B) (hA : Room A 3) (st : B.StaysIn s.heap) (hx : x.length ≤ 700) (hn0 : 0 ≤ n) (hn : n < 1000)
    (hQ : ∀ h' tk' t', s.heap.StaysIn h' → Q (.str (if n % 2 = 0 then Txt.upper x else x) t') { s with heap := h', toks := tk' }) :
    wpAny (model PySem.Challenge.rw_un0043_01.row.toRowW.prog w) A (call (.ref 309) [.str x t, .int n t1]) Q E s := by
  revert X; k_fill; intro X
  have Xs : (hd.heap_1 w.params).In s.heap := fun a o e => st a o (X a o e)
  refine wpAny_call ?_
  k_dflt (refine' enterM [] X T hA st ?hm ?ho ?hcd ?hb ?hl ?_ ?hc ?h1 ?h2 ?h3; (case hm => exact fun _ h => nomatch h); (case ho => k_is); (case hcd => k_is); (case hb => first | exact BindsTo.of_eq rfl | exact binds_K Xs rfl (by k_is) rfl rfl rfl); (case hl => exact locs rfl); (case hc => decide); (case h1 => exact rfl); (case h2 => exact rfl); (case h3 => exact rfl))
  intro g L h₁ hg hL F N X' T' st' hA'
  replace F : Fr g L h₁ (fun y => List.lookup y [(Str.ofString "place", .int n t1), (Str.ofString "word", .str x t)]) := F
  show wpAny _ _ _ _ _ _
  k_fold
  k_steps
  · rename n.fmod 2 = 0 => h2
    rw [Int.fmod_eq_emod_of_nonneg _ (by decide)] at h2
    rw [if_pos h2] at hQ
    exact hQ _ _ _ fun b o e => F.keep b o (hg b o (fun h => nomatch h) e)
  · rename n.fmod 2 ≠ 0 => h2
    rw [Int.fmod_eq_emod_of_nonneg _ (by decide)] at h2
    rw [if_neg h2] at hQ
    exact hQ _ _ _ fun b o e => F.keep b o (hg b o (fun h => nomatch h) e)

theorem tow_le : ∀ d, d ≤ 4 → tow d ≤ 65536 := by decide
theorem bit_iff {n k : Nat} : (((n : Int).fdiv (2 ^ k)).fmod 2 = 1) ↔ n.testBit k = true := by
  rw [Int.fdiv_eq_ediv_of_nonneg _ (Int.le_of_lt (pow_pos2 k)), Int.fmod_eq_emod_of_nonneg _ (by decide), pow_nat, ← Int.natCast_ediv, Nat.testBit_eq_decide_div_mod_eq, decide_eq_true_iff]
  generalize n / 2 ^ k = q
  omega
theorem down_flat {f : Int → List Nat} {n K : Nat} : (downKs ((K : Int) - 1) K).flatMap (fun k => if n.testBit k.toNat then f k else []) = (desc n K).flatMap fun k => f (k : Nat) := by
  have e : ∀ K : Nat, downKs ((K : Int) - 1) K = ((List.range K).map fun i => (((K - 1 - i : Nat)) : Int)) := fun K => by
    unfold downKs
    refine List.map_congr_left fun i hi => ?_
    have := List.mem_range.mp hi
    omega
  rw [e]
  induction K with
  | zero => rfl
  | succ K ih =>
    rw [List.range_succ_eq_map, List.map_cons, List.flatMap_cons, List.map_map, desc]
    have e2 : (List.range K).map ((fun i => ((K + 1 - 1 - i : Nat) : Int)) ∘ Nat.succ) = (List.range K).map fun i => ((K - 1 - i : Nat) : Int) := by
      refine List.map_congr_left fun i hi => ?_
      have := List.mem_range.mp hi
      show ((K + 1 - 1 - (i + 1) : Nat) : Int) = _
      congr 1
      omega
    rw [e2, ih]
    have e3 : ((K + 1 - 1 - 0 : Nat) : Int) = (K : Nat) := by congr 1
    rw [e3, Int.toNat_natCast]
    split
    · rfl
    · rfl
theorem flat_le (n : Nat) : ∀ (ks : List Int), (∀ k ∈ ks, k.toNat < 16) → (ks.flatMap (fun k => if n.testBit k.toNat then wl k.toNat else [])).length ≤ 36 * ks.length
  | [], _ => by simp
  | k :: r, h => by
    rw [List.flatMap_cons, List.length_append, List.length_cons]
    have b := flat_le n r fun x hx => h x (.tail _ hx)
    have a := wl_len16 k.toNat (h k (.head _))
    split
    · omega
    · show 0 + _ ≤ _
      omega
theorem unfold_c {n : Nat} {t : Tok} {d : Nat} (X : (hd.heap_1 w.params).In B) (T : Top p loose mean mg mb B) (hA : Room A (d + 3)) (st : B.StaysIn s.heap) (hn : n < tow d) (hd4 : d ≤ 4)
    (hQ : ∀ h' tk' t', s.heap.StaysIn h' → Q (.str (sS (wl n)) t') { s with heap := h', toks := tk' }) :
    wpAny (model PySem.Challenge.rw_un0043_01.row.toRowW.prog w) A (call (.ref 328) [.int n t]) Q E s := by
  have X0 := X
  revert X; k_fill; intro X
  induction d using Nat.strongRecOn generalizing n t A s Q E with
  | ind d ih =>
  have Xs : (hd.heap_1 w.params).In s.heap := fun a o e => st a o (X a o e)
  refine wpAny_call ?_
  k_dflt (refine' enterM [] X T hA st ?hm ?ho ?hcd ?hb ?hl ?_ ?hc ?h1 ?h2 ?h3; (case hm => exact fun _ h => nomatch h); (case ho => k_is); (case hcd => k_is); (case hb => first | exact BindsTo.of_eq rfl | exact binds_K Xs rfl (by k_is) rfl rfl rfl); (case hl => exact locs rfl); (case hc => decide); (case h1 => exact rfl); (case h2 => exact rfl); (case h3 => exact rfl))
  intro g L h₁ hg hL F N X' T' st' hA'
  replace F : Fr g L h₁ (fun y => List.lookup y [(Str.ofString "number", .int n t)]) := F
  show wpAny _ _ _ _ _ _
  k_fold
  k_steps
  rename Fr g L _ _ => F9
  rename News g L _ _ => N9
  rename IsRange _ _ _ _ _ _ _ _ => R9
  have n16 : n < 65536 := Nat.lt_of_lt_of_le hn (tow_le _ hd4)
  have hK : Builtin.Int.intBits (n : Int) ≤ 16 := intBits_le (by omega)
  have hKd : (d = 0 → Builtin.Int.intBits (n : Int) = 0) ∧ ∀ m, d = m + 1 → Builtin.Int.intBits (n : Int) ≤ tow m := by
    constructor
    · rintro rfl
      exact Nat.le_zero.mp (PySem.intBits_le_iff.mpr hn)
    · rintro m rfl
      exact PySem.intBits_le_iff.mpr hn
  have hnK : n < 2 ^ Builtin.Int.intBits (n : Int) := (PySem.intBits_le_iff (x := (n : Int))).mp (Nat.le_refl _)
  generalize Builtin.Int.intBits (n : Int) = K at R9 hK hnK hKd ⊢
  rw [sB] at F9
  refine fr_at F9 (y := Str.ofString "word") (v := fun t' => .str (sS [98]) t') rfl fun tw hw => ?_
  refine kst_rangeD (n := K) (fun _ : List Nat × Tok => []) (fun c => [(Str.ofString "word", .str (sS c.1) c.2)]) (fun _ => True) [] (fun pre c => (∀ k ∈ pre, k.toNat < 16) ∧ c.1 = 98 :: pre.flatMap (fun k => if n.testBit k.toNat then wl k.toNat else [])) ([98], tw)
    hA'.hh R9 (small_down (by omega) (by omega) (by omega) (by omega)) (by rw [rangeSize_down]; split <;> omega) F9 N9 trivial (fun p hp => by rw [List.mem_singleton.mp hp]; exact hw) ⟨(fun _ h => nomatch h), rfl⟩ ?_ ?_
  · intro c pre k t1 u h tk own hk hpre hoff _ hP F N
    obtain ⟨hP1, hP⟩ := hP
    have hl := flat_le n pre hP1
    rw [List.nil_append] at N
    k_steps
    · rename Int.fmod _ _ = 1 => hb
      obtain ⟨k, rfl⟩ := Int.eq_ofNat_of_zero_le (show 0 ≤ k by omega)
      rw [Int.toNat_natCast] at hb
      obtain ⟨m, hm1, hm2⟩ : ∃ m, d = m + 1 ∧ K ≤ tow m := by
        cases d with
        | zero => have := hKd.1 rfl; omega
        | succ m => exact ⟨m, rfl, hKd.2 m rfl⟩
      refine ih m (by omega) (hA'.mono (by omega)) (fun b o e => F.keep b o (st' b o e)) (by omega) (by omega) ?_
      intro h2 tk2 t2 st2
      have F2 := F.keeps st2
      have N2 := News.st N st2
      have hwl := wl_len16 k (by omega)
      have hlc : (sS c.1).length ≤ 577 := by rw [sS_len, hP, List.length_cons]; omega
      have hlk : (sS (wl k)).length ≤ 36 := by rw [sS_len]; exact hwl
      clear F N
      k_steps
      rename Fr g _ _ _ => F3
      rename News g _ _ _ => N3
      rw [sS_app] at F3
      refine fr_at F3 (y := Str.ofString "word") (v := fun t' => .str (sS (c.1 ++ wl k)) t') rfl fun tx hx => ?_
      show InvEndN _ _ _ _ _ _ _
      refine kst_end (c.1 ++ wl k, tx) F3 N3 (fun _ h => nomatch h) (fun p hp => hp) rfl trivial (fun p hp => by rw [List.mem_singleton.mp hp]; exact hx) ?_ ?_
      · intro z h1 h2 _
        have h3 := h2 _ (.head _)
        simp [h1, h3, kstB]
      · refine ⟨?_, ?_⟩
        · intro x hx
          rcases List.mem_append.mp hx with hx | hx
          · exact hP1 x hx
          · rw [List.mem_singleton.mp hx]; omega
        · show c.1 ++ _ = _
          rw [hP, List.flatMap_append, List.flatMap_cons, List.flatMap_nil, Int.toNat_natCast, if_pos (bit_iff.mp hb)]; simp
    · rename Int.fmod _ _ ≠ 1 => hb
      obtain ⟨k, rfl⟩ := Int.eq_ofNat_of_zero_le (show 0 ≤ k by omega)
      rw [Int.toNat_natCast] at hb
      show InvEndN _ _ _ _ _ _ _
      refine kst_end c F N (fun _ h => nomatch h) (fun p hp => hp) rfl trivial (fun p hp => by rw [List.mem_singleton.mp hp]; rfl) ?_ ?_
      · intro z h1 h2 _
        have h3 := h2 _ (.head _)
        simp [h1, h3, kstB]
      · refine ⟨?_, ?_⟩
        · intro x hx
          rcases List.mem_append.mp hx with hx | hx
          · exact hP1 x hx
          · rw [List.mem_singleton.mp hx]; omega
        · rw [hP, List.flatMap_append, List.flatMap_cons, List.flatMap_nil, Int.toNat_natCast, if_neg (fun q => hb (bit_iff.mpr q))]; simp
  · clear ih
    intro c u h tk _ hP F N
    obtain ⟨hP1, hP⟩ := hP
    rw [down_flat (f := fun k => wl k.toNat)] at hP
    have hlc : (sS c.1).length ≤ 599 := by
      have := wl_len n
      rw [wl_eq, desc_eq hnK hK, List.length_append] at this
      rw [sS_len, hP]
      exact Nat.le_of_lt_succ this
    k_steps
    rw [sA, sS_app, hP, List.cons_append, ← desc_eq hnK hK]
    have e := wl_eq n
    rw [List.cons_append] at e
    rw [e] at hQ
    exact hQ _ _ _ fun b o e => F.keep b o (hg b o (fun h => nomatch h) e)
end
end Mine
namespace Mine
open PySem.Spec
theorem wl_lt16 : ∀ i, i < 16 → ∀ j, j < 16 → ltCps (wl i) (wl j) = decide (i < j) := by decide +kernel
def sW (c : Nat) : Str := sS (wl c)
def dec (x : Str) : Nat := ((List.range 16).find? fun k => decide (sW k = x)).getD 0
theorem dec_sW : ∀ k, k < 16 → dec (sW k) = k := by decide +kernel
theorem es_of {ss : List Str} {cs : List Nat} (hc : ∀ c ∈ cs, c < 16) (hp : ss.Perm (cs.map sW)) : ∃ es : List Nat, es.Perm cs ∧ ss = es.map sW := by
  refine ⟨ss.map dec, ?_, ?_⟩
  · have h := hp.map dec
    rw [List.map_map] at h
    have e : cs.map (dec ∘ sW) = cs.map id := List.map_congr_left fun c h => dec_sW c (hc c h)
    rwa [e, List.map_id] at h
  · rw [List.map_map]
    have e : ss.map (sW ∘ dec) = ss.map id := List.map_congr_left fun x hx => by
      obtain ⟨c, h, rfl⟩ := List.mem_map.mp (hp.mem_iff.mp hx)
      show sW (dec (sW c)) = _
      rw [dec_sW c (hc c h)]; rfl
    rw [e, List.map_id]
theorem asc_of : ∀ {es : List Nat} {p : Nat}, p < 16 → (∀ c ∈ es, c < 16) → risingS (sW p) (es.map sW) = true → (p :: es).Pairwise (· ≤ ·)
  | [], p, _, _, _ => by simp
  | x :: r, p, hp, he, h => by
    rw [List.map_cons, risingS, Bool.and_eq_true] at h
    have hx := he x (.head _)
    have ih := asc_of hx (fun c hc => he c (.tail _ hc)) h.2
    have hpx : p ≤ x := by
      have := h.1
      show _
      have e : ltCps (sW x).cps.toList (sW p).cps.toList = decide (x < p) := by
        have : ∀ k, (sW k).cps.toList = wl k := fun k => by simp [sW, sS]
        rw [this, this, wl_lt16 x hx p hp]
      rw [e] at this
      simp at this
      exact this
    refine List.pairwise_cons.mpr ⟨fun y hy => ?_, ih⟩
    rcases List.mem_cons.mp hy with rfl | hy
    · exact hpx
    · exact Nat.le_trans hpx ((List.pairwise_cons.mp ih).1 y hy)
theorem asc_sorted {es : List Nat} (he : ∀ c ∈ es, c < 16) (h : sortedS (es.map sW) = true) : es.Pairwise (· ≤ ·) := by
  cases es with
  | nil => exact .nil
  | cons x r => exact asc_of (he x (.head _)) (fun c hc => he c (.tail _ hc)) h
/-- what the loop of _law_word keeps: the members taken, and the last seen -/
def stp (a : List Nat × Option Nat) (d : Nat) : List Nat × Option Nat := if a.2 = some d then a else (a.1 ++ [d], some d)
def dd : Option Nat → List Nat → List Nat
  | _, [] => []
  | l, d :: r => if l = some d then dd l r else d :: dd (some d) r
theorem stp_dd : ∀ (ds : List Nat) (acc : List Nat) (l : Option Nat), (ds.foldl stp (acc, l)).1 = acc ++ dd l ds
  | [], acc, l => by simp [dd]
  | d :: r, acc, l => by
    rw [List.foldl_cons, stp, dd]
    by_cases h : l = some d
    · rw [if_pos h, if_pos h, stp_dd r]
    · rw [if_neg h, if_neg h, stp_dd r, List.append_assoc]; rfl
theorem dd_spec : ∀ (ds : List Nat) (l : Option Nat), ds.Pairwise (· ≥ ·) → (∀ x, l = some x → ∀ y ∈ ds, y ≤ x) → (dd l ds).Pairwise (· > ·) ∧ ∀ y, y ∈ dd l ds ↔ y ∈ ds ∧ l ≠ some y
  | [], l, _, _ => ⟨.nil, fun y => by simp [dd]⟩
  | d :: r, l, hp, hl => by
    have hp' := List.pairwise_cons.mp hp
    rw [dd]
    by_cases h : l = some d
    · rw [if_pos h]
      have ih := dd_spec r l hp'.2 fun x e y hy => hl x e y (.tail _ hy)
      refine ⟨ih.1, fun y => ?_⟩
      rw [ih.2]
      constructor
      · exact fun q => ⟨.tail _ q.1, q.2⟩
      · rintro ⟨q, q2⟩
        rcases List.mem_cons.mp q with rfl | q
        · exact absurd h q2
        · exact ⟨q, q2⟩
    · rw [if_neg h]
      have ih := dd_spec r (some d) hp'.2 fun x e y hy => by cases e; exact hp'.1 y hy
      refine ⟨List.pairwise_cons.mpr ⟨fun y hy => ?_, ih.1⟩, fun y => ?_⟩
      · have a := (ih.2 y).mp hy
        have b := hp'.1 y a.1
        have c : y ≠ d := fun e => a.2 (by rw [e])
        show y < d
        have : y ≤ d := b
        omega
      · rw [List.mem_cons, List.mem_cons, ih.2]
        constructor
        · rintro (rfl | ⟨q, q2⟩)
          · exact ⟨.inl rfl, h⟩
          · refine ⟨.inr q, fun e => q2 ?_⟩
            have a := hl y e d (.head _)
            have b : y ≤ d := hp'.1 y q
            rw [Nat.le_antisymm b a]
        · rintro ⟨rfl | q, q2⟩
          · exact .inl rfl
          · by_cases e : y = d
            · exact .inl e
            · exact .inr ⟨q, fun e2 => e (Option.some.inj e2).symm⟩
theorem strict_ext : ∀ {a b : List Nat}, a.Pairwise (· > ·) → b.Pairwise (· > ·) → (∀ y, y ∈ a ↔ y ∈ b) → a = b
  | [], [], _, _, _ => rfl
  | [], y :: b, _, _, h => absurd ((h y).mpr (.head _)) (fun q => nomatch q)
  | x :: a, [], _, _, h => absurd ((h x).mp (.head _)) (fun q => nomatch q)
  | x :: a, y :: b, ha, hb, h => by
    have ha' := List.pairwise_cons.mp ha
    have hb' := List.pairwise_cons.mp hb
    have e : x = y := by
      have h1 := (h x).mp (.head _)
      have h2 := (h y).mpr (.head _)
      rcases List.mem_cons.mp h1 with e | h1
      · exact e
      · rcases List.mem_cons.mp h2 with e | h2
        · exact e.symm
        · have a1 : x < y := hb'.1 x h1
          have a2 : y < x := ha'.1 y h2
          omega
    subst e
    rw [strict_ext ha'.2 hb'.2 fun z => ?_]
    constructor
    · intro hz
      rcases List.mem_cons.mp ((h z).mp (.tail _ hz)) with e | q
      · have : z < x := ha'.1 z hz
        omega
      · exact q
    · intro hz
      rcases List.mem_cons.mp ((h z).mpr (.tail _ hz)) with e | q
      · have : z < x := hb'.1 z hz
        omega
      · exact q
theorem desc_mem (n : Nat) : ∀ (m y : Nat), y ∈ desc n m ↔ y < m ∧ n.testBit y = true
  | 0, y => by simp [desc]
  | m + 1, y => by
    rw [desc]
    split
    · rename_i h
      rw [List.mem_cons, desc_mem n m]
      constructor
      · rintro (rfl | ⟨a, b⟩)
        · exact ⟨Nat.lt_succ_self _, h⟩
        · exact ⟨Nat.lt_succ_of_lt a, b⟩
      · rintro ⟨a, b⟩
        rcases Nat.lt_or_ge y m with q | q
        · exact .inr ⟨q, b⟩
        · exact .inl (by omega)
    · rename_i h
      rw [desc_mem n m]
      constructor
      · rintro ⟨a, b⟩; exact ⟨by omega, b⟩
      · rintro ⟨a, b⟩
        refine ⟨?_, b⟩
        rcases Nat.lt_or_ge y m with q | q
        · exact q
        · have : y = m := by omega
          subst this; exact absurd b h
theorem desc_pair (n : Nat) : ∀ m, (desc n m).Pairwise (· > ·)
  | 0 => .nil
  | m + 1 => by
    rw [desc]
    split
    · exact List.pairwise_cons.mpr ⟨fun y hy => desc_lt hy, desc_pair n m⟩
    · exact desc_pair n m
/-- the number of a set of numbers -/
def orAll (cs : List Nat) : Nat := cs.foldl (fun a c => a ||| 2 ^ c) 0
theorem orAll_bit' : ∀ (cs : List Nat) (a k : Nat), (cs.foldl (fun a c => a ||| 2 ^ c) a).testBit k = (a.testBit k || decide (k ∈ cs))
  | [], a, k => by simp
  | c :: r, a, k => by
    rw [List.foldl_cons, orAll_bit' r, Nat.testBit_or, Nat.testBit_two_pow]
    by_cases h : k = c
    · subst h; simp
    · have : ¬ c = k := fun e => h e.symm
      simp [h, this]
theorem orAll_bit (cs : List Nat) (k : Nat) : (orAll cs).testBit k = decide (k ∈ cs) := by
  rw [orAll, orAll_bit']; simp
theorem desc_or {cs es : List Nat} (hc : ∀ c ∈ cs, c < 16) (hp : es.Perm cs) (ha : es.Pairwise (· ≤ ·)) : (es.reverse.foldl stp ([], none)).1 = desc (orAll cs) 16 := by
  rw [stp_dd, List.nil_append]
  have s := dd_spec es.reverse none (List.pairwise_reverse.mpr ha) (fun _ e => nomatch e)
  refine strict_ext s.1 (desc_pair _ _) fun y => ?_
  rw [s.2, desc_mem, orAll_bit, decide_eq_true_iff, List.mem_reverse, hp.mem_iff]
  constructor
  · exact fun h => ⟨hc y h.1, h.1⟩
  · exact fun h => ⟨h.2, fun e => nomatch e⟩
theorem stp_last : ∀ (ds : List Nat) (a : List Nat × Option Nat), (∀ c ∈ a.1, c < 16) → (∀ c, a.2 = some c → c < 16) → (∀ c ∈ ds, c < 16) → (∀ c ∈ (ds.foldl stp a).1, c < 16) ∧ (∀ c, (ds.foldl stp a).2 = some c → c < 16)
  | [], _, h1, h2, _ => ⟨h1, h2⟩
  | d :: r, a, h1, h2, h => by
    rw [List.foldl_cons]
    have hd := h d (.head _)
    refine stp_last r (stp a d) ?_ ?_ fun c hc => h c (.tail _ hc)
    · rw [stp]
      split
      · exact h1
      · intro c hc
        rcases List.mem_append.mp hc with hc | hc
        · exact h1 c hc
        · rw [List.mem_singleton.mp hc]; exact hd
    · rw [stp]
      split
      · exact h2
      · intro c hc
        cases hc; exact hd
theorem stp_len : ∀ (ds : List Nat) (a : List Nat × Option Nat), (ds.foldl stp a).1.length ≤ a.1.length + ds.length
  | [], _ => by simp
  | d :: r, a => by
    rw [List.foldl_cons]
    have := stp_len r (stp a d)
    have h2 : (stp a d).1.length ≤ a.1.length + 1 := by
      rw [stp]; split
      · omega
      · simp
    rw [List.length_cons]; omega
end Mine
namespace Mine
section
variable {prog : Program} {w : World} {A : Around} {E : Value → Shared → Prop} {s : Shared} {env : Env} {h₀ : Heap} {x : Str} {body : List Stmt} {Q : Flow → Shared → Prop}
/-- a walk over a list of any values: the list itself lies aside from the ledger -/
theorem kst_vals {σ : Type} {l : Addr} {vs : List Value} {m₀ : Str → Option Value} (Led : σ → List (Addr × Obj)) (ps : σ → List (Str × Value)) (Facts : σ → Prop) (stored : List Str) (R : Nat → σ → Prop) (c₀ : σ)
    (hh : A.handled = none) (hl : s.heap.IsList l vs.toArray) (hL : env.locals ≠ l) (hnl : ∀ q ∈ Led c₀, q.1 ≠ l) (F : Fr h₀ env.locals s.heap m₀) (N : News h₀ env.locals s.heap (Led c₀)) (hf : Facts c₀) (hk : ∀ p ∈ ps c₀, m₀ p.1 = some p.2) (hp : R 0 c₀)
    (turn : ∀ (c : σ) (i : Nat) (v : Value) (u : Str → Option Value) h tk own, vs[i]? = some v → OwnOff own ((Led c₀).map (·.1)) → Facts c → R i c →
      Fr h₀ env.locals h (fun y => if y = x then some v else kstB (fun z => if stored.contains z then u z else m₀ z) (ps c) y) → News h₀ env.locals h (Led c ++ own) →
      wpAny (model prog w) A (execs body env) (InvPostN h₀ env.locals (KstS Led ps Facts x stored m₀ (fun _ c => R (i + 1) c) []) own ((Led c₀).map (·.1)) { s with heap := h, toks := tk } Q) E { s with heap := h, toks := tk })
    (done : ∀ (c : σ) (u : Str → Option Value) h tk, Facts c → R vs.length c → Fr h₀ env.locals h (fun y => if y = x then u y else kstB (fun z => if stored.contains z then u z else m₀ z) (ps c) y) → News h₀ env.locals h (Led c) → Q .next { s with heap := h, toks := tk }) :
    wpAny (model prog w) A (pyIter (.ref l)) (fun it s₂ => LoopAtV prog w A h₀ env x body Q E it s₂) E s := by
  obtain ⟨ol, hol, _⟩ := id hl
  have hne : l ≠ s.heap.objs.size := Nat.ne_of_lt (Heap.lt_size hol)
  refine wpAny_pyIter_list hl ?_
  have W := Walks.list (prog := prog) (w := w) hh s.heap.objs.size l hne vs.toArray
  refine loop_invN (fun i m nx => KstS Led ps Facts x stored m₀ (fun _ c => R i c) [] m nx) W ?_ ?_ ?_ ?_ ⟨⟨_, Heap.get?_push_size _ rfl, rfl, rfl⟩, hl.at fun o e => Heap.get?_push_of_some _ e⟩ (F.push _) (fun p hp => ⟨Heap.get?_push_of_some _ (N p hp).1, (N p hp).2⟩) ⟨c₀, rfl, hf, hk, fun _ _ _ _ => rfl, hp⟩ ?_ ?_
  · intro hm
    rcases List.mem_cons.mp hm with e | hm
    · exact absurd F.ns.lt (e ▸ Nat.lt_irrefl _)
    · exact hL (List.mem_singleton.mp hm)
  · intro b hb
    rw [List.mem_singleton.mp hb]
    exact next_is_new F
  · intro p hp hI
    exact absurd (Heap.lt_size (N p hp).1) ((List.mem_singleton.mp hI) ▸ Nat.lt_irrefl _)
  · intro p hp hI
    rcases List.mem_cons.mp hI with e | hm
    · exact absurd (Heap.lt_size (N p hp).1) (e ▸ Nat.lt_irrefl _)
    · exact hnl p hp (List.mem_singleton.mp hm)
  · rintro i v m₁ nx h tk own hi hv _ hoff ⟨c, rfl, hf', h1, h2, hp'⟩ F₁ N₁
    exact turn c i v m₁ h tk own (by simpa using hv) hoff hf' hp' (kst_fr h1 h2 F₁) N₁
  · rintro m₁ nx h tk ⟨c, rfl, hf', h1, h2, hp'⟩ F₁ N₁
    exact done c m₁ h tk hf' (by simpa using hp') (kst_frOut h1 h2 F₁) N₁
end
end Mine
--LINES
local macro_rules | `(tactic| walk_at "subscriptTail Name Slice ref ref") => `(tactic| (k_here; (with_reducible show wpAny _ _ (subscriptTail _ (PySem.Expr.Slice _ _ _ _) (Value.ref _) (Value.ref _)) _ _ _); k_dflt (refine Mine.halt_of ?_)))
local macro_rules | `(tactic| walk_at "exec For") => `(tactic| (k_here; (with_reducible show wpAny _ _ (exec (Stmt.For (Expr.Name _ _) _ _ [] _) _) _ _ _); (with_reducible rename Fr _ _ _ _ => lF'); (k_dflt (refine' For_invVF lF' ?k1 ?k2 ?_; (case k1 => exact rfl); (case k2 => exact rfl); k_whole))))
local macro_rules | `(tactic| walk_at "pyIter") => `(tactic| (k_here; (with_reducible show wpAny _ _ (pyIter (Value.ref _)) _ _ _); k_dflt (refine Mine.halt_of ?_)))
--END
namespace Mine
theorem StrsAre_append : ∀ {a b : List Value} {x y : List Str}, StrsAre a x → StrsAre b y → StrsAre (a ++ b) (x ++ y)
  | _, _, _, _, .nil, h => h
  | _, _, _, _, .cons x t r, h => .cons x t (StrsAre_append r h)
theorem StrsAre_reverse : ∀ {a : List Value} {x : List Str}, StrsAre a x → StrsAre a.reverse x.reverse
  | _, _, .nil => .nil
  | _, _, .cons x t r => by rw [List.reverse_cons, List.reverse_cons]; exact StrsAre_append (StrsAre_reverse r) (.cons x t .nil)
theorem StrsAre_get : ∀ {a : List Value} {x : List Str} {i : Nat} {v : Value}, StrsAre a x → a[i]? = some v → ∃ y t, x[i]? = some y ∧ v = .str y t
  | _, _, i, v, .nil, h => by simp at h
  | _, _, 0, v, .cons x t r, h => ⟨x, t, rfl, by simpa using h.symm⟩
  | _, _, i + 1, v, .cons x t r, h => by
    obtain ⟨y, t', h1, h2⟩ := StrsAre_get (i := i) r (by simpa using h)
    exact ⟨y, t', by simpa using h1, h2⟩
theorem wp_tok {M : Model} {A : Around} {α : Type} {c : Sem α} {Q : α → Shared → Prop} {E : Value → Shared → Prop} {h : Heap} {g : Array GenState} {d : _} {o : _} {tk : Nat} (k : ∀ tk, wpAny M A c Q E ⟨h, g, d, tk, o⟩) : wpAny M A c Q E ⟨h, g, d, tk, o⟩ := k tk
def lastS : Option Nat → Str
  | none => sS []
  | some d => sW d
section
variable {w : World} {B : Heap} {p : Program} {loose : List Str} {mean : ExcName → Option Value} {mg mb : Str → Option Value} {A : Around} {s : Shared} {Q E : Value → Shared → Prop}

theorem word_c {l : Addr} {t : Tok} {vs : List Value} {cs : List Nat} (X : (hd.heap_1 w.params).In B) (T : Top p loose mean mg mb B) (hA : Room A 3) (st : B.StaysIn s.heap) (hl : s.heap.IsList l vs.toArray) (hS : StrsAre vs (cs.map sW)) (hc : ∀ c ∈ cs, c < 16) (hlen : cs.length ≤ 20)
    (hQ : ∀ h' tk' t', s.heap.StaysIn h' → Q (.str (sS (wl (orAll cs))) t') { s with heap := h', toks := tk' }) :
    wpAny (model PySem.Challenge.rw_un0043_01.row.toRowW.prog w) A (call (.ref 321) [.ref l]) Q E s := by
  revert X; k_fill; intro X
  have Xs : (hd.heap_1 w.params).In s.heap := fun a o e => st a o (X a o e)
  refine wpAny_call ?_
  k_dflt (refine' enterM [] X T hA st ?hm ?ho ?hcd ?hb ?hl ?_ ?hc ?h1 ?h2 ?h3; (case hm => exact fun _ h => nomatch h); (case ho => k_is); (case hcd => k_is); (case hb => first | exact BindsTo.of_eq rfl | exact binds_K Xs rfl (by k_is) rfl rfl rfl); (case hl => exact locs rfl); (case hc => decide); (case h1 => exact rfl); (case h2 => exact rfl); (case h3 => exact rfl))
  intro g L h₁ hg hL F N X' T' st' hA'
  replace F : Fr g L h₁ (fun y => List.lookup y [(Str.ofString "row", .ref l)]) := F
  have hl1 : g.IsList l vs.toArray := hl.at fun o e => hg _ _ (fun h => nomatch h) e
  show wpAny _ _ _ _ _ _
  k_fold
  k_steps
  rename Fr g L _ _ => F9
  rename News g L _ _ => N9
  refine sorted_N_str F9 N9 (hl1.at fun o e => F9.keep _ _ e) hS (by have := hS.length; simp at this; omega) ?_
  intro h2 vs2 ss2 e2 F2 N2 hS2 hperm hsort
  clear F9 N9
  k_steps
  show wpAny _ _ (subscriptTail _ _ _ _) _ _ _
  have hv2 : vs2.length ≤ 20 := by
    have a := hS2.length
    have b := hperm.length_eq
    rw [List.length_map] at b
    omega
  refine' krv_lit (s := ⟨h2, _, _, _, _⟩) (its := vs2.toArray) (zs := vs2.reverse) F2 N2 ⟨_, (N2 _ (.head _)).1, rfl, e2, rfl⟩ (IsPart.int _ _) rfl ?_ ?s ?t ?z
  case s => with_unfolding_all rfl
  case t => kmk_pure
  case z => exact Nat.le_trans (by simpa using hv2) (by decide : 20 ≤ sizeLine)
  intro D h3 F3 N3 l3
  clear F2 N2
  refine wp_tok (h := h3) (g := s.gens) (d := s.drawn) (o := s.os) fun tk3 => ?_
  k_steps
  show wpAny _ _ (pyIter _) _ _ _
  rw [sB, sE] at F3
  obtain ⟨es, hes, rfl⟩ := es_of hc hperm
  have he16 : ∀ c ∈ es.reverse, c < 16 := fun c h => hc c (hes.mem_iff.mp (List.mem_reverse.mp h))
  have hasc := asc_sorted (fun c h => hc c (hes.mem_iff.mp h)) hsort
  have hS3 : StrsAre vs2.reverse (es.reverse.map sW) := by rw [List.map_reverse]; exact StrsAre_reverse hS2
  refine fr_at F3 (y := Str.ofString "word") (v := fun t' => .str (sS [98]) t') rfl fun tw hw => ?_
  refine fr_at F3 (y := Str.ofString "last") (v := fun t' => .str (sS []) t') rfl fun tl hl2 => ?_
  refine kst_vals (vs := vs2.reverse) (fun _ : (List Nat × Option Nat) × Tok × Tok => []) (fun c => [(Str.ofString "word", .str (sS (98 :: c.1.1.flatMap wl)) c.2.1), (Str.ofString "last", .str (lastS c.1.2) c.2.2)]) (fun _ => True) [] (fun i c => c.1 = (es.reverse.take i).foldl stp ([], none)) (([], none), tw, tl)
    hA'.hh ⟨_, (N3 _ (.head _)).1, rfl, _, rfl⟩ (fun q => (N3 _ (.head _)).2.1 q.symm) (fun _ h => nomatch h) F3 (fun _ h => nomatch h) trivial ?_ rfl ?_ ?_
  · intro p hp
    rcases List.mem_cons.mp hp with rfl | hp
    · exact hw
    · rw [List.mem_singleton.mp hp]; exact hl2
  · clear hQ
    intro c i v u h tk own hv hoff _ hR F N
    obtain ⟨y, t', hy, rfl⟩ := StrsAre_get hS3 hv
    obtain ⟨d, hd, rfl⟩ : ∃ d, es.reverse[i]? = some d ∧ y = sW d := by
      rw [List.getElem?_map] at hy
      cases q : es.reverse[i]? with
      | none => rw [q] at hy; cases hy
      | some d => rw [q] at hy; exact ⟨d, rfl, (Option.some.inj hy).symm⟩
    have hd16 := he16 d (List.mem_of_getElem? hd)
    have htk : es.reverse.take (i + 1) = es.reverse.take i ++ [d] := by rw [List.take_add_one, hd]; rfl
    have hb := stp_last (es.reverse.take i) ([], none) (fun _ h => nomatch h) (fun _ h => nomatch h) (fun c hc => he16 c (List.mem_of_mem_take hc))
    have hb2 := stp_len (es.reverse.take i) ([], none)
    rw [← hR] at hb hb2
    have hwl : (sW d).length ≤ 36 := by rw [sW, sS_len]; exact wl_len16 d hd16
    have hwc : (sS (98 :: c.1.1.flatMap wl)).length ≤ 721 := by
      rw [sS_len, List.length_cons]
      have a := flat_len (f := wl) (c := 36) (l := c.1.1) fun k hk => wl_len16 k (hb.1 k hk)
      have b := hes.length_eq
      rw [List.length_take, List.length_reverse] at hb2
      have e : ([] : List Nat).length = 0 := rfl
      dsimp only at hb2
      omega
    rw [List.nil_append] at N
    have hstp : (es.reverse.take (i + 1)).foldl stp ([], none) = stp c.1 d := by rw [htk, List.foldl_append, ← hR]; rfl
    have hlast : sW d = lastS c.1.2 ↔ c.1.2 = some d := by
      cases q : c.1.2 with
      | none => exact ⟨fun e => absurd (sS_inj e) (by show wl d ≠ []; unfold wl wlF; simp), fun e => nomatch e⟩
      | some d2 =>
        refine ⟨fun e => ?_, fun e => by rw [Option.some.inj e]; rfl⟩
        have := congrArg dec e
        rw [dec_sW d hd16] at this
        have h2 : dec (lastS (some d2)) = d2 := dec_sW d2 (hb.2 d2 q)
        rw [h2] at this
        rw [this]
    k_steps
    · rename (sW d != lastS _) = true => hne
      have hne' : ¬ c.1.2 = some d := fun e => bne_iff_ne.mp hne (hlast.mpr e)
      rename Fr g _ _ _ => F4
      rename News g _ _ _ => N4
      have ew : sS (98 :: c.1.1.flatMap wl) ++ sW d = sS (98 :: (stp c.1 d).1.flatMap wl) := by
        rw [stp, if_neg hne', sW, sS_app, List.flatMap_append, List.flatMap_cons, List.flatMap_nil]; simp
      have el : sW d = lastS (stp c.1 d).2 := by rw [stp, if_neg hne']; rfl
      rw [ew] at F4
      refine fr_at F4 (y := Str.ofString "word") (v := fun t' => .str (sS (98 :: (stp c.1 d).1.flatMap wl)) t') rfl fun tw2 hw2 => ?_
      refine fr_at F4 (y := Str.ofString "last") (v := fun t' => .str (sW d) t') rfl fun tl2 hl3 => ?_
      show InvEndN _ _ _ _ _ _ _
      refine kst_end (stp c.1 d, tw2, tl2) F4 N4 (fun _ h => nomatch h) (fun p hp => hp) rfl trivial ?_ ?_ hstp.symm
      · intro p hp
        rcases List.mem_cons.mp hp with rfl | hp
        · exact hw2
        · rw [List.mem_singleton.mp hp, ← el]; exact hl3
      · intro z h1 h2 _
        have h3 := h2 _ (.head _)
        have h4 := h2 _ (.tail _ (.head _))
        simp [h1, h3, h4, kstB]
    · rename (sW d != lastS _) = false => hne
      have hne' : c.1.2 = some d := hlast.mp (bne_eq_false_iff_eq.mp hne)
      rename Fr g _ _ _ => F4
      rename News g _ _ _ => N4
      have est : stp c.1 d = c.1 := by rw [stp, if_pos hne']
      have el : sW d = lastS c.1.2 := hlast.mpr hne'
      refine fr_at F4 (y := Str.ofString "word") (v := fun t' => .str (sS (98 :: c.1.1.flatMap wl)) t') rfl fun tw2 hw2 => ?_
      refine fr_at F4 (y := Str.ofString "last") (v := fun t' => .str (sW d) t') rfl fun tl2 hl3 => ?_
      show InvEndN _ _ _ _ _ _ _
      refine kst_end (c.1, tw2, tl2) F4 N4 (fun _ h => nomatch h) (fun p hp => hp) rfl trivial ?_ ?_ (est.symm.trans hstp.symm)
      · intro p hp
        rcases List.mem_cons.mp hp with rfl | hp
        · exact hw2
        · rw [List.mem_singleton.mp hp, ← el]; exact hl3
      · intro z h1 h2 _
        have h3 := h2 _ (.head _)
        have h4 := h2 _ (.tail _ (.head _))
        simp [h1, h3, h4, kstB]
  · intro c u h tk _ hR F N
    have hlv : vs2.reverse.length = es.reverse.length := by have := hS3.length; rw [List.length_map] at this; exact this
    rw [hlv, List.take_length] at hR
    have hde := desc_or hc hes hasc
    have hwc : (sS (98 :: c.1.1.flatMap wl)).length ≤ 600 := by
      have a := wl_len (orAll cs)
      rw [wl_eq, ← hde, ← hR, List.length_append] at a
      rw [sS_len]
      exact Nat.le_of_lt (Nat.lt_of_succ_le a)
    k_steps
    rw [sA, sS_app, List.cons_append, hR, hde]
    have e := wl_eq (orAll cs)
    rw [List.cons_append] at e
    rw [e] at hQ
    exact hQ _ _ _ fun b o e => F.keep b o (hg b o (fun h => nomatch h) e)
end
end Mine
namespace Mine
/-- an _Accumulator -/
def accO (dx : Addr) (vs : Array Value) (n : Nat) : Obj := { cls := .ref 154, dict := some dx, data := .seq vs n }
def pairO (a b : Value) : Obj := { cls := .type "tuple", data := .seq #[a, b] }
section
variable {K : Frag} {prog : Program} {w : World} {A : Around} {s : Shared} {E : Value → Shared → Prop} {x C : Addr} {ox : Obj} {od : Option Obj} {id owner n : String} {rest : List Value} {kw : List (Str × Value)}
theorem check_inst {M : Model} {Q : Unit → Shared → Prop} (hsplit : splitId id = some (owner, n)) (hkind : (Manifest.find? owner).bind (·.attrs.lookup n) = some .slot ∨ (Manifest.find? owner).bind (·.attrs.lookup n) = some .method)
    (X : K.In s.heap) (I : InstAt s.heap x ox C od) (hsub : mroIn K C (.type owner) = some true) (ha : argsOk id ⟨.ref x :: rest, kw⟩) (hQ : Q () s) : wpAny M A (checkBuiltinCall id ⟨.ref x :: rest, kw⟩) Q E s := by
  have hk : builtinKind id = (Manifest.find? owner).bind (·.attrs.lookup n) := by simp only [builtinKind, hsplit]
  rcases hkind with h | h <;>
  · simp only [checkBuiltinCall, hk, h, hsplit]
    refine wpAny_bind (wpAny_bind (I.type.here ((looks_mroIn X hsub).here ?_)))
    simp only [Bool.not_true, Bool.false_eq_true, if_false]
    cases hsig : Manifest.signature? id with
    | none => exact wpAny_pure hQ
    | some sig =>
      simp only [argsOk, hsig] at ha
      have h2 : Bind.checkArgs id sig ⟨.ref x :: rest, kw⟩ = pure () := ha
      show wpAny M A (Bind.checkArgs id sig ⟨.ref x :: rest, kw⟩) Q E s
      rw [h2]; exact wpAny_pure hQ
theorem call_inst {b : Builtin} {Q : Value → Shared → Prop} (hplain : plainId id = true) (hb : entryFor table id = some b) (hsplit : splitId id = some (owner, n)) (hkind : (Manifest.find? owner).bind (·.attrs.lookup n) = some .slot ∨ (Manifest.find? owner).bind (·.attrs.lookup n) = some .method)
    (X : K.In s.heap) (I : InstAt s.heap x ox C od) (hsub : mroIn K C (.type owner) = some true) (ha : argsOk id ⟨.ref x :: rest, []⟩)
    (hc : wpAny (model prog w) A.in1 (b ⟨.ref x :: rest, []⟩) (fun fin s' => ∃ v, fin = .done (.ret v) ∧ Q v s') E s) : wpAny (model prog w) A (call (.builtin id) (.ref x :: rest)) Q E s := by
  refine wpAny_call (codeAny_call_builtin hplain hb (check_inst hsplit hkind X I hsub ha (wpAny_mono hc (fun fin s' h' => ?_) fun _ _ h' => h')))
  obtain ⟨v, rfl, hv⟩ := h'; exact hv
theorem method_bi {name : Str} {pl : Sem Bool} {Q : Value × List Value → Shared → Prop} (X : K.In s.heap) (I : InstAt s.heap x ox C od) {ga : String} (hga : findIn K (.ref C) "__getattribute__" = some (some (.builtin ga))) (hcan : (Manifest.canonical ga != "object.__getattribute__") = false) (hk : findIn K (.ref C) "__getattr__" = some none)
    (hf : findIn K (.ref C) name = some (some (.builtin id))) (ht : typeIn K (.builtin id) = some (.type "method_descriptor")) (hs : shadowIn od name = some false) (h : Q (.builtin id, [.ref x]) s) :
    wpAny (model prog w) A (getMethod (.ref x) name pl) Q E s := by
  unfold getMethod specialOf
  refine wpAny_bind (wpAny_bind (I.type.here ((looks_findIn X hga).here ?_)))
  dsimp only
  rw [if_neg (by rw [hcan]; decide)]
  refine wpAny_bind (wpAny_bind (I.type.here ((looks_findIn X hk).here ?_)))
  refine wpAny_bind (wpAny_bind (I.type.here ((looks_findIn X hf).here (wpAny_bind ((looks_typeIn X ht).here ?_)))))
  rw [if_neg (by decide +kernel)]
  refine wpAny_bind (wpAny_loadPart I.at_ ?_)
  have hd := I.dict
  cases e : ox.dict with
  | none => exact wpAny_bind (wpAny_rule (wpAny_pure h))
  | some dx =>
    cases od with
    | none => rw [e] at hd; exact hd.elim
    | some o =>
      rw [e] at hd
      obtain ⟨r, a, b⟩ := Option.map_eq_some_iff.mp hs
      refine wpAny_bind (wpAny_bind (wpAny_loadPart hd ?_))
      rw [nsLook_of a]
      refine wpAny_pure ?_
      rw [b]
      exact wpAny_bind (wpAny_rule (wpAny_pure h))
theorem acc_append {dx : Addr} {vs : Array Value} {k : Nat} {v : Value} {Q : Value → Shared → Prop} (X : K.In s.heap) (hx : s.heap.get? x = some (accO dx vs k)) (I : InstAt s.heap x ox 154 od) (hsub : mroIn K 154 (.type "list") = some true)
    (hQ : ∀ h' k', h'.get? x = some (accO dx (vs.push v) k') → Heap.SameBut x s.heap h' → Q .none { s with heap := h' }) (hsz : vs.size ≤ sizeLine) :
    wpAny (model prog w) A (call (.builtin "list.append") [.ref x, v]) Q E s := by
  have hd : (accO dx vs k).data = .seq vs k := rfl
  obtain ⟨n', hd'⟩ := Obj.data_mapSeq hd (·.push v)
  refine call_inst (by decide +kernel) F.entry_list_append (owner := "list") (n := "append") (by decide +kernel) (.inr (by decide +kernel)) X I hsub (F.args_list_append_2 _ _) ?_
  show wpAny _ _ (updateSeq x (·.push v) >>= fun _ => ret .none) _ _ s
  refine wpAny_bind ?_
  refine wpAny_updateSeq hx hd (wpAny_pure ⟨.none, rfl, hQ _ (if (vs.push v).size == vs.size then k else k + 1) ?_ (Heap.SameBut.update ..)⟩)
  exact (Heap.get?_update_self _ hx (Obj.isFreed_of_seq hd')).trans rfl
end
end Mine
--LINES
local macro_rules | `(tactic| walk_at "getMethod ref") => `(tactic| (k_here; (with_reducible show wpAny _ _ (getMethod (Value.ref _) (PySem.Str.ofString "append") _) _ _ _); k_dflt (refine Mine.halt_of ?_)))
--END
namespace Mine
section
variable {w : World} {B : Heap} {p : Program} {loose : List Str} {mean : ExcName → Option Value} {mg mb : Str → Option Value} {A : Around} {s : Shared} {Q E : Value → Shared → Prop}

theorem push_c {P dx : Addr} {es : List DictEntry} {en : Nat} {vs : Array Value} {n : Nat} {x y : Str} {t1 t2 : Tok} (X : (hd.heap_1 w.params).In B) (T : Top p loose mean mg mb B) (hA : Room A 3) (st : B.StaysIn s.heap)
    (hsz : vs.size ≤ 100) (hP : s.heap.get? P = some (accO dx vs n)) (hdx : s.heap.get? dx = some (dictOf es en)) (hPB : B.get? P = none) (hes : getL (Str.ofString "append") es = some none) (hdB : B.get? dx = none)
    (hQ : ∀ h' tk' D n', h'.get? P = some (accO dx (vs.push (.ref D)) n') → h'.get? D = some (pairO (.str x t1) (.str y t2)) → s.heap.get? D = none → Keep [P] s.heap h' → Q .none { s with heap := h', toks := tk' }) :
    wpAny (model PySem.Challenge.rw_un0043_01.row.toRowW.prog w) A (call (.ref 98) [.ref P, .str x t1, .str y t2]) Q E s := by
  revert X; k_fill; intro X
  have Xs : (hd.heap_1 w.params).In s.heap := fun a o e => st a o (X a o e)
  refine wpAny_call ?_
  k_dflt (refine' enterM [(P, accO dx vs n), (dx, dictOf es en)] X T hA st ?hm ?ho ?hcd ?hb ?hl ?_ ?hc ?h1 ?h2 ?h3; (case hm => simpa using ⟨⟨hP, hPB⟩, hdx, hdB⟩); (case ho => k_is); (case hcd => k_is); (case hb => first | exact BindsTo.of_eq rfl | exact binds_K Xs rfl (by k_is) rfl rfl rfl); (case hl => exact locs rfl); (case hc => decide); (case h1 => exact rfl); (case h2 => exact rfl); (case h3 => exact rfl))
  intro g L h₁ hg hL F N X' T' st' hA'
  replace F : Fr g L h₁ (fun y' => List.lookup y' [(Str.ofString "string", .str y t2), (Str.ofString "fws", .str x t1), (Str.ofString "self", .ref P)]) := F
  show wpAny _ _ _ _ _ _
  k_fold
  k_steps
  show wpAny _ _ (getMethod _ _ _) _ _ _
  k_dflt (refine' Mine.method_bi (K := hd.heap_1 w.params) (C := 154) (id := "list.append") (od := some (dictOf es en)) (ga := "list.__getattribute__") ?X ?I ?a ?a2 ?b ?c ?d ?e ?_)
  case X => k_in
  case I => exact ⟨(N _ (.head _)).1, rfl, rfl, (N _ (.tail _ (.head _))).1⟩
  case a => k_is
  case a2 => decide +kernel
  case b => k_is
  case c => k_is
  case d => k_is
  case e => show (lookIn _ (dictOf _ _)).map _ = _; rw [lookIn_dict, hes]; rfl
  k_steps
  rename News g L _ _ => N9
  rename Fr g L _ _ => F9
  refine with_first N9 fun D hE => ?_
  subst hE
  have nP : @Ne Nat D P := by omega
  have nd : @Ne Nat D dx := by omega
  have nPd : dx ≠ P := by
    intro e
    rw [e, hP] at hdx
    cases hdx
  refine acc_append (K := hd.heap_1 w.params) (od := some (dictOf es en)) (Frag.In.keeps X' F9.keep) (N9 _ (.tail _ (.head _))).1 ⟨(N9 _ (.tail _ (.head _))).1, rfl, rfl, (N9 _ (.tail _ (.tail _ (.head _)))).1⟩ (by k_is) ?_ (Nat.le_trans hsz (by decide))
  intro h2 k2 hP2 hs2
  have F2 := F9.change hs2 (N9 _ (.tail _ (.head _))).2.1 (N9 _ (.tail _ (.head _))).2.2
  have kF := F9.keep
  clear F9
  k_steps
  refine hQ _ _ _ _ hP2 ((hs2.2 _ nP).trans (N9 _ (.head _)).1) (by
    cases q : s.heap.get? D with
    | none => rfl
    | some o =>
      have := hg D o (by simp only [List.map_cons, List.map_nil, List.mem_cons, List.not_mem_nil, or_false, not_or]; exact ⟨nP, nd⟩) q
      rw [(N9 _ (.head _)).2.2] at this
      cases this) ?_
  intro b o hb e
  have hbP : b ≠ P := fun q => hb (q ▸ .head _)
  refine (hs2.2 _ hbP).trans ?_
  by_cases hbd : b = dx
  · rw [hbd] at e ⊢
    rw [hdx] at e; cases e
    exact (N9 _ (.tail _ (.tail _ (.head _)))).1
  · exact kF _ _ (hg b o (by simp only [List.map_cons, List.map_nil, List.mem_cons, List.not_mem_nil, or_false, not_or]; exact ⟨hbP, hbd⟩) e)
end
end Mine
namespace Mine
theorem slot_wd_get : Slot "wrapper_descriptor" "__get__" "wrapper_descriptor.__get__" := .of (owner := "wrapper_descriptor") (n := "__get__") (by rw [typeLookup_type, builtinLookup_eq_fast]; kernel_rfl) (by decide +kernel) (by decide +kernel) (by decide +kernel) (by first | exact .inl (by decide +kernel) | exact .inr (by decide +kernel)) (by rw [isSubtype_type]; kernel_rfl)
theorem entry_wd_get : entryFor table "wrapper_descriptor.__get__" = some Builtin.«wrapper_descriptor.__get__» := entryFor_of_tree (by kernel_rfl)
theorem args_wd_get (a b c : Value) : argsOk "wrapper_descriptor.__get__" ⟨[a, b, c], []⟩ := by unfold argsOk; kernel_rfl
theorem slot_md_get : Slot "method_descriptor" "__get__" "method_descriptor.__get__" := .of (owner := "method_descriptor") (n := "__get__") (by rw [typeLookup_type, builtinLookup_eq_fast]; kernel_rfl) (by decide +kernel) (by decide +kernel) (by decide +kernel) (by first | exact .inl (by decide +kernel) | exact .inr (by decide +kernel)) (by rw [isSubtype_type]; kernel_rfl)
theorem entry_md_get : entryFor table "method_descriptor.__get__" = some Builtin.«method_descriptor.__get__» := entryFor_of_tree (by kernel_rfl)
theorem args_md_get (a b c : Value) : argsOk "method_descriptor.__get__" ⟨[a, b, c], []⟩ := by unfold argsOk; kernel_rfl
theorem wd_get_len {prog : Program} {w : World} {A : Around} {E : Value → Shared → Prop} {s : Shared} {K : Frag} {x C : Addr} {ox : Obj} {od : Option Obj} {Q : Fin → Shared → Prop} (X : K.In s.heap) (I : InstAt s.heap x ox C od) (hsub : mroIn K C (.type "list") = some true)
   (hq : Q (.done (.ret (.ref s.heap.objs.size))) { s with heap := s.heap.push { cls := .type "method-wrapper", data := .fields #[.builtin "list.__len__", .ref x] } }) :
   wpAny (model prog w) A (Builtin.«wrapper_descriptor.__get__» ⟨[.builtin "list.__len__", .ref x, .ref C], []⟩) Q E s := by
  obtain ⟨h, g, d, t, os⟩ := s
  unfold Builtin.«wrapper_descriptor.__get__»
  refine wpAny_bind (wpAny_of_eq (a := (Value.builtin "list.__len__", some (Value.ref x), some (Value.ref C))) rfl ?_)
  dsimp only
  refine wpAny_bind ?_
  refine wpAny_bind (wpAny_of_eq (a := (Str.ofString "__len__", Value.type "list")) (by kernel_rfl) ?_)
  dsimp only
  refine wpAny_bind (wpAny_bind (I.type.here ((looks_mroIn X hsub).here ?_)))
  rw [if_neg (by decide)]
  refine wpAny_pure ?_
  unfold newFields
  refine wpAny_bind (wpAny_newObj_type ?_ (by size_fits))
  exact wpAny_pure hq
theorem wd_get_init {prog : Program} {w : World} {A : Around} {E : Value → Shared → Prop} {s : Shared} {K : Frag} {x C : Addr} {ox : Obj} {od : Option Obj} {Q : Fin → Shared → Prop} (X : K.In s.heap) (I : InstAt s.heap x ox C od) (hsub : mroIn K C (.type "list") = some true)
   (hq : Q (.done (.ret (.ref s.heap.objs.size))) { s with heap := s.heap.push { cls := .type "method-wrapper", data := .fields #[.builtin "list.__init__", .ref x] } }) :
   wpAny (model prog w) A (Builtin.«wrapper_descriptor.__get__» ⟨[.builtin "list.__init__", .ref x, .ref C], []⟩) Q E s := by
  obtain ⟨h, g, d, t, os⟩ := s
  unfold Builtin.«wrapper_descriptor.__get__»
  refine wpAny_bind (wpAny_of_eq (a := (Value.builtin "list.__init__", some (Value.ref x), some (Value.ref C))) rfl ?_)
  dsimp only
  refine wpAny_bind ?_
  refine wpAny_bind (wpAny_of_eq (a := (Str.ofString "__init__", Value.type "list")) (by kernel_rfl) ?_)
  dsimp only
  refine wpAny_bind (wpAny_bind (I.type.here ((looks_mroIn X hsub).here ?_)))
  rw [if_neg (by decide)]
  refine wpAny_pure ?_
  unfold newFields
  refine wpAny_bind (wpAny_newObj_type ?_ (by size_fits))
  exact wpAny_pure hq
theorem md_get_pop {prog : Program} {w : World} {A : Around} {E : Value → Shared → Prop} {s : Shared} {K : Frag} {x C : Addr} {ox : Obj} {od : Option Obj} {Q : Fin → Shared → Prop} (X : K.In s.heap) (I : InstAt s.heap x ox C od) (hsub : mroIn K C (.type "list") = some true)
   (hq : Q (.done (.ret (.ref s.heap.objs.size))) { s with heap := s.heap.push { cls := .type "builtin_function_or_method", data := .fields #[.builtin "list.pop", .ref x] } }) :
   wpAny (model prog w) A (Builtin.«method_descriptor.__get__» ⟨[.builtin "list.pop", .ref x, .ref C], []⟩) Q E s := by
  obtain ⟨h, g, d, t, os⟩ := s
  unfold Builtin.«method_descriptor.__get__»
  refine wpAny_bind (wpAny_of_eq (a := (Value.builtin "list.pop", some (Value.ref x), some (Value.ref C))) rfl ?_)
  dsimp only
  rw [if_neg (by decide +kernel)]
  refine wpAny_bind ?_
  refine wpAny_bind (wpAny_of_eq (a := (Str.ofString "pop", Value.type "list")) (by kernel_rfl) ?_)
  dsimp only
  refine wpAny_bind (wpAny_bind (I.type.here ((looks_mroIn X hsub).here ?_)))
  rw [if_neg (by decide)]
  refine wpAny_pure ?_
  unfold newFields
  refine wpAny_bind (wpAny_newObj_type ?_ (by size_fits))
  exact wpAny_pure hq

section
variable {prog : Program} {w : World} {A : Around} {E : Value → Shared → Prop} {h : Heap} {g : Array GenState} {d : Drawn} {t : Nat} {os : OsState}
theorem super_ga_bi {so D x C : Addr} {l₀ l : List Value} {K : Frag} {name : Str} {tk : Tok} {id dT gid : String} {Bg : Builtin} {ob : Obj} {Q : Fin → Shared → Prop}
    (hso : h.get? so = some { cls := .type "super", dict := none, data := .fields #[.ref D, .ref x, .ref C], slots := #[] }) (hno : Looks (model prog w) h (opaqueClassAbove (.ref C)) none)
    (hC : Looks (model prog w) h (mroOf (.ref C)) l₀) (hl : (l₀.dropWhile (· != .ref D)).drop 1 = l) (X : K.In h)
    (hf : alongIn K name l = some (some (.builtin id))) (hty : typeOf (.builtin id) = pure (.type dT)) (hsl : Slot dT "__get__" gid) (hent : entryFor table gid = some Bg) (hargs : argsOk gid ⟨[.builtin id, .ref x, .ref C], []⟩) (hxC : x ≠ C) (hn : (name == ("__class__" : Str)) = false)
    (hg : ∀ (A' : Around) (Q' : Fin → Shared → Prop), Q' (.done (.ret (.ref h.objs.size))) ⟨h.push ob, g, d, t, os⟩ → wpAny (model prog w) A' (Bg ⟨[.builtin id, .ref x, .ref C], []⟩) Q' E ⟨h, g, d, t, os⟩)
    (hq : Q (.done (.ret (.ref h.objs.size))) ⟨h.push ob, g, d, t, os⟩) :
    wpAny (model prog w) A (Builtin.«super.__getattribute__» ⟨[.ref so, .str name tk], []⟩) Q E ⟨h, g, d, t, os⟩ := by
  have hlk := hsl.lookup
  have hne : (Value.ref x == Value.ref C) = false := by simp [hxC]
  have hTf : (⟨h, g, d, t, os⟩ : Shared).TypeIs (.builtin id) dT := hty
  have hdt : ({ cls := .type "super", dict := none, data := .fields #[.ref D, .ref x, .ref C], slots := #[] } : Obj).data = .fields #[.ref D, .ref x, .ref C] := rfl
  have f0 : (#[.ref D, .ref x, .ref C] : Array Value)[0]? = some (.ref D) := rfl
  have f1 : (#[.ref D, .ref x, .ref C] : Array Value)[1]? = some (.ref x) := rfl
  have f2 : (#[.ref D, .ref x, .ref C] : Array Value)[2]? = some (.ref C) := rfl
  unfold Builtin.«super.__getattribute__»
  repeat (first
    | (with_reducible refine wpAny_field hso hdt f0 ?_) | (with_reducible refine wpAny_field hso hdt f1 ?_) | (with_reducible refine wpAny_field hso hdt f2 ?_)
    | (with_reducible refine ks_wpAny_notOpaque hno ?_)
    | (with_reducible refine Looks.at hC ?_; rw [hl])
    | (refine ks_forIn_along X (fun _ _ => rfl) rfl ?_ hf)
    | (with_reducible refine wpAny_typeOf hTf ?_)
    | (with_reducible refine wpAny_call_entry hsl hTf hent ?_ hargs)
    | (with_reducible refine hg _ _ ?_)
    | (with_reducible refine ⟨_, rfl, ?_⟩)
    | (simp only [hn, hne, Bool.or_false, Bool.false_eq_true, if_false])
    | wp_step
    | dsimp only)
  all_goals exact hq

theorem super_gm_bi {so D x C : Addr} {l₀ l : List Value} {K : Frag} {name : Str} {id dT gid : String} {Bg : Builtin} {ob : Obj} {pl : Sem Bool} {Q : Value × List Value → Shared → Prop}
    (hso : h.get? so = some { cls := .type "super", dict := none, data := .fields #[.ref D, .ref x, .ref C], slots := #[] }) (hno : Looks (model prog w) h (opaqueClassAbove (.ref C)) none)
    (hC : Looks (model prog w) h (mroOf (.ref C)) l₀) (hl : (l₀.dropWhile (· != .ref D)).drop 1 = l) (X : K.In h)
    (hf : alongIn K name l = some (some (.builtin id))) (hty : typeOf (.builtin id) = pure (.type dT)) (hsl : Slot dT "__get__" gid) (hent : entryFor table gid = some Bg) (hargs : argsOk gid ⟨[.builtin id, .ref x, .ref C], []⟩) (hxC : x ≠ C) (hn : (name == ("__class__" : Str)) = false)
    (hg : ∀ (A' : Around) (t' : Nat) (E' : Value → Shared → Prop) (Q' : Fin → Shared → Prop), Q' (.done (.ret (.ref h.objs.size))) ⟨h.push ob, g, d, t', os⟩ → wpAny (model prog w) A' (Bg ⟨[.builtin id, .ref x, .ref C], []⟩) Q' E' ⟨h, g, d, t', os⟩)
    (hq : Q (.ref h.objs.size, []) ⟨h.push ob, g, d, t + 1, os⟩) :
    wpAny (model prog w) A (getMethod (.ref so) name pl) Q E ⟨h, g, d, t, os⟩ := by
  have hlk := F.ks_slot_super_ga.lookup
  have hcan := F.ks_canon_super_ga
  have hT : ∀ t', (⟨h, g, d, t', os⟩ : Shared).TypeIs (.ref so) "super" := fun _ => ⟨_, hso, rfl⟩
  unfold getMethod
  refine wpAny_bind (wpAny_specialOf (hT _) hlk ?_)
  show wpAny _ _ (if (Manifest.canonical "super.__getattribute__" != "object.__getattribute__") = true then _ else _) _ _ _
  rw [if_pos hcan]
  unfold getAttr getAttrBy
  refine wpAny_bind (wpAny_bind (wpAny_mkText (wpAny_holding (wpAny_bind (wpAny_typeOf (hT _) (wpAny_bind (wpAny_of_eq hlk ?_)))))))
  show wpAny _ _ (getAttrByItsOwn (.ref so) (.str name t) (.type "super") (.builtin "super.__getattribute__") true false) _ _ _
  unfold getAttrByItsOwn hookBefore callGetattribute boundAndCalled
  refine wpAny_bind (wpAny_of_eq (show (if onTheHeap (.type "super") then typeLookup (.type "super") "__getattr__" else pure none) = pure none from rfl) ?_)
  refine wpAny_bind (wpAny_attempt (wpAny_holding ?_))
  show wpAny _ _ (bindSpecial (.builtin "super.__getattribute__") (.ref so) >>= _) _ _ _
  refine wpAny_bind (wpAny_of_eq (F.ks_slot_super_ga.bind _) ?_)
  refine wpAny_mono (Q := fun v s' => v = .ref h.objs.size ∧ s' = ⟨h.push ob, g, d, t + 1, os⟩) (E := fun _ _ => False)
    (wpAny_call_entry F.ks_slot_super_ga (hT _) F.ks_entry_super_ga (super_ga_bi hso hno hC hl X hf hty hsl hent hargs hxC hn (fun A' Q' z => hg A' _ _ Q' z) ⟨_, rfl, rfl, rfl⟩) (F.ks_gaArgs_super _ _)) (fun v s' hv => ?_) fun _ _ z => z.elim
  obtain ⟨rfl, rfl⟩ := hv
  exact wpAny_pure (wpAny_pure hq)
end
end Mine
namespace Mine
section
variable {K : Frag} {prog : Program} {w : World} {A : Around} {s : Shared} {R : Result → Shared → Prop} {mg mb : Str → Option Value} {p : Program} {loose : List Str} {mean : ExcName → Option Value}
  {name qual : Str} {params : Arguments} {body : List Stmt} {scope : Scope} {dV kV doc pm cdv ct oc : Value} {an od : Option Addr} {osl : Array (Option Value)} {f cc : Addr} {args : Args} {binds : List (Str × Value)}
/-- enter a method that closes over __class__ -/
theorem enterS {B : Heap} {n : Nat} (muts : List (Addr × Obj)) (X : K.In B) (T : Top p loose mean mg mb B) (hA : Room A (n + 1)) (st : B.StaysIn s.heap) (hm : ∀ p ∈ muts, s.heap.get? p.1 = some p.2 ∧ B.get? p.1 = none)
    (ho : K.lookup f = some ⟨oc, od, .func (ksFn name qual params body scope dV kV doc pm an cdv ct cc), osl⟩) (hcd : codeIn K cdv qual = true)
    (hbind : BindsTo s (ksFn name qual params body scope dV kV doc pm an cdv ct cc) args binds) (hloc : ∀ y ∈ binds, scope.names.lookup y.1 = some .local)
    (h : ∀ g L h₁, Keep (muts.map (·.1)) s.heap g → (∀ a o, s.heap.get? a = some o → @LT.lt Nat _ a L) → Fr g L h₁ (fun y => binds.reverse.lookup y) → News g L h₁ muts → K.In g → Top p loose mean mg mb g → B.StaysIn g → Room (A.deeper (ksEnv qual scope L f cdv cc)) n →
      _root_.PySem.wpAt (model prog w) (A.deeper (ksEnv qual scope L f cdv cc)) (.func body (ksEnv qual scope L f cdv cc)) (execs body (ksEnv qual scope L f cdv cc))
        (fun fl s' => R (.ok (.ret (match fl with | .ret v => v | _ => .none))) s') (fun _ _ => False)
        { s with heap := h₁, toks := s.toks + binds.length })
    (hcell : ∀ x ∈ scope.names, x.2 ≠ .cell) (hco : scope.isCoroutine = false := by rfl) (hgen : scope.isGenerator = false := by rfl) (hk : scope.kind = .function := by rfl) : codeAny (model prog w) A (.call (.ref f) args) R s := by
  have hS : ∀ a ∈ muts.map (·.1), B.get? a = none := fun a ha => by obtain ⟨q, hq, rfl⟩ := List.mem_map.mp ha; exact (hm q hq).2
  have stg : B.StaysIn (hideAll s.heap (muts.map (·.1))) := fun b o e => hideAll_get _ (st b o e) fun q => by rw [hS b q] at e; cases e
  refine ks_codeAny_call_defAt (fd := ksFn name qual params body scope dV kV doc pm an cdv ct cc) (body := body) (binds := binds) hA.depth (st _ _ (X _ _ ho)) rfl (T.nolimit.keeps st) (codeRec_of (fun a o e => st a o (X a o e)) hcd) rfl hbind hcell hloc (fun h₁ hns hk₁ => ?_) hco hgen hk
  exact ks_wpAt_mono (h _ s.heap.objs.size h₁ (fun b o hb e => hideAll_get _ e hb) (fun a o e => Heap.lt_size e) ⟨hns, fun b o e => hk₁ b o (of_hideAll _ e), Nat.le_of_eq (hideAll_size _ _)⟩
    (fun p hp => ⟨hk₁ _ _ (hm p hp).1, Nat.ne_of_lt (Heap.lt_size (hm p hp).1), hideAll_none _ (List.mem_map_of_mem hp)⟩)
    (fun a o e => stg a o (X a o e)) (T.keeps stg) stg (hA.deeper _)) (fun _ _ x => x) fun _ _ x => x.elim
end
section
variable {prog : Program} {w : World} {A : Around} {E : Value → Shared → Prop} {s : Shared}
theorem call_bound {q x : Addr} {bt id : String} {b : Builtin} {args : List Value} {Q : Value → Shared → Prop} (hb : s.heap.get? q = some { cls := .type bt, data := .fields #[.builtin id, .ref x] }) (hbt : (Value.type bt == .type "builtin_function_or_method" || Value.type bt == .type "method-wrapper") = true) (hnm : (Value.type bt != .type "method") = true)
    (hplain : plainId id = true) (hent : entryFor table id = some b) (hchk : ∀ (A' : Around) (Q' : Unit → Shared → Prop) (E' : Value → Shared → Prop), Q' () s → wpAny (model prog w) A' (checkBoundCall id ⟨.ref x :: args, []⟩) Q' E' s)
    (hc : wpAny (model prog w) A.in1 (b ⟨.ref x :: args, []⟩) (fun fin s' => ∃ v, fin = .done (.ret v) ∧ Q v s') E s) : wpAny (model prog w) A (call (.ref q) args) Q E s := by
  refine wpAny_call (codeAny_of_tree ?_)
  show wpAny _ A.in1 (callAny (.ref q) ⟨args, []⟩) _ _ _
  unfold callAny
  refine wpAny_bind (wpAny_load hb ?_)
  show wpAny _ A.in1 (if (Value.type bt == .type "method" || Value.type bt == .type "builtin_function_or_method" || Value.type bt == .type "method-wrapper") = true then _ else _) _ _ _
  rw [if_pos (by rw [Bool.or_assoc, hbt, Bool.or_true])]
  show wpAny _ A.in1 (if (Value.type bt != .type "method") = true then (do checkBoundCall id ⟨.ref x :: args, []⟩; again (.builtin id ⟨.ref x :: args, []⟩)) else _) _ _ _
  rw [if_pos hnm]
  refine wpAny_bind (hchk _ _ _ (wpAny_pure ⟨plainId_quiet hplain _, codeAny_builtin hent ?_⟩))
  rw [Around.under_plainId hplain _]
  refine wpAny_mono hc (fun fin s' h' => ?_) fun _ _ h' => h'
  obtain ⟨v, rfl, hv⟩ := h'; exact hv
theorem callWith_bound {pos : Pos} {env : Env} {q x : Addr} {bt id : String} {Q : Value → Shared → Prop} (hb : s.heap.get? q = some { cls := .type bt, data := .fields #[.builtin id, .ref x] }) (hbt : (Value.type bt == .type "builtin_function_or_method" || Value.type bt == .type "method-wrapper") = true) (hnm : (Value.type bt != .type "method") = true)
    (h : wpAny (model prog w) A (call (.ref q) []) Q E s) : wpAny (model prog w) A (callWith pos (.ref q) [] (backTo pos (starEach [] env)) []) Q E s := by
  unfold callWith
  refine wpAny_bind (wpAny_holding (evalArgs_nil3 (wpAny_bind (wpAny_standAt ?_))))
  refine wpAny_bind (m := keeperOf (.ref q)) ?_
  unfold keeperOf
  refine wpAny_bind (wpAny_load hb ?_)
  show wpAny _ _ (if (Value.type bt != .type "method") = true then (pure (if (Value.type bt == .type "builtin_function_or_method" || Value.type bt == .type "method-wrapper") = true then Keeper.machine else Keeper.caller)) else _) _ _ _
  rw [if_pos hnm, if_pos hbt]
  refine wpAny_pure ?_
  refine wpAny_bind ?_
  exact wpAny_mono h (fun r s₂ hr => wpAny_bind (wpAny_holding (wpAny_point (wpAny_pure hr)))) fun _ _ x => x
end
section
variable {K : Frag} {prog : Program} {w : World} {A : Around} {s : Shared} {E : Value → Shared → Prop} {x C : Addr} {ox : Obj} {od : Option Obj} {ga : String}
theorem method_fv {name : Str} {pl : Sem Bool} {fv T : Value} {Q : Value × List Value → Shared → Prop} (X : K.In s.heap) (I : InstAt s.heap x ox C od) (hga : findIn K (.ref C) "__getattribute__" = some (some (.builtin ga))) (hcan : (Manifest.canonical ga != "object.__getattribute__") = false) (hk : findIn K (.ref C) "__getattr__" = some none)
    (hf : findIn K (.ref C) name = some (some fv)) (ht : typeIn K fv = some T) (hT : (T != .type "function" && T != .type "method_descriptor" && T != .type "wrapper_descriptor") = false) (hs : shadowIn od name = some false) (h : Q (fv, [.ref x]) s) :
    wpAny (model prog w) A (getMethod (.ref x) name pl) Q E s := by
  unfold getMethod specialOf
  refine wpAny_bind (wpAny_bind (I.type.here ((looks_findIn X hga).here ?_)))
  dsimp only
  rw [if_neg (by rw [hcan]; decide)]
  refine wpAny_bind (wpAny_bind (I.type.here ((looks_findIn X hk).here ?_)))
  refine wpAny_bind (wpAny_bind (I.type.here ((looks_findIn X hf).here (wpAny_bind ((looks_typeIn X ht).here ?_)))))
  rw [if_neg (by rw [hT]; decide)]
  refine wpAny_bind (wpAny_loadPart I.at_ ?_)
  have hd := I.dict
  cases e : ox.dict with
  | none => exact wpAny_bind (wpAny_rule (wpAny_pure h))
  | some dx =>
    cases od with
    | none => rw [e] at hd; exact hd.elim
    | some o =>
      rw [e] at hd
      obtain ⟨r, a, b⟩ := Option.map_eq_some_iff.mp hs
      refine wpAny_bind (wpAny_bind (wpAny_loadPart hd ?_))
      rw [nsLook_of a]
      refine wpAny_pure ?_
      rw [b]
      exact wpAny_bind (wpAny_rule (wpAny_pure h))
end
section
variable {w : World} {B : Heap} {p : Program} {loose : List Str} {mean : ExcName → Option Value} {mg mb : Str → Option Value} {A : Around} {s : Shared} {Q E : Value → Shared → Prop}

theorem count_c {P dx : Addr} {es : List DictEntry} {en : Nat} {vs : Array Value} {n : Nat} (X : (hd.heap_1 w.params).In B) (T : Top p loose mean mg mb B) (hA : Room A 3) (st : B.StaysIn s.heap)
    (hsz : vs.size ≤ 100) (hP : s.heap.get? P = some (accO dx vs n)) (hdx : s.heap.get? dx = some (dictOf es en)) (hPB : B.get? P = none) (hdB : B.get? dx = none)
    (hQ : ∀ h' tk' t', s.heap.StaysIn h' → Q (.int vs.size t') { s with heap := h', toks := tk' }) :
    wpAny (model PySem.Challenge.rw_un0043_01.row.toRowW.prog w) A (call (.ref 151) [.ref P]) Q E s := by
  revert X; k_fill; intro X
  have Xs : (hd.heap_1 w.params).In s.heap := fun a o e => st a o (X a o e)
  refine wpAny_call ?_
  k_dflt (refine' enterS [(P, accO dx vs n), (dx, dictOf es en)] X T hA st ?hm ?ho ?hcd ?hb ?hl ?_ ?hc ?h1 ?h2 ?h3; (case hm => simpa using ⟨⟨hP, hPB⟩, hdx, hdB⟩); (case ho => k_is); (case hcd => k_is); (case hb => first | exact BindsTo.of_eq rfl | exact binds_K Xs rfl (by k_is) rfl rfl rfl); (case hl => exact locs rfl); (case hc => decide); (case h1 => exact rfl); (case h2 => exact rfl); (case h3 => exact rfl))
  intro g L h₁ hg hL F N X' T' st' hA'
  replace F : Fr g L h₁ (fun y' => List.lookup y' [(Str.ofString "self", .ref P)]) := F
  have I : InstAt h₁ P (accO dx vs n) 154 (some (dictOf es en)) := ⟨(N _ (.head _)).1, rfl, rfl, (N _ (.tail _ (.head _))).1⟩
  refine ks_wpAt_execs_cons ?_
  refine ks_wpAt_Return_some ?_
  refine ks_wpAt_MethodCall ?_
  k_dflt (refine ks_node (F := F) (X₀ := X') (N := N) (T := T') (by k_is) (by rfl) (by rfl) I (by k_is) (by rfl) (by first | rfl | decide +kernel) (by k_is) (by k_is) (by k_is) (by k_is) (by decide) (by rfl) (by rfl) (by rfl) (by rfl) (by decide +kernel) (by first | boot_by_name | rfl | kernel_rfl) ?_)
  intro so h2 F2 N2 l2
  have I2 : InstAt h2 P (accO dx vs n) 154 (some (dictOf es en)) := ⟨(N2 _ (.tail _ (.head _))).1, rfl, rfl, (N2 _ (.tail _ (.tail _ (.head _)))).1⟩
  have X2 := Frag.In.keeps X' F2.keep
  have hP154 : P ≠ 154 := ks_ne X2 I2 (cd := _) (by k_is)
  refine super_gm_bi (K := hd.heap_1 w.params) (id := "list.__len__") (N2 _ (.head _)).1 (looks_opaque X2 (by k_is)) ((looks_clsIn X2 (by k_is)).andThen .now) rfl X2 (by with_unfolding_all rfl) (by show builtinType _ = _; rw [builtinType_eq_fast]; kernel_rfl) slot_wd_get entry_wd_get (args_wd_get _ _ _) hP154 (by decide)
    (fun A' t' E' Q' hq => wd_get_len (s := ⟨h2, _, _, t', _⟩) X2 I2 (by k_is) hq) ?_
  refine callWith_bound (bt := "method-wrapper") (Heap.get?_push_at rfl rfl) (by decide) (by decide) ?_
  have hPp : (h2.push { cls := .type "method-wrapper", data := .fields #[.builtin "list.__len__", .ref P] }).get? P = some (accO dx vs n) := Heap.get?_push_of_some _ (N2 _ (.tail _ (.head _))).1
  refine call_bound (bt := "method-wrapper") (id := "list.__len__") (Heap.get?_push_at rfl rfl) (by decide) (by decide) (by decide +kernel) PySem.F.entry_list_len (fun _ _ _ hq => wpAny_of_eq (by kernel_rfl) hq) ?_
  unfold Builtin.«list.__len__»
  repeat wp_step
  have sa := stays_all hg F2 N2 (by simpa using ⟨hP, hdx⟩) (fun _ h => .tail _ h)
  exact ⟨_, rfl, hQ _ _ _ fun b o e => Heap.get?_push_of_some _ (sa b o e)⟩
end
end Mine
namespace Mine
end Mine
--LINES
local macro_rules | `(tactic| walk_at "getMethod ref") => `(tactic| (k_here; (with_reducible show wpAny _ _ (getMethod (Value.ref _) (PySem.Str.ofString "part_count") _) _ _ _); k_dflt (refine Mine.halt_of ?_)))
local macro_rules | `(tactic| walk_at "wpAt") => `(tactic| (k_here; (refine Mine.halt_of ?_)))
--END
namespace Mine
section
variable {w : World} {B : Heap} {p : Program} {loose : List Str} {mean : ExcName → Option Value} {mg mb : Str → Option Value} {A : Around} {s : Shared} {Q E : Value → Shared → Prop}

theorem pop_c {P dx : Addr} {es : List DictEntry} {en : Nat} {vs : Array Value} {v : Value} {n : Nat} (X : (hd.heap_1 w.params).In B) (T : Top p loose mean mg mb B) (hA : Room A 5) (st : B.StaysIn s.heap)
    (hsz : (vs.push v).size ≤ 100) (hP : s.heap.get? P = some (accO dx (vs.push v) n)) (hdx : s.heap.get? dx = some (dictOf es en)) (hPB : B.get? P = none) (hdB : B.get? dx = none) (hes : getL (Str.ofString "part_count") es = some none)
    (hQ : ∀ h' tk' n', h'.get? P = some (accO dx vs n') → Keep [P] s.heap h' → Q v { s with heap := h', toks := tk' }) :
    wpAny (model PySem.Challenge.rw_un0043_01.row.toRowW.prog w) A (call (.ref 114) [.ref P]) Q E s := by
  revert X; k_fill; intro X
  have Xs : (hd.heap_1 w.params).In s.heap := fun a o e => st a o (X a o e)
  refine wpAny_call ?_
  k_dflt (refine' enterS [(P, accO dx (vs.push v) n), (dx, dictOf es en)] X T hA st ?hm ?ho ?hcd ?hb ?hl ?_ ?hc ?h1 ?h2 ?h3; (case hm => simpa using ⟨⟨hP, hPB⟩, hdx, hdB⟩); (case ho => k_is); (case hcd => k_is); (case hb => first | exact BindsTo.of_eq rfl | exact binds_K Xs rfl (by k_is) rfl rfl rfl); (case hl => exact locs rfl); (case hc => decide); (case h1 => exact rfl); (case h2 => exact rfl); (case h3 => exact rfl))
  intro g L h₁ hg hL F N X' T' st' hA'
  replace F : Fr g L h₁ (fun y' => List.lookup y' [(Str.ofString "self", .ref P)]) := F
  have I : InstAt h₁ P (accO dx (vs.push v) n) 154 (some (dictOf es en)) := ⟨(N _ (.head _)).1, rfl, rfl, (N _ (.tail _ (.head _))).1⟩
  refine ks_wpAt_execs_cons ?_
  refine wpAt_of_wpAny ?_
  k_steps
  show wpAny _ _ (getMethod _ _ _) _ _ _
  refine method_fv (K := hd.heap_1 w.params) (ga := "list.__getattribute__") (Frag.In.keeps X' F.keep) I (by k_is) (by decide +kernel) (by k_is) (by k_is) (by k_is) (by decide) (by show (lookIn _ (dictOf _ _)).map _ = _; rw [lookIn_dict, hes]; rfl) ?_
  k_steps
  refine count_c X T (hA'.mono (by omega)) (fun b o e => F.keep _ _ (st' b o e)) hsz (N _ (.head _)).1 (N _ (.tail _ (.head _))).1 hPB hdB ?_
  intro h2 tk2 t2 st2
  have F2 := F.keeps st2
  have N2 := News.st N st2
  clear F N I
  k_steps
  · rename ((_ : Nat) : Int) = 0 => hz
    rw [Array.size_push] at hz
    omega
  show _root_.PySem.wpAt _ _ _ _ _ _ _
  have I2 : InstAt h2 P (accO dx (vs.push v) n) 154 (some (dictOf es en)) := ⟨(N2 _ (.head _)).1, rfl, rfl, (N2 _ (.tail _ (.head _))).1⟩
  refine ks_wpAt_execs_cons ?_
  refine ks_wpAt_Return_some ?_
  refine ks_wpAt_MethodCall ?_
  k_dflt (refine ks_node (F := F2) (X₀ := X') (N := N2) (T := T') (by k_is) (by rfl) (by rfl) I2 (by k_is) (by rfl) (by first | rfl | decide +kernel) (by k_is) (by k_is) (by k_is) (by k_is) (by decide) (by rfl) (by rfl) (by rfl) (by rfl) (by decide +kernel) (by first | boot_by_name | rfl | kernel_rfl) ?_)
  intro so h3 F3 N3 l3
  have I3 : InstAt h3 P (accO dx (vs.push v) n) 154 (some (dictOf es en)) := ⟨(N3 _ (.tail _ (.head _))).1, rfl, rfl, (N3 _ (.tail _ (.tail _ (.head _)))).1⟩
  have X3 := Frag.In.keeps X' F3.keep
  have hP154 : P ≠ 154 := ks_ne X3 I3 (cd := _) (by k_is)
  refine super_gm_bi (K := hd.heap_1 w.params) (id := "list.pop") (N3 _ (.head _)).1 (looks_opaque X3 (by k_is)) ((looks_clsIn X3 (by k_is)).andThen .now) rfl X3 (by with_unfolding_all rfl) (by show builtinType _ = _; rw [builtinType_eq_fast]; kernel_rfl) slot_md_get entry_md_get (args_md_get _ _ _) hP154 (by decide)
    (fun A' t' E' Q' hq => md_get_pop (s := ⟨h3, _, _, t', _⟩) X3 I3 (by k_is) hq) ?_
  refine callWith_bound (bt := "builtin_function_or_method") (Heap.get?_push_at rfl rfl) (by decide) (by decide) ?_
  have hPp : (h3.push { cls := .type "builtin_function_or_method", data := .fields #[.builtin "list.pop", .ref P] }).get? P = some (accO dx (vs.push v) n) := Heap.get?_push_of_some _ (N3 _ (.tail _ (.head _))).1
  refine call_bound (bt := "builtin_function_or_method") (id := "list.pop") (Heap.get?_push_at rfl rfl) (by decide) (by decide) (by decide +kernel) PySem.F.entry_list_pop (fun _ _ _ hq => ?_) ?_
  · have Xp : (hd.heap_1 w.params).In (h3.push { cls := .type "builtin_function_or_method", data := .fields #[.builtin "list.pop", .ref P] }) := fun a o e => Heap.get?_push_of_some _ (X3 a o e)
    unfold checkBoundCall
    repeat wp_step
    refine (looks_mroIn Xp (C := 154) (base := .type "module") (r := false) (by k_is)).here ?_
    repeat wp_step
    refine wpAny_load (Xp 154 _ (by k_is)) ?_
    repeat wp_step
    refine wpAny_loadPart (Xp 154 _ (by k_is)) ?_
    repeat wp_step
    exact hq
  unfold Builtin.«list.pop»
  repeat wp_step
  have hpk : ((seqIndex? (-1) (vs.push v).size).bind fun k => Option.map (fun x => (k, x)) (vs.push v)[k]?) = some (vs.size, v) := by
    have e1 : seqIndex? (-1) (vs.push v).size = some vs.size := by
      unfold seqIndex?
      rw [Array.size_push]
      simp
      try omega
    rw [e1]
    simp
  rw [hpk]
  dsimp only
  have hd : (accO dx (vs.push v) n).data = .seq (vs.push v) n := rfl
  obtain ⟨n', hd'⟩ := Obj.data_mapSeq hd (·.eraseIdxIfInBounds vs.size)
  have ev : (vs.push v).eraseIdxIfInBounds vs.size = vs := by
    apply Array.toList_inj.mp
    rw [Array.eraseIdxIfInBounds, dif_pos (by rw [Array.size_push]; omega), Array.toList_eraseIdx, Array.toList_push, List.eraseIdx_append_of_length_le (by simp)]
    simp
  have hz8 : ((vs.push v).eraseIdxIfInBounds vs.size).size ≤ sizeLine := by rw [ev]; rw [Array.size_push] at hsz; exact Nat.le_trans (Nat.le_of_succ_le hsz) (by decide)
  have hz9 : (vs.push v).size ≤ sizeLine := Nat.le_trans hsz (by decide)
  show wpAny _ _ (updateSeq P (·.eraseIdxIfInBounds vs.size) >>= fun _ => ret v) _ _ _
  refine wpAny_bind ?_
  refine wpAny_updateSeq hPp hd (wpAny_pure ⟨v, rfl, hQ _ _ (if ((vs.push v).eraseIdxIfInBounds vs.size).size == (vs.push v).size then n else n + 1) ?_ ?_⟩)
  · refine (Heap.get?_update_self _ hPp (Obj.isFreed_of_seq hd')).trans ?_
    show some (accO dx ((vs.push v).eraseIdxIfInBounds vs.size) (if ((vs.push v).eraseIdxIfInBounds vs.size).size == (vs.push v).size then n else n + 1)) = _
    rw [ev]
  · intro b o hb e
    have hbP : b ≠ P := fun q => hb (q ▸ .head _)
    refine ((Heap.SameBut.update ..).2 b hbP).trans (Heap.get?_push_of_some _ ?_)
    by_cases hbd : b = dx
    · rw [hbd, hdx] at e
      cases e
      rw [hbd]
      exact (N3 _ (.tail _ (.tail _ (.head _)))).1
    · exact F3.keep _ _ (hg b o (by simp only [List.map_cons, List.map_nil, List.mem_cons, List.not_mem_nil, or_false, not_or]; exact ⟨hbP, hbd⟩) e)
end
end Mine
namespace Mine
def codeN : Array Nat := #[14, 10, 4, 1, 1, 22, 0, 31, 16, 127, 0, 13, 7, 22, 0, 31, 16, 127, 0, 1]
def codeV : Array Nat := #[14, 14, 4, 1, 1, 9, 4294966783, 0, 0, 2147483648, 0, 0, 0, 0, 0, 13, 11, 9, 4294966783, 0, 0, 2147483648, 0, 0, 0, 0, 0, 1]
theorem ex_of {r : Except String (Bool × Sre.Seen)} (h : Except.map Prod.fst r = .ok false) : ∃ sn', r = .ok (false, sn') := by
  cases r with
  | error e => cases h
  | ok v => obtain ⟨a, b⟩ := v; cases h; exact ⟨_, rfl⟩
theorem inSet_N (c : Nat) (h1 : 32 ≤ c) (h2 : c < 127) (sn : Sre.Seen) : ∃ sn', Sre.inSet codeN c codeN.size 5 true sn = .ok (false, sn') := by
  refine ex_of ?_
  show Except.map Prod.fst (Sre.inSet codeN c (17 + 3) 5 true sn) = _
  rw [Sre.inSet]
  show Except.map Prod.fst (if ((0 ≤ c && c ≤ 31) = true) then _ else _) = _
  rw [if_neg (by simp; omega)]
  show Except.map Prod.fst (Sre.inSet codeN c (18 + 1) 8 true _) = _
  rw [Sre.inSet]
  show Except.map Prod.fst (if ((c == 127) = true) then _ else _) = _
  rw [if_neg (by simp; omega)]
  show Except.map Prod.fst (Sre.inSet codeN c (17 + 1) 10 true _) = _
  rw [Sre.inSet]
  rfl
theorem bitV : ∀ c : Fin 127, 32 ≤ c.val → (codeV.getD (5 + (1 + c.val / 32)) 0).testBit (c.val % 32) = false := by decide
theorem inSet_V (c : Nat) (h1 : 32 ≤ c) (h2 : c < 127) (sn : Sre.Seen) : ∃ sn', Sre.inSet codeV c codeV.size 5 true sn = .ok (false, sn') := by
  refine ex_of ?_
  show Except.map Prod.fst (Sre.inSet codeV c (26 + 2) 5 true sn) = _
  rw [Sre.inSet]
  show Except.map Prod.fst (if ((c < 256 && (codeV.getD (5 + (1 + c / 32)) 0).testBit (c % 32)) = true) then _ else _) = _
  rw [bitV ⟨c, h2⟩ h1, if_neg (by simp)]
  show Except.map Prod.fst (Sre.inSet codeV c (26 + 1) 14 true _) = _
  rw [Sre.inSet]
  rfl
theorem admitted_none (m : Sre.M) (ht : ∀ c ∈ m.text.toList, 32 ≤ c ∧ c < 127) (hl : m.lim ≤ m.text.size)
    (hc : ∀ c, 32 ≤ c → c < 127 → ∀ sn, ∃ sn', Sre.inSet m.code c m.code.size 5 true sn = .ok (false, sn')) :
    ∀ fuel s sn, ∃ sn', Sre.M.admitted m fuel s sn = .ok (none, sn') := by
  intro fuel
  induction fuel with
  | zero => intro s sn; exact ⟨_, rfl⟩
  | succ n ih =>
    intro s sn
    rw [Sre.M.admitted]
    by_cases hs : s ≥ m.lim
    · rw [if_pos hs]; exact ⟨_, rfl⟩
    · rw [if_neg hs]
      have hs' : s < m.text.size := by omega
      have hg : m.text.getD s 0 = m.text[s] := by simp [Array.getD, hs']
      obtain ⟨a, b⟩ := ht (m.text.getD s 0) (by rw [hg]; exact Array.getElem_mem_toList hs')
      obtain ⟨sn', e⟩ := hc _ a b sn
      rw [e]
      exact ih _ _
structure Fails (m : Sre.M) : Prop where
  a : m.answer = some false
  f : m.frames = []
  o : m.outcome = none
theorem search_fails {code text : Array Nat} (hcode : code = codeN ∨ code = codeV) (ht : ∀ c ∈ text.toList, 32 ≤ c ∧ c < 127) : Fails (Sre.forSearch code text 0 0 text.size false) := by
  have hc : ∀ c, 32 ≤ c → c < 127 → ∀ sn, ∃ sn', Sre.inSet code c code.size 5 true sn = .ok (false, sn') := by
    rcases hcode with rfl | rfl
    · exact inSet_N
    · exact inSet_V
  unfold Sre.forSearch
  dsimp only
  split
  · exact ⟨rfl, rfl, rfl⟩
  · unfold Sre.M.attemptFrom
    have hf : ∀ m : Sre.M, m.code = code → m.hasFirstSet = true := by
      intro m e
      unfold Sre.M.hasFirstSet
      rw [e]
      rcases hcode with rfl | rfl <;> rfl
    rw [if_neg (by rw [hf _ rfl]; decide)]
    generalize hm : (Sre.M.mk _ _ _ _ _ _ _ _ _ _ _ _ _ _ _ _ _ _ _ _ _) = m
    obtain ⟨sn', e⟩ := admitted_none m (by rw [← hm]; exact ht) (by rw [← hm]; exact Nat.le_refl _) (by rw [← hm]; exact hc) (m.lim + 1 - 0) 0 m.seen
    rw [e]
    rw [← hm]
    exact ⟨rfl, rfl, rfl⟩
section
variable {prog : Program} {w : World} {A : Around} {E : Value → Shared → Prop} {s : Shared}
theorem drive_fails {m : Sre.M} (h : Fails m) : ∃ m', Builtin.Re.reDrive (2 ^ 64) m = pure m' ∧ m'.outcome = some .failed := by
  refine ⟨m.runFor Builtin.Re.reTurnSteps, ?_⟩
  have e : (m.runFor Builtin.Re.reTurnSteps).outcome = some .failed := by
    show (Sre.M.runFor 4 m).outcome = _
    have h1 : m.step.outcome = some .failed := by
      unfold Sre.M.step
      rw [h.o, h.a, h.f]
      rfl
    have h2 : ∀ k, (Sre.M.runFor k m.step).outcome = some .failed := by
      intro k
      cases k with
      | zero => exact h1
      | succ k => unfold Sre.M.runFor; rw [h1]; exact h1
    unfold Sre.M.runFor
    rw [h.o]
    exact h2 3
  refine ⟨?_, e⟩
  show Builtin.Re.reDrive ((2 ^ 64 - 1) + 1) m = _
  unfold Builtin.Re.reDrive
  dsimp only
  rw [e]
  rfl
theorem run_fails {m : Sre.M} (h : Fails m) {Q : Option Sre.M → Shared → Prop} (hq : Q none s) : wpAny (model prog w) A (Builtin.Re.reRunToEnd m) Q E s := by
  obtain ⟨m', e, eo⟩ := drive_fails h
  unfold Builtin.Re.reRunToEnd
  rw [e]
  refine wpAny_bind (wpAny_pure ?_)
  refine wpAny_bind (wpAny_forIn_list _ (fun _ _ s' => s' = s) _ ?_ ?_ _ _ rfl)
  · intro x rest b s' hs
    subst hs
    split
    · exact wpAny_bind (wpAny_rule (wpAny_pure rfl))
    · exact wpAny_pure rfl
  · intro b s' hs
    subst hs
    rw [eo]
    exact wpAny_pure hq
theorem search_bi {P C : Addr} {o oc : Obj} {a b c d : Value} {t1 t2 : Tok} {vs : Array Value} {n : Nat} {x : Str} {t : Tok} {Q : Fin → Shared → Prop}
    (hP : s.heap.get? P = some o) (hd : o.data = .fields #[a, b, .int 0 t1, c, d, .ref C, .int 0 t2]) (hC : s.heap.get? C = some oc) (hcd : oc.data = .seq vs n)
    (hcode : (vs.map Builtin.Re.reRawOf).map (·.toNat) = codeN ∨ (vs.map Builtin.Re.reRawOf).map (·.toNat) = codeV) (hx : ∀ c ∈ x.cps.toList, 32 ≤ c ∧ c < 127) (hl : x.cps.size < 1000)
    (hq : Q (.done (.ret .none)) s) : wpAny (model prog w) A (Builtin.«re.Pattern.search» ⟨[.ref P, .str x t], []⟩) Q E s := by
  unfold Builtin.«re.Pattern.search»
  refine wpAny_bind ?_
  unfold Builtin.Re.reTarget
  dsimp only
  refine wpAny_bind (wpAny_of_eq (a := [some (.str x t), none, none]) (by rfl) ?_)
  dsimp only
  repeat wp_step
  rw [hd]
  refine wpAny_pure ?_
  refine wpAny_bind (wpAny_of_eq (a := (x.cps, 0)) (by rfl) ?_)
  dsimp only
  have g6 : (#[a, b, Value.int 0 t1, c, d, Value.ref C, Value.int 0 t2] : Array Value).getD 6 .none = .int 0 t2 := rfl
  have g5 : (#[a, b, Value.int 0 t1, c, d, Value.ref C, Value.int 0 t2] : Array Value).getD 5 .none = .ref C := rfl
  have g2 : (#[a, b, Value.int 0 t1, c, d, Value.ref C, Value.int 0 t2] : Array Value).getD 2 .none = .int 0 t1 := rfl
  rw [g6, g5, g2]
  rw [if_neg (fun h : (Builtin.Re.reRawNat (.int 0 t2) == 0 && (0 : Nat) == 1) = true => by simp at h), if_neg (fun h : (Builtin.Re.reRawNat (.int 0 t2) == 1 && (0 : Nat) == 0) = true => by simp [Builtin.Re.reRawNat] at h)]
  refine wpAny_bind (wpAny_of_eq (a := ()) (by rfl) ?_)
  refine wpAny_bind (wpAny_bind ?_)
  show wpAny _ _ (seqItems? (.ref C)) _ _ _
  unfold seqItems?
  refine wpAny_bind (wpAny_load hC ?_)
  rw [hcd]
  refine wpAny_pure (wpAny_pure (wpAny_pure ?_))
  unfold Builtin.Re.reAnswer
  have hlim : min (2 ^ 63 - 1 : Int).toNat x.cps.size = x.cps.size := by
    have h9 : (2 ^ 63 - 1 : Int).toNat = 9223372036854775807 := by decide
    rw [h9]; omega
  refine wpAny_bind (run_fails ?_ ?_)
  · show Fails (Sre.forSearch ((vs.map Builtin.Re.reRawOf).map (·.toNat)) x.cps 0 (min 0 x.cps.size) (min (2 ^ 63 - 1 : Int).toNat x.cps.size) false)
    rw [hlim, Nat.zero_min]
    exact search_fails hcode hx
  · exact wpAny_pure hq
end
theorem plain_re : PlainAttrs "re.Pattern" := ⟨⟨"object.__getattribute__", by rw [typeLookup_type, builtinLookup_eq_fast]; kernel_rfl, by decide +kernel⟩, by rw [typeLookup_type, builtinLookup_eq_fast]; kernel_rfl⟩
theorem slot_search : Slot "re.Pattern" "search" "re.Pattern.search" := .of (owner := "re.Pattern") (n := "search") (by rw [typeLookup_type, builtinLookup_eq_fast]; kernel_rfl) (by decide +kernel) (by decide +kernel) (by decide +kernel) (by first | exact .inl (by decide +kernel) | exact .inr (by decide +kernel)) (by rw [isSubtype_type]; kernel_rfl)
theorem entry_search : entryFor table "re.Pattern.search" = some Builtin.«re.Pattern.search» := entryFor_of_tree (by kernel_rfl)
theorem args_search (a b : Value) : argsOk "re.Pattern.search" ⟨[a, b], []⟩ := by unfold argsOk; kernel_rfl
theorem ty_search : typeOf (.builtin "re.Pattern.search") = pure (.type "method_descriptor") := by show builtinType _ = _; rw [builtinType_eq_fast]; kernel_rfl
end Mine
namespace Mine
end Mine
--LINES
local macro_rules | `(tactic| walk_at "getMethod ref") => `(tactic| (k_here; (with_reducible show wpAny _ _ (getMethod (Value.ref _) (PySem.Str.ofString "search") _) _ _ _); k_dflt (refine Mine.halt_of ?_)))
local macro_rules | `(tactic| walk_at "call builtin:re.Pattern.search") => `(tactic| (k_here; (with_reducible show wpAny _ _ (call (Value.builtin "re.Pattern.search") _) _ _ _); k_dflt (refine Mine.halt_of ?_)))
--END
namespace Mine
section
variable {w : World} {B : Heap} {p : Program} {loose : List Str} {mean : ExcName → Option Value} {mg mb : Str → Option Value} {A : Around} {s : Shared} {Q E : Value → Shared → Prop}

theorem search_call {prog : Program} {P C : Addr} {o oc : Obj} {a b c d : Value} {t1 t2 : Tok} {vs : Array Value} {n : Nat} {x : Str} {t : Tok}
    (hP : s.heap.get? P = some o) (hcls : o.cls = .type "re.Pattern") (hd : o.data = .fields #[a, b, .int 0 t1, c, d, .ref C, .int 0 t2]) (hC : s.heap.get? C = some oc) (hcd : oc.data = .seq vs n)
    (hcode : (vs.map Builtin.Re.reRawOf).map (·.toNat) = codeN ∨ (vs.map Builtin.Re.reRawOf).map (·.toNat) = codeV) (hx : ∀ c ∈ x.cps.toList, 32 ≤ c ∧ c < 127) (hl : x.cps.size < 1000)
    (hq : Q .none s) : wpAny (model prog w) A (call (.builtin "re.Pattern.search") [.ref P, .str x t]) Q E s :=
  wpAny_call_entry slot_search ⟨_, hP, hcls⟩ entry_search (search_bi hP hd hC hcd hcode hx hl ⟨_, rfl, hq⟩) (args_search _ _)

theorem conv_c {H : Addr} {x : Str} {t : Tok} {b : Bool} (X : (hd.heap_1 w.params).In B) (T : Top p loose mean mg mb B) (hA : Room A 3) (st : B.StaysIn s.heap) (hx : x.length ≤ 700) (hab : ∀ c ∈ x.cps.toList, 32 ≤ c ∧ c < 127)
    (hQ : ∀ h' tk', s.heap.StaysIn h' → Q (.str x t) { s with heap := h', toks := tk' }) :
    wpAny (model PySem.Challenge.rw_un0043_01.row.toRowW.prog w) A (call (.ref 190) [.ref H, .str x t] [(Str.ofString "name", .bool b)]) Q E s := by
  revert X; k_fill; intro X
  have Xs : (hd.heap_1 w.params).In s.heap := fun a o e => st a o (X a o e)
  refine wpAny_call ?_
  k_dflt (refine' enterM [] X T hA st ?hm ?ho ?hcd ?hb ?hl ?_ ?hc ?h1 ?h2 ?h3; (case hm => exact fun _ h => nomatch h); (case ho => k_is); (case hcd => k_is); (case hb => first | exact BindsTo.of_eq rfl | exact binds_K Xs rfl (by k_is) rfl rfl rfl); (case hl => exact locs rfl); (case hc => decide); (case h1 => exact rfl); (case h2 => exact rfl); (case h3 => exact rfl))
  intro g L h₁ hg hL F N X' T' st' hA'
  replace F : Fr g L h₁ (fun y => List.lookup y [(Str.ofString "name", .bool b), (Str.ofString "value", .str x t), (Str.ofString "self", .ref H)]) := F
  have hx9 : x.cps.size < 1000 := Nat.lt_of_le_of_lt hx (by decide)
  show wpAny _ _ _ _ _ _
  k_fold
  k_steps
  · show wpAny _ _ (getMethod _ _ _) _ _ _
    rename Fr g L _ _ => F9
    refine getMethod_builtin (T := "re.Pattern") (id := "re.Pattern.search") ⟨_, F9.keep _ _ (X' 163 _ (by k_is)), rfl⟩ plain_re slot_search ty_search (fun a e => ⟨_, by cases e; exact F9.keep _ _ (X' 163 _ (by k_is)), rfl⟩) ?_
    k_steps
    show wpAny _ _ (call _ _) _ _ _
    refine search_call (o := _) (oc := _) (F9.keep _ _ (X' 163 _ (by k_is))) rfl rfl (F9.keep _ _ (X' 162 _ (by k_is))) rfl (.inl (by decide +kernel)) hab hx9 ?_
    k_steps
    exact hQ _ _ fun b o e => F9.keep b o (hg b o (fun h => nomatch h) e)
  · show wpAny _ _ (getMethod _ _ _) _ _ _
    rename Fr g L _ _ => F9
    refine getMethod_builtin (T := "re.Pattern") (id := "re.Pattern.search") ⟨_, F9.keep _ _ (X' 168 _ (by k_is)), rfl⟩ plain_re slot_search ty_search (fun a e => ⟨_, by cases e; exact F9.keep _ _ (X' 168 _ (by k_is)), rfl⟩) ?_
    k_steps
    show wpAny _ _ (call _ _) _ _ _
    refine search_call (o := _) (oc := _) (F9.keep _ _ (X' 168 _ (by k_is))) rfl rfl (F9.keep _ _ (X' 167 _ (by k_is))) rfl (.inr (by decide +kernel)) hab hx9 ?_
    k_steps
    exact hQ _ _ fun b o e => F9.keep b o (hg b o (fun h => nomatch h) e)
end
end Mine
namespace Mine
/-- a Headers and its own dict -/
def hdO (dh : Addr) : Obj := { cls := .ref 291, dict := some dh, data := .plain }
def hdE (hs : Int) (tt : Tok) (l : Addr) : List DictEntry := [⟨hs, .str (Str.ofString "_headers") tt, .ref l⟩]
end Mine
--LINES
local macro_rules | `(tactic| walk_at "call ref") => `(tactic| (k_here; (with_reducible show wpAny _ _ (call (Value.ref 190) _ _) _ _ _); k_dflt (refine Mine.halt_of ?_)))
local macro_rules | `(tactic| walk_at "exec For") => `(tactic| (k_here; (with_reducible show wpAny _ _ (exec (Stmt.For (Expr.Tuple _ _ _) _ _ [] _) _) _ _ _); (with_reducible rename Fr _ _ _ _ => lF'); (with_unfolding_all refine' For_turns lF' ?_; k_whole)))
--END
namespace Mine
/-- what a turn's body leaves -/
def PairPost (h₀ : Heap) (L : Addr) (own news : List (Addr × Obj)) (stored : List Str) (m : Str → Option Value) (Jn : Prop) (s : Shared) (Q : Flow → Shared → Prop) (f : Flow) (s₂ : Shared) : Prop :=
  match f with
  | .ret v => Q (.ret v) s₂
  | .next => ∃ h' tk m', s₂ = { s with heap := h', toks := tk } ∧ Fr h₀ L h' m' ∧ (∀ y, stored.contains y = false → m' y = m y) ∧ News h₀ L h' (own ++ news) ∧ Jn
  | _ => False
section
variable {prog : Program} {w : World} {A : Around} {E : Value → Shared → Prop} {s : Shared} {env : Env} {h₀ : Heap} {body : List Stmt} {Q : Flow → Shared → Prop}
theorem turns_refs {elts : List Expr} {kk : Nat} {tp : Pos} (hh : A.handled = none) (I l : Addr) (hne : l ≠ I) (vs : List Value) (hr : ∀ v ∈ vs, ∃ r, v = .ref r) :
    KTurns prog w A (.Tuple elts kk tp) I [I, l] [I] vs.length (fun i v _ => vs[i]? = some v) (fun i v h => vs[i]? = some v ∧ h.IsListIter I l (i + 1) ∧ h.IsList l vs.toArray) (fun i h => h.IsListIter I l i ∧ h.IsList l vs.toArray) := by
  have W := Walks.list (prog := prog) (w := w) hh I l hne vs.toArray
  exact {
    sub := W.sub
    frame := W.frame
    item := fun i s Q E hi st hQ => W.item i s Q E (by simpa using hi) st fun v h' tk hP st' hk => hQ v h' tk ⟨by simpa using hP, st'⟩ hk
    go := fun i v s Q E hm hQ => by
      obtain ⟨hv, st⟩ := hm
      obtain ⟨r, rfl⟩ := hr v (List.mem_of_getElem? hv)
      exact wpAny_letOwnedTupleGo_listiter st.1 (hQ s.heap hv st fun _ _ _ e => e)
    done := fun s Q E st hQ => W.done s Q E (by simpa using st) hQ }
theorem for_pairs {elts : List Expr} {kk : Nat} {tp : Pos} {l : Addr} {vs : List Value} {m : Str → Option Value} {news : List (Addr × Obj)} (stored : List Str) (J : Nat → Prop) (hh : A.handled = none) (hl : s.heap.IsList l vs.toArray) (hL : env.locals ≠ l) (hr : ∀ v ∈ vs, ∃ r, v = .ref r)
    (F : Fr h₀ env.locals s.heap m) (N : News h₀ env.locals s.heap news) (h0 : J 0)
    (step : ∀ i v (u : Str → Option Value) h₁ tk₁ own, vs[i]? = some v → J i → Fr h₀ env.locals h₁ (fun y => if stored.contains y then u y else m y) → News h₀ env.locals h₁ (own ++ news) →
      wpAny (model prog w) A (assign (.Tuple elts kk tp) env v) (fun _ s₃ => wpAny (model prog w) A (execs body env) (PairPost h₀ env.locals own news stored m (J (i + 1)) { s with heap := h₁, toks := tk₁ } Q) E s₃) E { s with heap := h₁, toks := tk₁ })
    (done : ∀ h' tk (u : Str → Option Value), Fr h₀ env.locals h' (fun y => if stored.contains y then u y else m y) → News h₀ env.locals h' news → J vs.length → Q .next { s with heap := h', toks := tk }) :
    wpAny (model prog w) A (pyIter (.ref l)) (fun it s₂ => TurnsAt prog w A h₀ env (.Tuple elts kk tp) body Q E it s₂) E s := by
  obtain ⟨ol, hol, _⟩ := id hl
  have hne : l ≠ s.heap.objs.size := Nat.ne_of_lt (Heap.lt_size hol)
  refine wpAny_pyIter_list hl ?_
  have hnI : ∀ p ∈ news, p.1 ∉ [s.heap.objs.size] := fun p hp hI => absurd (Heap.lt_size (N p hp).1) ((List.mem_singleton.mp hI) ▸ Nat.lt_irrefl _)
  refine ⟨s.heap.objs.size, _, _, _, _, _, _, m, news, fun i m' n' => n' = news ∧ J i ∧ ∃ u, m' = fun y => if stored.contains y then u y else m y, rfl, turns_refs hh s.heap.objs.size l hne vs hr, ?_, ?_, hnI, ⟨⟨_, Heap.get?_push_size _ rfl, rfl, rfl⟩, hl.at fun o e => Heap.get?_push_of_some _ e⟩, F.push _, fun p hp => ⟨Heap.get?_push_of_some _ (N p hp).1, (N p hp).2⟩, ⟨rfl, h0, m, funext fun y => (ite_self _).symm⟩, ?_, ?_⟩
  · intro hm
    rcases List.mem_cons.mp hm with e | hm
    · exact absurd F.ns.lt (e ▸ Nat.lt_irrefl _)
    · exact hL (List.mem_singleton.mp hm)
  · intro b hb
    rw [List.mem_singleton.mp hb]
    exact next_is_new F
  · rintro i v m₁ news₁ h₁ tk₁ own hi hv ⟨rfl, hJ, u, rfl⟩ hnw hfp _ _ _ F₁ N₁
    refine wpAny_mono (step i v u h₁ tk₁ own hv hJ F₁ N₁) (fun _ s₃ h₃ => wpAny_mono h₃ (fun f s₄ h₄ => ?_) fun _ _ e => e) fun _ _ e => e
    cases f with
    | ret v => exact h₄
    | brk => exact h₄.elim
    | cont => exact h₄.elim
    | next =>
      obtain ⟨h', tk, m', rfl, F', hm', N', hJ'⟩ := h₄
      refine ⟨rfl, h', tk, m', _, rfl, F', N', hnI, rfl, hJ', m', funext fun y => ?_⟩
      cases q : stored.contains y with
      | true => simp
      | false => rw [hm' y q]; simp
  · rintro h' tk m' news' F' N' _ ⟨rfl, hJ, u, rfl⟩
    exact done h' tk u F' N' hJ
end
end Mine
namespace Mine
section
variable {w : World} {B : Heap} {p : Program} {loose : List Str} {mean : ExcName → Option Value} {mg mb : Str → Option Value} {A : Around} {s : Shared} {Q E : Value → Shared → Prop}

/-- the pairs of a Headers -/
def RowsAre (h : Heap) (vs : List Value) (tab : List (Str × Str)) : Prop :=
  vs.length = tab.length ∧ ∀ (i : Nat) (v : Value), vs[i]? = some v → ∃ (r : Addr) (k y : Str) (tk ty : Tok), v = Value.ref r ∧ tab[i]? = some (k, y) ∧ h.get? r = some (pairO (.str k tk) (.str y ty))
theorem RowsAre.keep {S : List Addr} {h h' : Heap} {vs : List Value} {tab : List (Str × Str)} (R : RowsAre h vs tab) (k : Keep S h h') (hS : ∀ b ∈ S, ∀ o, h.get? b = some o → ∀ u v, o ≠ pairO u v) : RowsAre h' vs tab :=
  ⟨R.1, fun i v hv => by
    obtain ⟨r, a, y, tk, ty, e1, e2, e3⟩ := R.2 i v hv
    exact ⟨r, a, y, tk, ty, e1, e2, k _ _ (fun q => hS _ q _ e3 _ _ rfl) e3⟩⟩
theorem RowsAre.stays {h h' : Heap} {vs : List Value} {tab : List (Str × Str)} (R : RowsAre h vs tab) (k : h.StaysIn h') : RowsAre h' vs tab := R.keep (S := []) (fun b o _ e => k b o e) fun _ h => absurd h (List.not_mem_nil)
theorem RowsAre.refs {h : Heap} {vs : List Value} {tab : List (Str × Str)} (R : RowsAre h vs tab) : ∀ v ∈ vs, ∃ r, v = Value.ref r := fun v hv => by
  obtain ⟨i, hi⟩ := List.getElem?_of_mem hv
  obtain ⟨r, _, _, _, _, e, _⟩ := R.2 i v hi
  exact ⟨r, e⟩
/-- what the table says of a name -/
def told (tab : List (Str × Str)) (x : Str) : Option Str := (tab.find? fun q => Txt.lower q.1 == Txt.lower x).map (·.2)
theorem told_at : ∀ {tab : List (Str × Str)} {x k y : Str} {i : Nat}, tab[i]? = some (k, y) → Txt.lower k = Txt.lower x → (∀ j q, j < i → tab[j]? = some q → Txt.lower q.1 ≠ Txt.lower x) → told tab x = some y
  | [], _, _, _, _, h, _, _ => by simp at h
  | q :: tab, x, k, y, 0, h, e, _ => by
    simp at h
    subst h
    simp [told, e]
  | q :: tab, x, k, y, i + 1, h, e, hn => by
    have h0 := hn 0 q (Nat.succ_pos _) rfl
    have := told_at (tab := tab) (i := i) (by simpa using h) e fun j r hj hr => hn (j + 1) r (Nat.succ_lt_succ hj) (by simpa using hr)
    unfold told at this ⊢
    rw [List.find?_cons_of_neg (by simpa using h0)]
    exact this
theorem told_none : ∀ {tab : List (Str × Str)} {x : Str}, (∀ j q, j < tab.length → tab[j]? = some q → Txt.lower q.1 ≠ Txt.lower x) → told tab x = none
  | [], _, _ => rfl
  | q :: tab, x, hn => by
    have h0 := hn 0 q (Nat.succ_pos _) rfl
    have := told_none (tab := tab) (x := x) fun j r hj hr => hn (j + 1) r (Nat.succ_lt_succ hj) (by simpa using hr)
    unfold told at this ⊢
    rw [List.find?_cons_of_neg (by simpa using h0)]
    exact this
theorem get_c {H dh l : Addr} {x : Str} {t tt : Tok} {hs : Int} {n : Nat} (X : (hd.heap_1 w.params).In B) (T : Top p loose mean mg mb B) (hA : Room A 6) (st : B.StaysIn s.heap) (hx0 : x.length ≤ 700) (hx : (Txt.lower x).length ≤ 700) (hab : ∀ c ∈ (Txt.lower x).cps.toList, 32 ≤ c ∧ c < 127)
    (hH : s.heap.get? H = some (hdO dh)) (hdd : s.heap.get? dh = some (dictOf (hdE hs tt l) n)) (hHB : B.get? H = none) (hdB : B.get? dh = none)
    {vs : List Value} {tab : List (Str × Str)} (hl : s.heap.IsList l vs.toArray) (hR : RowsAre s.heap vs tab) (htab : ∀ q ∈ tab, q.1.length ≤ 700)
    (hQ : ∀ h' tk' v, s.heap.StaysIn h' → (match told tab x with | none => v = .none | some y => ∃ t, v = .str y t) → Q v { s with heap := h', toks := tk' }) :
    wpAny (model PySem.Challenge.rw_un0043_01.row.toRowW.prog w) A (call (.ref 238) [.ref H, .str x t]) Q E s := by
  revert X; k_fill; intro X
  have Xs : (hd.heap_1 w.params).In s.heap := fun a o e => st a o (X a o e)
  refine wpAny_call ?_
  k_dflt (refine' enterM [(H, hdO dh), (dh, dictOf (hdE hs tt l) n)] X T hA st ?hm ?ho ?hcd ?hb ?hl ?_ ?hc ?h1 ?h2 ?h3; (case hm => simpa using ⟨⟨hH, hHB⟩, hdd, hdB⟩); (case ho => k_is); (case hcd => k_is); (case hb => first | exact BindsTo.of_eq rfl | exact binds_K Xs rfl (by k_is) rfl rfl rfl); (case hl => exact locs rfl); (case hc => decide); (case h1 => exact rfl); (case h2 => exact rfl); (case h3 => exact rfl))
  intro g L h₁ hg hL F N X' T' st' hA'
  replace F : Fr g L h₁ (fun y => List.lookup y [(Str.ofString "default", .none), (Str.ofString "name", .str x t), (Str.ofString "self", .ref H)]) := F
  show wpAny _ _ _ _ _ _
  k_fold
  unfold hdO hdE at N
  k_steps
  show wpAny _ _ _ _ _ _
  rename Fr g L _ _ => F1
  rename News g L _ _ => N1
  refine conv_c X' T' (hA'.mono (by omega)) (fun b o e => F1.keep _ _ e) hx hab ?_
  intro h2 tk2 st2
  have F2 := F1.keeps st2
  have N2 := News.st N1 st2
  clear F1 N1
  k_steps
  show wpAny _ _ (pyIter _) _ _ _
  rename Fr g L _ _ => F3
  rename News g L _ _ => N3
  have hS : ∀ b ∈ [H, dh], ∀ o, s.heap.get? b = some o → o = hdO dh ∨ o = dictOf (hdE hs tt l) n := by
    intro b hb o e
    rcases List.mem_cons.mp hb with rfl | hb
    · rw [hH] at e; exact .inl (Option.some.inj e).symm
    · rw [List.mem_singleton.mp hb, hdd] at e; exact .inr (Option.some.inj e).symm
  have hlg : g.IsList l vs.toArray := isList_keep hl hg fun b hb o e ys k q => by
    rcases hS b hb o e with rfl | rfl <;> cases q
  have hRg : RowsAre g vs tab := hR.keep hg fun b hb o e u v q => by
    rcases hS b hb o e with rfl | rfl
    · cases congrArg Obj.data q
    · cases congrArg Obj.data q
  have hLl : L ≠ l := by
    obtain ⟨o, e, _⟩ := hl
    exact Nat.ne_of_gt (hL _ _ e)
  refine for_pairs [Str.ofString "k", Str.ofString "v"] (fun i => ∀ j q, j < i → tab[j]? = some q → Txt.lower q.1 ≠ Txt.lower x)
    hA'.hh (hlg.at fun o e => F3.keep _ _ e) hLl hRg.refs F3 N3 (fun _ _ h => absurd h (Nat.not_lt_zero _)) ?_ ?_
  · clear F3 N3
    intro i v u h4 tk4 own hv hJ F4 N4
    obtain ⟨r, k, y, tk, ty, rfl, htb, hr⟩ := hRg.2 i v hv
    have hT4 : IsTup h4 r #[.str k tk, .str y ty] := ⟨_, F4.keep _ _ hr, rfl, _, rfl⟩
    have hk7 := htab _ (List.mem_of_getElem? htb)
    replace F4 : Fr g L h4 _ := F4
    replace N4 : News g L h4 _ := N4
    show wpAny _ _ _ _ _ ⟨h4, s.gens, s.drawn, tk4, s.os⟩
    refine unpackN_ F4 N4 hT4 hA'.hh rfl rfl ?_
    intro h5 F5 N5
    clear F4 N4
    k_steps
    · rename (Txt.lower k == Txt.lower x) = true => hke
      rename Fr g L _ _ => F6
      rename News g L _ _ => N6
      have hfind : told tab x = some y := told_at htb (by simpa using hke) hJ
      refine hQ _ _ _ (stays_all hg F6 N6 (by simpa using ⟨hH, hdd⟩) (fun _ h => List.mem_append_right _ h)) ?_
      rw [hfind]
      exact ⟨_, rfl⟩
    · rename (Txt.lower k == Txt.lower x) = false => hke
      rename Fr g L _ _ => F6
      rename News g L _ _ => N6
      refine ⟨_, _, _, rfl, F6, ?_, N6, ?_⟩
      · intro z hz
        have h1 : z ≠ Str.ofString "k" := fun e => by rw [e] at hz; exact absurd hz (by decide)
        have h2 : z ≠ Str.ofString "v" := fun e => by rw [e] at hz; exact absurd hz (by decide)
        show (if z = Str.ofString "v" then _ else if z = Str.ofString "k" then _ else if [Str.ofString "k", Str.ofString "v"].contains z = true then u z else _) = _
        rw [if_neg h2, if_neg h1, if_neg (by rw [hz]; decide)]
      · intro j q hj hq
        rcases Nat.lt_succ_iff_lt_or_eq.mp hj with hj | rfl
        · exact hJ j q hj hq
        · rw [htb] at hq; cases hq; exact fun e => by rw [e] at hke; simp at hke
  · intro h6 tk6 u F6 N6 hJ
    replace F6 : Fr g L h6 _ := F6
    replace N6 : News g L h6 _ := N6
    show wpAny _ _ _ _ _ ⟨h6, s.gens, s.drawn, tk6, s.os⟩
    have hfind : told tab x = none := told_none (by rw [hR.1] at hJ; exact hJ)
    have sa := stays_all hg F6 N6 (by simpa using ⟨hH, hdd⟩) (fun _ h => h)
    k_steps
    refine hQ _ _ _ sa ?_
    rw [hfind]
end
end Mine
namespace Mine
end Mine
--LINES
local macro_rules | `(tactic| walk_at "call ref") => `(tactic| (k_here; (with_reducible show wpAny _ _ (call (Value.ref 238) _ _) _ _ _); k_dflt (refine Mine.halt_of ?_)))
--END
namespace Mine
section
variable {w : World} {B : Heap} {p : Program} {loose : List Str} {mean : ExcName → Option Value} {mg mb : Str → Option Value} {A : Around} {s : Shared} {Q E : Value → Shared → Prop}

theorem list_append {prog : Program} {l : Addr} {vs : Array Value} {k : Nat} {v : Value} (hx : s.heap.get? l = some (W.listOf vs k)) (hsz : vs.size ≤ sizeLine)
    (hQ : ∀ h' k', h'.get? l = some (W.listOf (vs.push v) k') → Heap.SameBut l s.heap h' → Q .none { s with heap := h' }) :
    wpAny (model prog w) A (call (.builtin "list.append") [.ref l, v]) Q E s := by
  have hd : (W.listOf vs k).data = .seq vs k := rfl
  obtain ⟨n', hd'⟩ := Obj.data_mapSeq hd (·.push v)
  refine wpAny_call_entry PySem.F.slot_list_append ⟨_, hx, rfl⟩ PySem.F.entry_list_append ?_ (PySem.F.args_list_append_2 _ _)
  show wpAny _ _ (updateSeq l (·.push v) >>= fun _ => ret .none) _ _ s
  refine wpAny_bind ?_
  refine wpAny_updateSeq hx hd (wpAny_pure ⟨.none, rfl, hQ _ (if (vs.push v).size == vs.size then k else k + 1) ?_ (Heap.SameBut.update ..)⟩)
  exact (Heap.get?_update_self _ hx (Obj.isFreed_of_seq hd')).trans rfl
theorem setd_c {H dh l : Addr} {x y : Str} {t ty tt : Tok} {hs : Int} {n k : Nat} (X : (hd.heap_1 w.params).In B) (T : Top p loose mean mg mb B) (hA : Room A 8) (st : B.StaysIn s.heap) (hx0 : x.length ≤ 700) (hab0 : ∀ c ∈ x.cps.toList, 32 ≤ c ∧ c < 127) (hx : (Txt.lower x).length ≤ 700) (hab : ∀ c ∈ (Txt.lower x).cps.toList, 32 ≤ c ∧ c < 127)
    (hy0 : y.length ≤ 700) (hyb : ∀ c ∈ y.cps.toList, 32 ≤ c ∧ c < 127)
    (hH : s.heap.get? H = some (hdO dh)) (hdd : s.heap.get? dh = some (dictOf (hdE hs tt l) n)) (hHB : B.get? H = none) (hdB : B.get? dh = none) (hlB : B.get? l = none)
    {vs : List Value} {tab : List (Str × Str)} (hl : s.heap.get? l = some (W.listOf vs.toArray k)) (hlen : vs.length ≤ 100) (hR : RowsAre s.heap vs tab) (htab : ∀ q ∈ tab, q.1.length ≤ 700)
    (hQ1 : ∀ h' tk' z t', told tab x = some z → s.heap.StaysIn h' → Q (.str z t') { s with heap := h', toks := tk' })
    (hQ2 : ∀ h' tk' D k' t1 t2, told tab x = none → h'.get? l = some (W.listOf (vs ++ [Value.ref D]).toArray k') → h'.get? D = some (pairO (.str x t1) (.str y t2)) → s.heap.get? D = none → Keep [l] s.heap h' → Q (.str y ty) { s with heap := h', toks := tk' }) :
    wpAny (model PySem.Challenge.rw_un0043_01.row.toRowW.prog w) A (call (.ref 281) [.ref H, .str x t, .str y ty]) Q E s := by
  revert X; k_fill; intro X
  have Xs : (hd.heap_1 w.params).In s.heap := fun a o e => st a o (X a o e)
  refine wpAny_call ?_
  k_dflt (refine' enterM [(H, hdO dh), (dh, dictOf (hdE hs tt l) n), (l, W.listOf vs.toArray k)] X T hA st ?hm ?ho ?hcd ?hb ?hl ?_ ?hc ?h1 ?h2 ?h3; (case hm => simpa using ⟨⟨hH, hHB⟩, ⟨hdd, hdB⟩, hl, hlB⟩); (case ho => k_is); (case hcd => k_is); (case hb => first | exact BindsTo.of_eq rfl | exact binds_K Xs rfl (by k_is) rfl rfl rfl); (case hl => exact locs rfl); (case hc => decide); (case h1 => exact rfl); (case h2 => exact rfl); (case h3 => exact rfl))
  intro g L h₁ hg hL F N X' T' st' hA'
  replace F : Fr g L h₁ (fun z => List.lookup z [(Str.ofString "value", .str y ty), (Str.ofString "name", .str x t), (Str.ofString "self", .ref H)]) := F
  show wpAny _ _ _ _ _ _
  k_fold
  unfold hdO hdE at N
  k_steps
  show wpAny _ _ _ _ _ _
  rename Fr g L _ _ => F1
  rename News g L _ _ => N1
  have sa := stays_all hg F1 N1 (by simpa using ⟨hH, hdd, hl⟩) (fun _ h => h)
  refine get_c X' T' (hA'.mono (by omega)) (fun b o e => F1.keep _ _ e) hx0 hx hab (N1 _ (.head _)).1 (N1 _ (.tail _ (.head _))).1 (N1 _ (.head _)).2.2 (N1 _ (.tail _ (.head _))).2.2 ⟨_, (N1 _ (.tail _ (.tail _ (.head _)))).1, rfl, _, rfl⟩ (hR.stays sa) htab ?_
  intro h2 tk2 v st2 hv
  have F2 := F1.keeps st2
  have N2 := News.st N1 st2
  clear F1 N1
  cases q : told tab x with
  | some z =>
    rw [q] at hv
    obtain ⟨t3, rfl⟩ := hv
    k_steps
    rename Fr g L _ _ => F3
    rename News g L _ _ => N3
    exact hQ1 _ _ _ _ q (stays_all hg F3 N3 (by simpa using ⟨hH, hdd, hl⟩) (fun _ h => h))
  | none =>
    rw [q] at hv
    subst hv
    k_steps
    show wpAny _ _ (getMethod _ _ _) _ _ _
    rename Fr g L _ _ => F3
    rename News g L _ _ => N3
    refine getMethod_builtin (T := "list") (id := "list.append") ⟨_, (N3 _ (.tail _ (.tail _ (.head _)))).1, rfl⟩ PySem.F.plainAttrs_list PySem.F.slot_list_append PySem.F.type_list_append (fun a e => ⟨_, by cases e; exact (N3 _ (.tail _ (.tail _ (.head _)))).1, rfl⟩) ?_
    k_steps
    show wpAny _ _ _ _ _ _
    refine conv_c X' T' (hA'.mono (by omega)) (fun b o e => F3.keep _ _ e) hx0 hab0 ?_
    intro h4 tk4 st4
    have F4 := F3.keeps st4
    have N4 := News.st N3 st4
    clear F3 N3
    k_steps
    show wpAny _ _ _ _ _ _
    refine conv_c X' T' (hA'.mono (by omega)) (fun b o e => F4.keep _ _ e) hy0 hyb ?_
    intro h5 tk5 st5
    have F5 := F4.keeps st5
    have N5 := News.st N4 st5
    clear F4 N4
    k_steps
    rename Fr g L _ _ => F9
    rename News g L _ _ => N9
    refine with_first N9 fun D hE => ?_
    subst hE
    have nl : @Ne Nat D l := by omega
    have nH : @Ne Nat D H := by omega
    have nd : @Ne Nat D dh := by omega
    have hll := (N9 _ (.tail _ (.tail _ (.tail _ (.head _)))))
    refine list_append hll.1 (Nat.le_trans (by simpa using hlen) (by decide : 100 ≤ sizeLine)) ?_
    intro h6 k6 hl6 hs6
    have F6 := F9.change hs6 hll.2.1 hll.2.2
    have kF := F9.keep
    clear F9
    k_steps
    have hD0 : s.heap.get? D = none := by
      cases q : s.heap.get? D with
      | none => rfl
      | some o =>
        have := hg D o (by simp only [List.map_cons, List.map_nil, List.mem_cons, List.not_mem_nil, or_false, not_or]; exact ⟨nH, nd, nl⟩) q
        rw [(N9 _ (.head _)).2.2] at this
        cases this
    refine hQ2 _ _ D _ _ _ q (by rw [hl6, List.push_toArray]) ((hs6.2 _ nl).trans (N9 _ (.head _)).1) hD0 ?_
    intro b o hb e
    have hbl : b ≠ l := fun q => hb (q ▸ .head _)
    refine (hs6.2 _ hbl).trans ?_
    by_cases hbd : b = dh
    · rw [hbd] at e ⊢
      rw [hdd] at e; cases e
      exact (N9 _ (.tail _ (.tail _ (.head _)))).1
    by_cases hbH : b = H
    · rw [hbH] at e ⊢
      rw [hH] at e; cases e
      exact (N9 _ (.tail _ (.head _))).1
    exact kF _ _ (hg b o (by simp only [List.map_cons, List.map_nil, List.mem_cons, List.not_mem_nil, or_false, not_or]; exact ⟨hbH, hbd, hbl⟩) e)
end
end Mine
namespace Mine
/-- the signs so far, and how many sets stand open -/
inductive Pre : List Nat → Nat → Prop
  | one : Pre [98] 1
  | up {l d} : Pre l d → d < 5 → Pre (l ++ [98]) (d + 1)
  | down {l d} : Pre l d → 2 ≤ d → Pre (l ++ [97]) (d - 1)
theorem Pre.le {l : List Nat} {d : Nat} (h : Pre l d) : 1 ≤ d ∧ d ≤ 5 := by
  induction h <;> omega
theorem mul_a : ∀ d, d ≤ 5 → Txt.mul (Str.ofString "a") (d : Nat) = sS (List.replicate d 97) := by decide
theorem ints_of : ∀ {vs : List Value}, (∀ v ∈ vs, ∃ n t, v = Value.int n t) → ∃ ns, IntsAre vs ns
  | [], _ => ⟨[], .nil⟩
  | v :: vs, h => by
    obtain ⟨n, t, rfl⟩ := h v (.head _)
    obtain ⟨ns, hn⟩ := ints_of fun u hu => h u (.tail _ hu)
    exact ⟨n :: ns, .cons n t hn⟩
theorem int_mem : ∀ {vs : List Value} {ns : List Int}, IntsAre vs ns → ∀ v ∈ vs, ∃ n t, v = Value.int n t
  | _, _, .nil, _, h => nomatch h
  | _, _, .cons n t r, v, h => by
    rcases List.mem_cons.mp h with rfl | h
    · exact ⟨n, t, rfl⟩
    · exact int_mem r v h
theorem pick_ints {vs : List Value} {ns : List Int} (hi : IntsAre vs ns) (lo hi' st : Option Int) : ∃ ws ms, slicePick vs.toArray lo hi' st = ws.toArray ∧ IntsAre ws ms := by
  obtain ⟨ms, h⟩ := ints_of (vs := (slicePick vs.toArray lo hi' st).toList) fun v hv => by
    unfold slicePick at hv
    obtain ⟨i, _, e⟩ := List.mem_filterMap.mp hv
    rw [List.getElem?_toArray] at e
    exact int_mem hi v (List.mem_of_getElem? e)
  exact ⟨_, ms, rfl, h⟩
end Mine
--LINES
local macro_rules | `(tactic| walk_at "call builtin:sum") => `(tactic| (k_here; (with_reducible show wpAny _ _ (call (Value.builtin "sum") [Value.ref _] _) _ _ _); k_dflt (refine Mine.halt_of ?_)))
--END
namespace Mine
section
variable {w : World} {B : Heap} {p : Program} {loose : List Str} {mean : ExcName → Option Value} {mg mb : Str → Option Value} {A : Around} {s : Shared} {Q E : Value → Shared → Prop}

theorem text_c {a : Addr} {vs : List Value} {ns : List Int} (X : (hd.heap_1 w.params).In B) (T : Top p loose mean mg mb B) (hA : Room A 3) (st : B.StaysIn s.heap) (hl : s.heap.IsList a vs.toArray) (hi : IntsAre vs ns) (hlen : ns.length ≤ 63)
    (hQ : ∀ h' tk' t' l d, s.heap.StaysIn h' → Pre l d → l.length = 17 → Q (.str (sS (l ++ List.replicate d 97)) t') { s with heap := h', toks := tk' }) :
    wpAny (model PySem.Challenge.rw_un0043_01.row.toRowW.prog w) A (call (.ref 302) [.ref a]) Q E s := by
  have hiX : IntsAre vs ns ∧ True := ⟨hi, trivial⟩
  revert X; k_fill; intro X
  have Xs : (hd.heap_1 w.params).In s.heap := fun a o e => st a o (X a o e)
  refine wpAny_call ?_
  k_dflt (refine' enterM [] X T hA st ?hm ?ho ?hcd ?hb ?hl ?_ ?hc ?h1 ?h2 ?h3; (case hm => exact fun _ h => nomatch h); (case ho => k_is); (case hcd => k_is); (case hb => first | exact BindsTo.of_eq rfl | exact binds_K Xs rfl (by k_is) rfl rfl rfl); (case hl => exact locs rfl); (case hc => decide); (case h1 => exact rfl); (case h2 => exact rfl); (case h3 => exact rfl))
  intro g L h₁ hg hL F N X' T' st' hA'
  replace F : Fr g L h₁ (fun z => List.lookup z [(Str.ofString "script", .ref a)]) := F
  have hlg : g.IsList a vs.toArray := hl.at fun o e => hg _ _ (fun h => nomatch h) e
  show wpAny _ _ _ _ _ _
  k_fold
  k_steps
  show wpAny _ _ (pyIter _) _ _ _
  rename Fr g L _ _ => F9
  rename News g L _ _ => N9
  rename IsRange _ _ _ _ _ _ _ _ => R9
  refine with_first N9 fun C hE => ?_
  subst hE
  rw [sB] at F9
  refine fr_at F9 (y := Str.ofString "text") (v := fun t' => .str (sS [98]) t') rfl fun tw hw => ?_
  refine fr_at F9 (y := Str.ofString "level") (v := fun t' => .int (1 : Nat) t') rfl fun tv hv => ?_
  refine kst_range (n := 4) (fun _ : (List Nat × Nat) × Tok × Tok => _) (fun c => [(Str.ofString "text", .str (sS c.1.1) c.2.1), (Str.ofString "level", .int c.1.2 c.2.2)]) (fun _ => True) [Str.ofString "cell", Str.ofString "turn"] (fun pre c => Pre c.1.1 c.1.2 ∧ c.1.1.length = 1 + 4 * pre.length) (([98], 1), tw, tv)
    hA'.hh R9 (by decide) (by decide) F9 N9 trivial (fun p hp => by rcases List.mem_cons.mp hp with rfl | hp; exact hw; rw [List.mem_singleton.mp hp]; exact hv) ⟨.one, rfl⟩ ?_ ?_
  · clear hQ
    intro c pre k t1 u h tk own hk hpre hoff _ hP F N
    simp only [List.cons_append, List.nil_append] at N
    have hk0 : 0 ≤ k := by omega
    have hk4 : k < 4 := by omega
    k_steps
    show wpAny _ _ (subscriptTail _ _ _ _) _ _ ⟨_, _, _, _, _⟩
    rename Fr g _ _ _ => F2
    rename News g _ _ _ => N2
    refine slice_list3 (s := ⟨h, _, _, _, _⟩) F2 N2 (hlg.at fun o e => F2.keep _ _ e) (.int _ _) .none (.int _ _) (by decide) ?_ (by with_unfolding_all rfl) (by kmk_pure) ?_
    rotate_left
    · exact Nat.le_trans (by have := hiX.1.length; simp at this ⊢; omega : _ ≤ 63) (by decide : 63 ≤ sizeLine)
    intro h3 F3 N3
    obtain ⟨ws, ms, ew, him⟩ := pick_ints hiX.1 (some k) none (some 4)
    rw [ew] at N3
    clear F2 N2
    refine wp_tok (h := h3) (g := s.gens) (d := s.drawn) (o := s.os) fun tk3 => ?_
    k_steps
    show wpAny _ _ (call _ _) _ _ _
    refine sumK hA'.hh F3 N3 ⟨_, (N3 _ (.head _)).1, rfl, _, rfl⟩ him ?_
    intro h4 tk4 t4 F4 N4
    clear F3 N3
    generalize ms.sum = S
    refine wp_tok (h := h4) (g := s.gens) (d := s.drawn) (o := s.os) fun tk5 => ?_
    k_steps
    show wpAny _ _ (pyIter _) _ _ _
    rename Fr g _ _ _ => F5
    rename News g _ _ _ => N5
    rename IsRange _ _ _ _ _ _ _ _ => R5
    have hc0 : 0 ≤ Int.fmod ([11, 12, 1, 3].getD k.toNat 0 + S) 16 := by rw [Int.fmod_eq_emod_of_nonneg _ (by decide)]; omega
    have hc1 : Int.fmod ([11, 12, 1, 3].getD k.toNat 0 + S) 16 < 16 := by rw [Int.fmod_eq_emod_of_nonneg _ (by decide)]; omega
    refine fr_at F5 (y := Str.ofString "text") (v := fun t' => .str (sS c.1.1) t') rfl fun tw2 hw2 => ?_
    refine fr_at F5 (y := Str.ofString "level") (v := fun t' => .int c.1.2 t') rfl fun tv2 hv2 => ?_
    refine fr_at F5 (y := Str.ofString "cell") (v := fun t' => .int (Int.fmod ([11, 12, 1, 3].getD k.toNat 0 + S) 16) t') rfl fun tc2 hc2 => ?_
    generalize Int.fmod ([11, 12, 1, 3].getD k.toNat 0 + S) 16 = cell at F5 hc0 hc1 hc2
    refine kst_range (n := 4) (fun _ : (List Nat × Nat × Int) × Tok × Tok × Tok => _) (fun e => [(Str.ofString "text", .str (sS e.1.1) e.2.1), (Str.ofString "level", .int e.1.2.1 e.2.2.1), (Str.ofString "cell", .int e.1.2.2 e.2.2.2)]) (fun _ => True) [] (fun pre2 e => Pre e.1.1 e.1.2.1 ∧ e.1.1.length = 1 + 4 * pre.length + pre2.length ∧ 0 ≤ e.1.2.2 ∧ e.1.2.2 < 16) ((c.1.1, c.1.2, cell), tw2, tv2, tc2)
      hA'.hh R5 (by decide) (by decide) F5 N5 trivial (fun p hp => by rcases List.mem_cons.mp hp with rfl | hp; exact hw2; rcases List.mem_cons.mp hp with rfl | hp; exact hv2; rw [List.mem_singleton.mp hp]; exact hc2) ⟨hP.1, hP.2, hc0, hc1⟩ ?_ ?_
    · clear F5 N5 hP
      intro e pre2 k2 t2 u2 h2 tk2 own2 hk2 hpre2 hoff2 _ hP F N
      obtain ⟨hP1, hP2, hP3, hP4⟩ := hP
      simp only [List.cons_append, List.nil_append] at N
      have hd := hP1.le
      have htl : (sS e.1.1).length ≤ 40 := by rw [sS_len]; omega
      k_steps
      · rename Fr g _ _ _ => F4
        rename News g _ _ _ => N4
        have hd3 : ((e.1.2.1 : Nat) : Int) + 1 = ((e.1.2.1 + 1 : Nat) : Int) := by omega
        rw [sB, sS_app, hd3] at F4
        refine fr_at F4 (y := Str.ofString "text") (v := fun t' => .str (sS (e.1.1 ++ [98])) t') rfl fun tw3 hw3 => ?_
        refine fr_at F4 (y := Str.ofString "level") (v := fun t' => .int ((e.1.2.1 + 1 : Nat) : Int) t') rfl fun tv3 hv3 => ?_
        refine fr_at F4 (y := Str.ofString "cell") (v := fun t' => .int (Int.fdiv e.1.2.2 2) t') rfl fun tc3 hc3 => ?_
        show InvEndN _ _ _ _ _ _ _
        refine kst_end ((e.1.1 ++ [98], e.1.2.1 + 1, Int.fdiv e.1.2.2 2), tw3, tv3, tc3) F4 N4 (fun p hp => by simp only [List.mem_cons, List.mem_append] at hp ⊢; rcases hp with h | h | h <;> simp [h]) (fun p hp => by simp [hp]) rfl trivial (fun p hp => by rcases List.mem_cons.mp hp with rfl | hp; exact hw3; rcases List.mem_cons.mp hp with rfl | hp; exact hv3; rw [List.mem_singleton.mp hp]; exact hc3) ?_ ⟨hP1.up (by omega), ?_, ?_, ?_⟩
        · intro z h1 h2 _
          have h3 := h2 _ (.head _)
          have h4 := h2 _ (.tail _ (.head _))
          have h5 := h2 _ (.tail _ (.tail _ (.head _)))
          simp [h1, h3, h4, h5, kstB]
        · rw [List.length_append, List.length_append, hP2, List.length_singleton, List.length_singleton, Nat.add_assoc]
        · show 0 ≤ Int.fdiv e.1.2.2 2
          rw [Int.fdiv_eq_ediv_of_nonneg _ (by decide)]; omega
        · show Int.fdiv e.1.2.2 2 < 16
          rw [Int.fdiv_eq_ediv_of_nonneg _ (by decide)]; omega
      · rename Fr g _ _ _ => F4
        rename News g _ _ _ => N4
        have hd3 : ((e.1.2.1 : Nat) : Int) + 1 = ((e.1.2.1 + 1 : Nat) : Int) := by omega
        rw [sB, sS_app, hd3] at F4
        refine fr_at F4 (y := Str.ofString "text") (v := fun t' => .str (sS (e.1.1 ++ [98])) t') rfl fun tw3 hw3 => ?_
        refine fr_at F4 (y := Str.ofString "level") (v := fun t' => .int ((e.1.2.1 + 1 : Nat) : Int) t') rfl fun tv3 hv3 => ?_
        refine fr_at F4 (y := Str.ofString "cell") (v := fun t' => .int (Int.fdiv e.1.2.2 2) t') rfl fun tc3 hc3 => ?_
        show InvEndN _ _ _ _ _ _ _
        refine kst_end ((e.1.1 ++ [98], e.1.2.1 + 1, Int.fdiv e.1.2.2 2), tw3, tv3, tc3) F4 N4 (fun p hp => by simp only [List.mem_cons, List.mem_append] at hp ⊢; rcases hp with h | h | h <;> simp [h]) (fun p hp => by simp [hp]) rfl trivial (fun p hp => by rcases List.mem_cons.mp hp with rfl | hp; exact hw3; rcases List.mem_cons.mp hp with rfl | hp; exact hv3; rw [List.mem_singleton.mp hp]; exact hc3) ?_ ⟨hP1.up (by omega), ?_, ?_, ?_⟩
        · intro z h1 h2 _
          have h3 := h2 _ (.head _)
          have h4 := h2 _ (.tail _ (.head _))
          have h5 := h2 _ (.tail _ (.tail _ (.head _)))
          simp [h1, h3, h4, h5, kstB]
        · rw [List.length_append, List.length_append, hP2, List.length_singleton, List.length_singleton, Nat.add_assoc]
        · show 0 ≤ Int.fdiv e.1.2.2 2
          rw [Int.fdiv_eq_ediv_of_nonneg _ (by decide)]; omega
        · show Int.fdiv e.1.2.2 2 < 16
          rw [Int.fdiv_eq_ediv_of_nonneg _ (by decide)]; omega
      · rename Fr g _ _ _ => F4
        rename News g _ _ _ => N4
        have hd3 : ((e.1.2.1 : Nat) : Int) - 1 = ((e.1.2.1 - 1 : Nat) : Int) := by omega
        rw [sA, sS_app, hd3] at F4
        refine fr_at F4 (y := Str.ofString "text") (v := fun t' => .str (sS (e.1.1 ++ [97])) t') rfl fun tw3 hw3 => ?_
        refine fr_at F4 (y := Str.ofString "level") (v := fun t' => .int ((e.1.2.1 - 1 : Nat) : Int) t') rfl fun tv3 hv3 => ?_
        refine fr_at F4 (y := Str.ofString "cell") (v := fun t' => .int (Int.fdiv e.1.2.2 2) t') rfl fun tc3 hc3 => ?_
        show InvEndN _ _ _ _ _ _ _
        refine kst_end ((e.1.1 ++ [97], e.1.2.1 - 1, Int.fdiv e.1.2.2 2), tw3, tv3, tc3) F4 N4 (fun p hp => by simp only [List.mem_cons, List.mem_append] at hp ⊢; rcases hp with h | h | h <;> simp [h]) (fun p hp => by simp [hp]) rfl trivial (fun p hp => by rcases List.mem_cons.mp hp with rfl | hp; exact hw3; rcases List.mem_cons.mp hp with rfl | hp; exact hv3; rw [List.mem_singleton.mp hp]; exact hc3) ?_ ⟨hP1.down (by omega), ?_, ?_, ?_⟩
        · intro z h1 h2 _
          have h3 := h2 _ (.head _)
          have h4 := h2 _ (.tail _ (.head _))
          have h5 := h2 _ (.tail _ (.tail _ (.head _)))
          simp [h1, h3, h4, h5, kstB]
        · rw [List.length_append, List.length_append, hP2, List.length_singleton, List.length_singleton, Nat.add_assoc]
        · show 0 ≤ Int.fdiv e.1.2.2 2
          rw [Int.fdiv_eq_ediv_of_nonneg _ (by decide)]; omega
        · show Int.fdiv e.1.2.2 2 < 16
          rw [Int.fdiv_eq_ediv_of_nonneg _ (by decide)]; omega
      · rename Fr g _ _ _ => F4
        rename News g _ _ _ => N4
        have hd3 : ((e.1.2.1 : Nat) : Int) - 1 = ((e.1.2.1 - 1 : Nat) : Int) := by omega
        rw [sA, sS_app, hd3] at F4
        refine fr_at F4 (y := Str.ofString "text") (v := fun t' => .str (sS (e.1.1 ++ [97])) t') rfl fun tw3 hw3 => ?_
        refine fr_at F4 (y := Str.ofString "level") (v := fun t' => .int ((e.1.2.1 - 1 : Nat) : Int) t') rfl fun tv3 hv3 => ?_
        refine fr_at F4 (y := Str.ofString "cell") (v := fun t' => .int (Int.fdiv e.1.2.2 2) t') rfl fun tc3 hc3 => ?_
        show InvEndN _ _ _ _ _ _ _
        refine kst_end ((e.1.1 ++ [97], e.1.2.1 - 1, Int.fdiv e.1.2.2 2), tw3, tv3, tc3) F4 N4 (fun p hp => by simp only [List.mem_cons, List.mem_append] at hp ⊢; rcases hp with h | h | h <;> simp [h]) (fun p hp => by simp [hp]) rfl trivial (fun p hp => by rcases List.mem_cons.mp hp with rfl | hp; exact hw3; rcases List.mem_cons.mp hp with rfl | hp; exact hv3; rw [List.mem_singleton.mp hp]; exact hc3) ?_ ⟨hP1.down (by omega), ?_, ?_, ?_⟩
        · intro z h1 h2 _
          have h3 := h2 _ (.head _)
          have h4 := h2 _ (.tail _ (.head _))
          have h5 := h2 _ (.tail _ (.tail _ (.head _)))
          simp [h1, h3, h4, h5, kstB]
        · rw [List.length_append, List.length_append, hP2, List.length_singleton, List.length_singleton, Nat.add_assoc]
        · show 0 ≤ Int.fdiv e.1.2.2 2
          rw [Int.fdiv_eq_ediv_of_nonneg _ (by decide)]; omega
        · show Int.fdiv e.1.2.2 2 < 16
          rw [Int.fdiv_eq_ediv_of_nonneg _ (by decide)]; omega
    · clear F5 N5 hP
      intro e u2 h2 tk2 _ hP F N
      obtain ⟨hP1, hP2, hP3, hP4⟩ := hP
      simp only [List.cons_append, List.nil_append] at N
      k_steps
      rename Fr g _ _ _ => F4
      rename News g _ _ _ => N4
      refine fr_at F4 (y := Str.ofString "text") (v := fun t' => .str (sS e.1.1) t') rfl fun tw3 hw3 => ?_
      refine fr_at F4 (y := Str.ofString "level") (v := fun t' => .int e.1.2.1 t') rfl fun tv3 hv3 => ?_
      show InvEndN _ _ _ _ _ _ _
      refine kst_end ((e.1.1, e.1.2.1), tw3, tv3) F4 N4 (fun p hp => by simp only [List.mem_cons, List.mem_singleton, List.not_mem_nil, or_false] at hp ⊢; simp [hp]) (fun p hp => by simp [hp]) rfl trivial (fun p hp => by rcases List.mem_cons.mp hp with rfl | hp; exact hw3; rw [List.mem_singleton.mp hp]; exact hv3) ?_ ⟨hP1, ?_⟩
      · intro z h1 h2 h6
        have h3 := h2 _ (.head _)
        have h4 := h2 _ (.tail _ (.head _))
        have h7 : z ≠ Str.ofString "cell" := fun e => by rw [e] at h6; exact absurd h6 (by decide)
        have h8 : z ≠ Str.ofString "turn" := fun e => by rw [e] at h6; exact absurd h6 (by decide)
        have h9 : ¬ ([Str.ofString "cell", Str.ofString "turn"].contains z = true) := by rw [h6]; decide
        simp only [kstB, if_neg h1, if_neg h3, if_neg h4, if_neg h7, if_neg h8, if_neg h9]
        simp [h1, h3, h4, h7, h8, kstB]
      · rw [hP2, rangeKs_length, List.length_append, List.length_singleton]; omega
  · intro c u h tk _ hP F N
    obtain ⟨hP1, hP2⟩ := hP
    have hd := hP1.le
    rw [rangeKs_length] at hP2
    have htl : (sS c.1.1).length ≤ 40 := by rw [sS_len]; omega
    k_steps
    rename Fr g _ _ _ => F4
    have e := mul_a c.1.2 hd.2
    have e2 : sS c.1.1 ++ Txt.mul (Str.ofString "a") (c.1.2 : Nat) = sS (c.1.1 ++ List.replicate c.1.2 97) := by rw [e, sS_app]
    rw [e2]
    exact hQ _ _ _ _ _ (fun b o e => F4.keep b o (hg b o (fun h => nomatch h) e)) hP1 hP2
end
end Mine
namespace Mine
section
variable {prog : Program} {w : World} {K : Type} [DecidableEq K] {knd : KeyKind prog w K} {A : Around} {E : Value → Shared → Prop} {s : Shared}
/-- the keys of a dict, collected -/
theorem collect_dict {d : Addr} {kvs : List (K × Value)} {Q : List Value → Shared → Prop} (hh : A.handled = none) (hds : (d == sysModules) = false) (hd : s.heap.DictOf knd d kvs) (hz : kvs.length ≤ sizeLine)
    (hQ : ∀ h' tk' (vs : List Value), s.heap.StaysIn h' → vs.length = kvs.length → (∀ (i : Nat) (v : Value), vs[i]? = some v → ∃ k x, kvs[i]? = some (k, x) ∧ knd.is k v = true) → Q vs { s with heap := h', toks := tk' }) :
    wpAny (model prog w) A (collect (.ref d)) Q E s := by
  obtain ⟨ep, hm⟩ := hd.dictAt
  have hdl := hm.lt_size
  unfold collect
  refine wpAny_bind (wpAny_runValue (codeAny_builtin PySem.F.entry_proto_collect ?_))
  rw [Around.under_plainId PySem.F.plain_proto_collect _]
  show wpAny _ A.in1 (newList [] >>= fun l => again (.builtin "list.__iadd__" ⟨[l, .ref d], []⟩)) _ _ s
  refine wpAny_bind (wpAny_newObj_type ?_)
  refine wpAny_pure ⟨plainId_quiet PySem.F.plain_list_iadd _, codeAny_builtin PySem.F.entry_list_iadd ?_⟩
  rw [Around.under_plainId PySem.F.plain_list_iadd _]
  have hm1 := hm.push { cls := .type "list", data := .seq ([] : List Value).toArray }
  show wpAny _ A.in1 (Builtin.List.listExtendWith (.ref s.heap.objs.size) (.ref d) (.ref s.heap.objs.size)) _ _ _
  unfold Builtin.List.listExtendWith
  refine wpAny_bind (wpAny_typeOf hm1.dictOf.typeIs ?_)
  have h1 : Builtin.List.listSameRef (.ref s.heap.objs.size) (.ref d) = false := by simp [Builtin.List.listSameRef]; exact Nat.ne_of_gt hdl
  rw [if_neg (by rw [h1]; decide)]
  refine wpAny_bind (wpAny_pyIter_dict hds hm1 ?_)
  refine wpAny_bind (wpAny_holding ?_)
  unfold Builtin.List.listLengthHint
  have hm2 := hm1.push { cls := .type "dict_keyiterator", data := .fields #[.ref d, .int 0 0, .int kvs.length 0, .int ep 0] }
  refine wpAny_bind (wpAny_specialOf hm2.dictOf.typeIs PySem.F.slot_dict_len.lookup ?_)
  generalize hid : ("dict.__len__" : String) = id0
  fail_if_success (clear hid id0)
  wp_delta
  rw [show splitId id0 = some ("dict", "__len__") from by subst hid; decide +kernel]
  subst hid
  refine wpAny_bind (wpAny_isInstance (b := true) hm2.dictOf.typeIs (by rw [isSubtype_type]; kernel_rfl) ?_)
  rw [if_neg (by decide)]
  dsimp only
  rw [if_pos (by decide)]
  refine wpAny_bind (wpAny_typeOf hm2.dictOf.typeIs ?_)
  refine wpAny_pure ?_
  rw [if_pos (by rfl)]
  refine wpAny_bind (wpAny_rule ?_)
  have hS₁ : ((s.heap.push { cls := .type "list", data := .seq ([] : List Value).toArray }).push { cls := Value.type "dict_keyiterator", data := Data.fields #[Value.ref d, Value.int 0 0, Value.int (↑kvs.length) 0, Value.int (↑ep) 0] }).get? s.heap.objs.size = some { cls := .type "list", data := .seq ([] : List Value).toArray } := Heap.get?_push_of_some _ (Heap.get?_push_size _ rfl)
  have hI₁ : ((s.heap.push { cls := .type "list", data := .seq ([] : List Value).toArray }).push { cls := Value.type "dict_keyiterator", data := Data.fields #[Value.ref d, Value.int 0 0, Value.int (↑kvs.length) 0, Value.int (↑ep) 0] }).get? (s.heap.push { cls := .type "list", data := .seq ([] : List Value).toArray }).objs.size = some { cls := Value.type "dict_keyiterator", data := Data.fields #[Value.ref d, Value.int 0 0, Value.int (↑kvs.length) 0, Value.int (↑ep) 0] } := Heap.get?_push_size _ rfl
  have hsz1 : (s.heap.push { cls := .type "list", data := .seq ([] : List Value).toArray }).objs.size = s.heap.objs.size + 1 := size_push' _ _
  refine wpAny_bind ?_
  show wpAny _ A.in1 (updateSeq s.heap.objs.size (·.push .none) >>= fun _ => updateSeq s.heap.objs.size (·.pop)) _ _ _
  refine wpAny_bind (wpAny_updateSeq hS₁ rfl ?_)
  have hS₂ := Heap.get?_update_self (Obj.mapSeq (·.push Value.none)) hS₁ rfl
  refine wpAny_updateSeq hS₂ rfl ?_
  have hS₃ := Heap.get?_update_self (Obj.mapSeq (·.pop)) hS₂ rfl
  have W := (Walks.dictKeys (prog := prog) (w := w) (knd := knd) (A := A.in1) hh (s.heap.push { cls := .type "list", data := .seq ([] : List Value).toArray }).objs.size d (Nat.ne_of_lt (by rw [hsz1]; exact Nat.lt_succ_of_lt hdl)) kvs ep).toS
  have hne1 : s.heap.objs.size ≠ (s.heap.push { cls := .type "list", data := .seq ([] : List Value).toArray }).objs.size := by rw [hsz1]; exact Nat.ne_of_lt (Nat.lt_succ_self _)
  refine wpAny_pure ⟨plainId_quiet PySem.F.plain_extend_loop _, codeAny_extend_loopS W hz _ ?_ _ kvs.length 0 _ _ _ rfl (Nat.zero_le _) ?_ hS₃ (ItemsOf.nil _) fun s' acc' c' hmv hS' hacc => ?_⟩
  · intro hmem
    rcases List.mem_cons.mp hmem with e | hmem
    · exact hne1 e
    · exact absurd hdl (by rw [← List.mem_singleton.mp hmem]; exact Nat.lt_irrefl _)
  · have oth : ∀ b o, b ≠ s.heap.objs.size → _ → _ := fun b o hb (e : ((s.heap.push { cls := .type "list", data := .seq ([] : List Value).toArray }).push { cls := Value.type "dict_keyiterator", data := Data.fields #[Value.ref d, Value.int 0 0, Value.int (↑kvs.length) 0, Value.int (↑ep) 0] }).get? b = some o) => (Heap.get?_update_other _ (Obj.mapSeq (·.pop)) (Ne.symm hb)).trans ((Heap.get?_update_other _ (Obj.mapSeq (·.push Value.none)) (Ne.symm hb)).trans e)
    exact ⟨⟨_, oth _ _ (Ne.symm hne1) hI₁, rfl, rfl⟩, hm2.at' fun o e => oth d o (Nat.ne_of_lt hdl) e⟩
  · show wpAny _ A (load s.heap.objs.size >>= _) _ _ s'
    refine wpAny_bind (wpAny_load hS' ?_)
    refine wpAny_pure ?_
    obtain ⟨h', g', d', tk', os'⟩ := s'
    obtain ⟨mh, mg, md, mo, mt⟩ := hmv
    dsimp only at mg md mo
    subst mg md mo
    refine hQ _ _ _ ?_ (by rw [Array.length_toList]; exact hacc.1) fun i v hv => hacc.2 i v (by simpa using hv)
    intro b o e
    have hlt := Heap.lt_size e
    have hbS : b ≠ s.heap.objs.size := Nat.ne_of_lt hlt
    refine mh b o ?_ ?_
    · intro hmem
      rcases List.mem_cons.mp hmem with q | hmem
      · exact hbS q
      · exact absurd hlt (by rw [List.mem_singleton.mp hmem, hsz1]; exact Nat.not_lt.mpr (Nat.le_succ _))
    · exact (Heap.get?_update_other _ (Obj.mapSeq (·.pop)) (Ne.symm hbS)).trans ((Heap.get?_update_other _ (Obj.mapSeq (·.push Value.none)) (Ne.symm hbS)).trans (Heap.get?_push_of_some _ (Heap.get?_push_of_some _ e)))
theorem keys_ints : ∀ {kvs : List (Int × Value)} {vs : List Value}, vs.length = kvs.length → (∀ (i : Nat) (v : Value), vs[i]? = some v → ∃ k x, kvs[i]? = some (k, x) ∧ (intKind prog w).is k v = true) → IntsAre vs (kvs.map (·.1))
  | [], [], _, _ => .nil
  | q :: kvs, [], h, _ => by simp at h
  | [], v :: vs, h, _ => by simp at h
  | q :: kvs, v :: vs, h, hk => by
    obtain ⟨k, x, e, hv⟩ := hk 0 v rfl
    obtain ⟨t, rfl⟩ := Value.isInt_shape hv
    simp at e
    subst e
    exact .cons _ t (keys_ints (kvs := kvs) (vs := vs) (by simpa using h) fun i u hu => by
      obtain ⟨k', x', e', hv'⟩ := hk (i + 1) u (by simpa using hu)
      exact ⟨k', x', by simpa using e', hv'⟩)
theorem sorted_dict {d : Addr} {kvs : List (Int × Value)} {Q : Value → Shared → Prop} (hh : A.handled = none) (hds : (d == sysModules) = false) (hdo : s.heap.DictOf (intKind prog w) d kvs) (h64 : kvs.length < 64)
    (hQ : ∀ h' tk' D out n ns, s.heap.StaysIn h' → s.heap.get? D = none → h'.get? D = some (seqObj "list" out n) → IntsAre out.toList ns → ns.Perm (kvs.map (·.1)) → ns.Pairwise (· ≤ ·) → Q (.ref D) { s with heap := h', toks := tk' }) :
    wpAny (model prog w) A (call (.builtin "sorted") [.ref d]) Q E s := by
  refine Calls.call_function_entry kind_sorted plain_sorted entry_sorted (args_sorted1 _) ?_
  unfold Builtin.«sorted»
  refine wpAny_bind (m := checkCount "sorted" 1 1 _) (wpAny_pure ?_)
  refine wpAny_bind (collect_dict (s := s) (A := A.in1) hh hds hdo (Nat.le_trans (Nat.le_of_lt h64) (by decide : 64 ≤ sizeLine)) ?_)
  intro h1 tk1 vs st1 hlen hk
  have hI := keys_ints hlen hk
  refine wpAny_bind (wpAny_newList ?_)
  have hoL : (h1.push (seqObj "list" vs.toArray 0)).get? h1.objs.size = some (seqObj "list" vs.toArray 0) := Heap.get?_push_size _ rfl
  refine wpAny_bind (wpAny_holding (wpAny_call_entry slot_list_sort ⟨_, hoL, rfl⟩ entry_list_sort (list_sort_tree hoL hI (by rw [hlen]; exact h64) fun out ns' a1 a2 a3 => ⟨_, rfl, ?_⟩) (args_list_sort _)))
  obtain ⟨n', hn'⟩ := sortedHeap_at (vs := vs) (out := out) hoL
  refine wpAny_pure ⟨_, rfl, hQ _ _ _ out n' ns' ?_ ?_ hn' a1 a2 a3⟩
  · intro b o e
    have e1 := st1 b o e
    have hlt := Heap.lt_size e1
    exact (sortedHeap_old (Nat.ne_of_lt hlt) (by rw [size_push']; exact Nat.lt_succ_of_lt hlt)).trans (Heap.get?_push_of_some _ e1)
  · cases q : s.heap.get? h1.objs.size with
    | none => rfl
    | some o => exact absurd (Heap.lt_size (st1 _ _ q)) (Nat.lt_irrefl _)
end
end Mine
namespace Mine
section
variable {prog : Program} {w : World} {A : Around} {E : Value → Shared → Prop} {Q : Flow → Shared → Prop} {s : Shared} {env : Env}
/-- what a turn of a while loop leaves -/
def WPost (J : Nat → Shared → Prop) (n : Nat) (f : Flow) (s₃ : Shared) : Prop := f = .next ∧ ∃ n', n' < n ∧ J n' s₃
/-- a while loop with any invariant -/
theorem while_any {test : Expr} {body : List Stmt} {pos : Pos} (J : Nat → Shared → Prop) (n₀ : Nat) (hJ : J n₀ s)
    (turn : ∀ J' : Nat → Shared → Prop, J' = J → ∀ n s', J n s' → wpAny (model prog w) A (isTrue test env (eval test env)) (fun b s₂ =>
        if b = true then wpAny (model prog w) A (execs body env) (WPost J' n) E s₂ else Q .next s₂) E s')
    (hE : PassesOwn (model prog w) A env E := by passes_own) :
    wpAny (model prog w) A (exec (.While test body [] pos) env) Q E s := by
  refine wpAny_While (codeAny_whileLoop J ?_ n₀ hJ)
  intro n s' hj
  refine wpAny_mono (turn J rfl n s' hj) (fun b s₂ h₂ => ?_) hE
  cases b with
  | false =>
    simp only [Bool.false_eq_true, if_false] at h₂ ⊢
    exact wpAny_execs_nil h₂
  | true =>
    simp only [if_true] at h₂ ⊢
    refine wpAny_mono h₂ (fun f s₃ h₃ => ?_) hE
    obtain ⟨rfl, n', hn, hj'⟩ := h₃
    exact ⟨n', hn, hj'⟩
end
def accE (hs : Int) (tt ti : Tok) : List DictEntry := [⟨hs, .str (Str.ofString "_initial_size") tt, .int 0 ti⟩]
/-- the tables of the defs that make defs -/
structure Wd (B h : Heap) : Prop where
  b48 : B.get? 48 = none
  c48 : CodeHd B 52 48
  t48 : TabS B h
  b69 : B.get? 69 = none
  c69 : CodeHd B 73 69
  t69 : TabD B h
  b62 : B.get? 62 = none
  c62 : CodeHd B 66 62
  t62 : TabI B h
/-- no table and no code -/
def NoTab (o : Obj) : Prop := o.cls ≠ .none ∧ ∀ vs, o.data ≠ .fields vs
theorem TabSt.keepS {B h h' : Heap} {S : List Addr} {P : Addr} {pos : Pos} {qual : Str} (x : TabSt B P pos qual h) (k : Keep S h h') (hS : ∀ a ∈ S, ∃ o, h.get? a = some o ∧ NoTab o) : TabSt B P pos qual h' := by
  rcases x with x | ⟨c', oc, vs, t, h1, h2, h3, h4, h5⟩
  · refine .inl (k _ _ (fun q => ?_) x)
    obtain ⟨o, e, n1, n2⟩ := hS _ q
    rw [e] at x; cases x; exact n1 rfl
  · refine .inr ⟨c', oc, vs, t, k _ _ (fun q => ?_) h1, k _ _ (fun q => ?_) h2, h3, h4, h5⟩
    · obtain ⟨o, e, n1, n2⟩ := hS _ q
      rw [e] at h1; cases h1; exact n1 rfl
    · obtain ⟨o, e, n1, n2⟩ := hS _ q
      rw [e] at h2; cases h2; exact n2 _ h3
theorem TabSt.keep1 {B h h' : Heap} {P P' : Addr} {pos pos' : Pos} {qual qual' : Str} (x : TabSt B P pos qual h) (y : TabSt B P' pos' qual' h) (hne : P ≠ P') (k : Keep [P'] h h') : TabSt B P pos qual h' := by
  have hc : ∀ c' oc vs q t, h.get? c' = some oc → oc.data = .fields vs → vs[1]? = some (.str q t) → c' ≠ P' := by
    rintro c' oc vs q t e e2 e3 rfl
    rcases y with y | ⟨_, _, _, _, y, _⟩ <;> (rw [e] at y; cases y; cases e2; simp at e3)
    cases e3
  rcases x with x | ⟨c', oc, vs, t, h1, h2, h3, h4, h5⟩
  · exact .inl (k _ _ (by simpa using hne) x)
  · exact .inr ⟨c', oc, vs, t, k _ _ (by simpa using hne) h1, k _ _ (by simpa using hc _ _ _ _ _ h2 h3 h4) h2, h3, h4, h5⟩
theorem TabSt.ne {B h : Heap} {P a : Addr} {pos : Pos} {qual : Str} {o : Obj} (x : TabSt B P pos qual h) (e : h.get? a = some o) (hn : o.cls ≠ .none) : a ≠ P := by
  rintro rfl
  rcases x with x | ⟨_, _, _, _, x, _⟩ <;> (rw [e] at x; cases x; exact hn rfl)
theorem Wd.keep {B h h' : Heap} {S : List Addr} (W : Wd B h) (k : Keep S h h') (hS : ∀ a ∈ S, ∃ o, h.get? a = some o ∧ NoTab o) : Wd B h' :=
  { W with t48 := W.t48.keepS k hS, t69 := W.t69.keepS k hS, t62 := W.t62.keepS k hS }
theorem Wd.stays {B h h' : Heap} (W : Wd B h) (k : h.StaysIn h') : Wd B h' := W.keep (S := []) (fun b o _ e => k b o e) fun _ h => absurd h List.not_mem_nil
theorem Wd.k48 {B h h' : Heap} (W : Wd B h) (k : Keep [48] h h') (t : TabS B h') : Wd B h' := { W with t48 := t, t69 := W.t69.keep1 W.t48 (by decide) k, t62 := W.t62.keep1 W.t48 (by decide) k }
theorem Wd.k69 {B h h' : Heap} (W : Wd B h) (k : Keep [69] h h') (t : TabD B h') : Wd B h' := { W with t69 := t, t48 := W.t48.keep1 W.t69 (by decide) k, t62 := W.t62.keep1 W.t69 (by decide) k }
theorem Wd.k62 {B h h' : Heap} (W : Wd B h) (k : Keep [62] h h') (t : TabI B h') : Wd B h' := { W with t62 := t, t48 := W.t48.keep1 W.t62 (by decide) k, t69 := W.t69.keep1 W.t62 (by decide) k }
theorem Wd.ne {B h : Heap} (W : Wd B h) {a : Addr} {o : Obj} (e : h.get? a = some o) (hn : o.cls ≠ .none) : a ≠ 48 ∧ a ≠ 69 ∧ a ≠ 62 := ⟨W.t48.ne e hn, W.t69.ne e hn, W.t62.ne e hn⟩
end Mine
namespace Mine
theorem news_set {g h h' : Heap} {L : Addr} {as : List Addr} {os : List Obj} (N : News g L h (as.zip os)) (nd : as.Nodup) {i : Nat} {a : Addr} {o' : Obj} (ha : as[i]? = some a) (hi : i < os.length) (k : Keep [a] h h') (e : h'.get? a = some o') : News g L h' (as.zip (os.set i o')) := by
  intro q hq
  obtain ⟨j, hj⟩ := List.getElem?_of_mem hq
  rw [List.getElem?_zip_eq_some] at hj
  obtain ⟨h1, h2⟩ := hj
  by_cases hij : i = j
  · subst hij
    rw [List.getElem?_set_self hi] at h2
    rw [ha] at h1
    have e1 := Option.some.inj h1
    have e2 := Option.some.inj h2
    have hz : (a, os[i]) ∈ as.zip os := List.mem_of_getElem? (i := i) (by rw [List.getElem?_zip_eq_some]; exact ⟨ha, by simp [hi]⟩)
    have z := (N _ hz).2
    refine ⟨?_, ?_, ?_⟩
    · rw [← e1, ← e2]; exact e
    · rw [← e1]; exact z.1
    · rw [← e1]; exact z.2
  · rw [List.getElem?_set_ne hij] at h2
    have hz : (q.1, q.2) ∈ as.zip os := List.mem_of_getElem? (i := j) (by rw [List.getElem?_zip_eq_some]; exact ⟨h1, h2⟩)
    have z := N _ hz
    refine ⟨k _ _ (fun hm => ?_) z.1, z.2⟩
    rw [List.mem_singleton] at hm
    rw [hm] at h1
    have hi1 : i < as.length := by
      cases q : as[i]? with
      | none => rw [q] at ha; cases ha
      | some _ => exact (List.getElem?_eq_some_iff.mp q).1
    have hj1 : j < as.length := (List.getElem?_eq_some_iff.mp h1).1
    exact hij ((List.getElem?_inj hi1 nd).mp (ha.trans h1.symm))
theorem ne_obj {h : Heap} {a b : Addr} {o o' : Obj} (e : h.get? a = some o) (e' : h.get? b = some o') (hne : o.cls ≠ o'.cls) : a ≠ b := by
  rintro rfl
  rw [e] at e'
  exact hne (congrArg Obj.cls (Option.some.inj e'))
theorem sep8 {B h : Heap} (hW : Wd B h) {P dx H dh l : Addr} {hs hs2 : Int} {tt tt2 ti : Tok} {en hn n k : Nat} {vs us : Array Value} (hP : h.get? P = some (accO dx vs n)) (hdx : h.get? dx = some (dictOf (accE hs tt ti) en)) (hH : h.get? H = some (hdO dh)) (hdd : h.get? dh = some (dictOf (hdE hs2 tt2 l) hn)) (hl : h.get? l = some (W.listOf us k)) :
    [P, dx, H, dh, l, 48, 69, 62].Nodup := by
  have a1 : P ≠ dx := ne_obj hP hdx (by simp [accO, hdO, dictOf])
  have a2 : P ≠ H := ne_obj hP hH (by simp [accO, hdO, dictOf])
  have a3 : P ≠ dh := ne_obj hP hdd (by simp [accO, hdO, dictOf])
  have a4 : P ≠ l := ne_obj hP hl (by simp [accO, hdO, dictOf])
  have b1 : dx ≠ H := ne_obj hdx hH (by simp [accO, hdO, dictOf])
  have b2 : dx ≠ dh := by
    rintro rfl
    rw [hdx] at hdd
    have := Option.some.inj hdd
    simp [dictOf, accE, hdE] at this
  have b3 : dx ≠ l := ne_obj hdx hl (by simp [accO, hdO, dictOf])
  have c1 : H ≠ dh := ne_obj hH hdd (by simp [accO, hdO, dictOf])
  have c2 : H ≠ l := ne_obj hH hl (by simp [accO, hdO, dictOf])
  have d1 : dh ≠ l := ne_obj hdd hl (by simp [accO, hdO, dictOf])
  obtain ⟨p1, p2, p3⟩ := hW.ne hP (by simp [accO, hdO, dictOf])
  obtain ⟨q1, q2, q3⟩ := hW.ne hdx (by simp [accO, hdO, dictOf])
  obtain ⟨r1, r2, r3⟩ := hW.ne hH (by simp [accO, hdO, dictOf])
  obtain ⟨s1, s2, s3⟩ := hW.ne hdd (by simp [accO, hdO, dictOf])
  obtain ⟨t1, t2, t3⟩ := hW.ne hl (by simp [accO, hdO, dictOf])
  simp [a1, a2, a3, a4, b1, b2, b3, c1, c2, d1, p1, p2, p3, q1, q2, q3, r1, r2, r3, s1, s2, s3, t1, t2, t3]
theorem wl_asc (n : Nat) : ∀ c ∈ (sW n).cps.toList, c < 128 := fun c hc => by
  rcases wl_ab n c (by simpa [sW, sS] using hc) with rfl | rfl <;> decide
/-- a word as it is spelled: in great letters or not -/
def sp (u : Bool) (n : Nat) : Str := if u then Txt.upper (sW n) else sW n
theorem up_eq (n : Nat) : Txt.upper (sW n) = sS ((wl n).map up1) := by
  rw [upper_ascii (wl_asc n), sW, sS]
  show Str.mk _ = Str.mk _
  rw [List.map_toArray]
theorem sp_eq (u : Bool) (n : Nat) : sp u n = sS (if u then (wl n).map up1 else wl n) := by
  cases u
  · rfl
  · exact up_eq n
theorem sp_mem (u : Bool) (n : Nat) : ∀ c ∈ (sp u n).cps.toList, c = 97 ∨ c = 98 ∨ c = 65 ∨ c = 66 := by
  intro c hc
  rw [sp_eq] at hc
  have hc : c ∈ (if u then (wl n).map up1 else wl n) := by simpa [sS] using hc
  cases u
  · rcases wl_ab n c hc with h | h <;> simp [h]
  · obtain ⟨d, hd, rfl⟩ := List.mem_map.mp hc
    rcases wl_ab n d hd with rfl | rfl <;> decide
theorem sp_asc (u : Bool) (n : Nat) : ∀ c ∈ (sp u n).cps.toList, 32 ≤ c ∧ c < 127 := fun c hc => by
  rcases sp_mem u n c hc with rfl | rfl | rfl | rfl <;> decide
theorem sp_len (u : Bool) (n : Nat) : (sp u n).length = (wl n).length := by
  rw [sp_eq, sS_len]
  cases u <;> simp
theorem lo_up : ∀ l : List Nat, (∀ c ∈ l, c = 97 ∨ c = 98) → (l.map up1).map lo1 = l
  | [], _ => rfl
  | a :: l, h => by
    rw [List.map_cons, List.map_cons, lo_up l fun c hc => h c (.tail _ hc)]
    rcases h a (.head _) with rfl | rfl <;> rfl
theorem lo_id : ∀ l : List Nat, (∀ c ∈ l, c = 97 ∨ c = 98) → l.map lo1 = l
  | [], _ => rfl
  | a :: l, h => by
    rw [List.map_cons, lo_id l fun c hc => h c (.tail _ hc)]
    rcases h a (.head _) with rfl | rfl <;> rfl
theorem sp_low (u : Bool) (n : Nat) : Txt.lower (sp u n) = sW n := by
  rw [lower_ascii (fun c hc => by have := sp_asc u n c hc; omega), sp_eq, sS, sW, sS]
  show Str.mk _ = Str.mk _
  rw [List.map_toArray]
  cases u
  · rw [if_neg (by decide), lo_id _ (wl_ab n)]
  · rw [if_pos rfl, lo_up _ (wl_ab n)]
theorem sp_up (n : Nat) : Txt.upper (sW n) = sp true n := rfl
def IsCode (o : Obj) : Prop := ∃ vs q t, o.data = .fields vs ∧ vs[1]? = some (Value.str q t)
theorem NoTab.noCode {o : Obj} (h : NoTab o) : ¬ IsCode o := fun ⟨vs, _, _, e, _⟩ => h.2 vs e
theorem TabSt.noCode {B h : Heap} {P : Addr} {pos : Pos} {qual : Str} (x : TabSt B P pos qual h) {o : Obj} (e : h.get? P = some o) : ¬ IsCode o := by
  rintro ⟨vs, q, t, e2, e3⟩
  rcases x with x | ⟨_, _, _, _, x, _⟩ <;> (rw [e] at x; cases x; cases e2; simp at e3)
  cases e3
/-- the tables and the codes that lie on a ledger -/
structure Cods (B g : Heap) (o48 o69 o62 : Obj) (cods : List (Addr × Obj)) : Prop where
  b48 : B.get? 48 = none
  c48 : CodeHd B 52 48
  b69 : B.get? 69 = none
  c69 : CodeHd B 73 69
  b62 : B.get? 62 = none
  c62 : CodeHd B 66 62
  code : ∀ q ∈ cods, IsCode q.2
  t48 : ∀ h, g.StaysIn h → h.get? 48 = some o48 → (∀ q ∈ cods, h.get? q.1 = some q.2) → TabS B h
  t69 : ∀ h, g.StaysIn h → h.get? 69 = some o69 → (∀ q ∈ cods, h.get? q.1 = some q.2) → TabD B h
  t62 : ∀ h, g.StaysIn h → h.get? 62 = some o62 → (∀ q ∈ cods, h.get? q.1 = some q.2) → TabI B h
theorem Cods.wd {B g h : Heap} {o48 o69 o62 : Obj} {cods : List (Addr × Obj)} (C : Cods B g o48 o69 o62 cods) (k : g.StaysIn h) (e48 : h.get? 48 = some o48) (e69 : h.get? 69 = some o69) (e62 : h.get? 62 = some o62) (e : ∀ q ∈ cods, h.get? q.1 = some q.2) : Wd B h :=
  ⟨C.b48, C.c48, C.t48 h k e48 e, C.b69, C.c69, C.t69 h k e69 e, C.b62, C.c62, C.t62 h k e62 e⟩
theorem TabSt.via {B h g h' : Heap} {S : List Addr} {P : Addr} {pos : Pos} {qual : Str} {o : Obj} (x : TabSt B P pos qual h) (e : h.get? P = some o) (hg : Keep S h g) (hS : ∀ a ∈ S, ∃ o, h.get? a = some o ∧ ¬ IsCode o) (k : g.StaysIn h') (e' : h'.get? P = some o) : TabSt B P pos qual h' := by
  rcases x with x | ⟨c', oc, vs, t, h1, h2, h3, h4, h5⟩
  · rw [e] at x; cases x; exact .inl e'
  · rw [e] at h1
    cases h1
    refine .inr ⟨c', oc, vs, t, e', k _ _ (hg _ _ (fun q => ?_) h2), h3, h4, h5⟩
    obtain ⟨o2, e2, n2⟩ := hS _ q
    rw [h2] at e2
    cases e2
    exact n2 ⟨vs, _, _, h3, h4⟩
theorem Cods.init {B h g : Heap} {S : List Addr} {o48 o69 o62 : Obj} (hW : Wd B h) (e48 : h.get? 48 = some o48) (e69 : h.get? 69 = some o69) (e62 : h.get? 62 = some o62) (hg : Keep S h g) (hS : ∀ a ∈ S, ∃ o, h.get? a = some o ∧ ¬ IsCode o) : Cods B g o48 o69 o62 [] :=
  ⟨hW.b48, hW.c48, hW.b69, hW.c69, hW.b62, hW.c62, (fun _ h => absurd h List.not_mem_nil), fun _ k e _ => hW.t48.via e48 hg hS k e, fun _ k e _ => hW.t69.via e69 hg hS k e, fun _ k e _ => hW.t62.via e62 hg hS k e⟩
theorem TabSt.up {B g h' : Heap} {L : Addr} {m : Str → Option Value} {P : Addr} {pos : Pos} {qual : Str} {cods : List (Addr × Obj)} (F : Fr g L h' m) (Nc : News g L h' cods) (t : TabSt B P pos qual h') :
    ∃ o' new, h'.get? P = some o' ∧ News g L h' (new ++ cods) ∧ (∀ q ∈ new, IsCode q.2) ∧ ∀ h, g.StaysIn h → h.get? P = some o' → (∀ q ∈ new ++ cods, h.get? q.1 = some q.2) → TabSt B P pos qual h := by
  rcases t with x | ⟨c', oc, vs, t, h1, h2, h3, h4, h5⟩
  · exact ⟨_, [], x, Nc, (fun _ h => absurd h List.not_mem_nil), fun h _ e _ => .inl e⟩
  · cases q : g.get? c' with
    | some o2 =>
      have := F.keep _ _ q
      rw [h2] at this
      cases this
      exact ⟨_, [], h1, Nc, (fun _ h => absurd h List.not_mem_nil), fun h k e _ => .inr ⟨c', oc, vs, t, e, k _ _ q, h3, h4, h5⟩⟩
    | none =>
      refine ⟨_, [(c', oc)], h1, fun r hr => ?_, fun r hr => ?_, fun h k e he => .inr ⟨c', oc, vs, t, e, he (c', oc) (.head _), h3, h4, h5⟩⟩
      · rcases List.mem_cons.mp hr with rfl | hr
        · refine ⟨h2, fun e => ?_, q⟩
          obtain ⟨oL, es, ep, hL, hLd, _⟩ := F.ns
          rw [← e, h2] at hL
          cases hL
          rw [h3] at hLd
          cases hLd
        · exact Nc r hr
      · rw [List.mem_singleton.mp hr]
        exact ⟨vs, _, _, h3, h4⟩
theorem Cods.more {B g : Heap} {o48 o69 o62 : Obj} {cods new : List (Addr × Obj)} (C : Cods B g o48 o69 o62 cods) (hn : ∀ q ∈ new, IsCode q.2) : Cods B g o48 o69 o62 (new ++ cods) :=
  { C with
    code := fun q hq => (List.mem_append.mp hq).elim (hn q) (C.code q)
    t48 := fun h k e he => C.t48 h k e fun q hq => he q (List.mem_append_right _ hq)
    t69 := fun h k e he => C.t69 h k e fun q hq => he q (List.mem_append_right _ hq)
    t62 := fun h k e he => C.t62 h k e fun q hq => he q (List.mem_append_right _ hq) }
theorem Cods.up48 {B g h' : Heap} {L : Addr} {m : Str → Option Value} {o48 o69 o62 : Obj} {cods : List (Addr × Obj)} (C : Cods B g o48 o69 o62 cods) (F : Fr g L h' m) (Nc : News g L h' cods) (t : TabS B h') : ∃ o' cods', h'.get? 48 = some o' ∧ News g L h' cods' ∧ Cods B g o' o69 o62 cods' := by
  obtain ⟨o', new, a, b, c, d⟩ := t.up F Nc
  have C' := C.more c
  exact ⟨o', _, a, b, { C' with t48 := d }⟩
theorem Cods.up69 {B g h' : Heap} {L : Addr} {m : Str → Option Value} {o48 o69 o62 : Obj} {cods : List (Addr × Obj)} (C : Cods B g o48 o69 o62 cods) (F : Fr g L h' m) (Nc : News g L h' cods) (t : TabD B h') : ∃ o' cods', h'.get? 69 = some o' ∧ News g L h' cods' ∧ Cods B g o48 o' o62 cods' := by
  obtain ⟨o', new, a, b, c, d⟩ := t.up F Nc
  have C' := C.more c
  exact ⟨o', _, a, b, { C' with t69 := d }⟩
theorem Cods.up62 {B g h' : Heap} {L : Addr} {m : Str → Option Value} {o48 o69 o62 : Obj} {cods : List (Addr × Obj)} (C : Cods B g o48 o69 o62 cods) (F : Fr g L h' m) (Nc : News g L h' cods) (t : TabI B h') : ∃ o' cods', h'.get? 62 = some o' ∧ News g L h' cods' ∧ Cods B g o48 o69 o' cods' := by
  obtain ⟨o', new, a, b, c, d⟩ := t.up F Nc
  have C' := C.more c
  exact ⟨o', _, a, b, { C' with t62 := d }⟩
theorem Cods.keep1 {B g h h' : Heap} {L a : Addr} {o o48 o69 o62 : Obj} {cods : List (Addr × Obj)} (C : Cods B g o48 o69 o62 cods) (Nc : News g L h cods) (e : h.get? a = some o) (hn : ¬ IsCode o) (k : Keep [a] h h') : News g L h' cods :=
  News.keepS Nc k fun q hq hm => by
    rw [List.mem_singleton] at hm
    have := (Nc q hq).1
    rw [hm, e] at this
    exact hn (by rw [Option.some.inj this]; exact C.code q hq)
theorem with_snd {h₀ h : Heap} {L f : Addr} {o : Obj} {news : List (Addr × Obj)} (_N : News h₀ L h ((f, o) :: news)) {C : Prop} (k : ∀ o', o' = o → C) : C := k o rfl
theorem news_split {g h : Heap} {L : Addr} {a b : List (Addr × Obj)} (N : News g L h (a ++ b)) : News g L h a ∧ News g L h b := ⟨fun q hq => N q (List.mem_append_left _ hq), fun q hq => N q (List.mem_append_right _ hq)⟩
theorem news_at {g h : Heap} {L a : Addr} {o : Obj} {ns : List (Addr × Obj)} (N : News g L h ns) (i : Nat) (e : ns[i]? = some (a, o)) : h.get? a = some o ∧ a ≠ L ∧ g.get? a = none := N (a, o) (List.mem_of_getElem? e)
def AB (x : Str) : Prop := ∀ c ∈ x.cps.toList, c < 128
theorem strOk_ab {x : Str} (h : AB x) : PyData.strOk x = true := by
  unfold PyData.strOk
  simp only [Array.all_eq_true, decide_eq_true_eq]
  intro i hi
  have := h _ (Array.getElem_mem_toList hi)
  omega
theorem sh2 {x y : Str} (hx : AB x) (hy : AB y) : SeqAt.shaped (.tuple [.str x, .str y]) = true := by
  simp [SeqAt.shaped, PyData.canLay0, PyData.canLayAll0, PyData.depth, PyData.depthAll, strOk_ab hx, strOk_ab hy]
theorem sh3 {l : List Str} (h : ∀ x ∈ l, AB x) : SeqAt.shaped (.list (l.map .str)) = true := by
  have a : ∀ l : List Str, (∀ x ∈ l, AB x) → PyData.canLayAll0 (l.map .str) = true := fun l => by
    induction l with
    | nil => intro _; rfl
    | cons x l ih => intro h; simp [PyData.canLayAll0, PyData.canLay0, strOk_ab (h x (.head _)), ih fun y hy => h y (.tail _ hy)]
  have b : ∀ l : List Str, PyData.depthAll (l.map .str) = 0 := fun l => by
    induction l with
    | nil => rfl
    | cons x l ih => simp [PyData.depthAll, PyData.depth, ih]
  simp [SeqAt.shaped, PyData.canLay0, a l h, PyData.depth, b]
theorem eqv2 (c : Nat) : PyData.eqv (.tuple [.str (sS []), .str (sW c)]) (.tuple [.str (Str.ofString "b"), .str (Str.ofString "")]) = false := by
  simp only [PyData.eqv, PyData.eqvAll]
  have : (sS [] == Str.ofString "b") = false := by decide
  rw [this]; rfl
theorem eqvL : ∀ l l' : List Str, PyData.eqv (.list (l.map .str)) (.list (l'.map .str)) = decide (l = l')
  | [], [] => rfl
  | [], _ :: _ => rfl
  | _ :: _, [] => rfl
  | x :: l, y :: l' => by
    have := eqvL l l'
    simp only [PyData.eqv] at this
    simp only [List.map_cons, PyData.eqv, PyData.eqvAll, this]
    by_cases h : x = y <;> by_cases h' : l = l' <;> simp [h, h']
theorem ab_w (c : Nat) : AB (sW c) := wl_asc c
theorem ab_e : AB (sS []) := fun _ h => by simp [sS] at h
theorem ab_b : AB (Str.ofString "b") := by unfold AB; decide
theorem ab_n : AB (Str.ofString "") := by unfold AB; decide
theorem fr_same {g h : Heap} {L : Addr} {m m' : Str → Option Value} (F : Fr g L h m) (e : ∀ y, m y = m' y) : Fr g L h m' := by
  have : m = m' := funext e
  rw [← this]; exact F
theorem ite_twice {α : Type} {p : Prop} [Decidable p] {a b c : α} : (if p then a else if p then b else c) = if p then a else c := by by_cases h : p <;> simp [h]
/-- what an item of a comprehension leaves -/
def CPost (h₀ : Heap) (L : Addr) (m : Str → Option Value) (s : Shared) (led : List (Addr × Obj)) (R : Value → Prop) (y : Value) (s₂ : Shared) : Prop :=
  R y ∧ ∃ h' tk', s₂ = { s with heap := h', toks := tk' } ∧ Fr h₀ L h' m ∧ News h₀ L h' led
section
variable {prog : Program} {w : World} {A : Around} {s : Shared} {h₀ : Heap} {L : Addr} {m : Str → Option Value} {env : Env} {elt : Expr} {x : Str} {scope : Scope} {cl : List (Str × Addr)} {S : List (Addr × Obj) → Prop} {P : Nat → Value → Prop} {Fin : List Value → List (Addr × Obj) → Prop} {news : List (Addr × Obj)}
theorem comp_rest (R : Nat → Value → Prop) {n : Nat} (hS : S news)
    (turn : ∀ i v I oI C oC D m₂ h tk (E' : Value → Shared → Prop) ys, i < n → P i v → LCg.NsObj oC m₂ → m₂ x = some v → Fr h₀ L h m → News h₀ L h ((I, oI) :: (C, oC) :: (D, LCg.lst ys) :: news) → LCg.Off3 I C D news → ((@Ne Nat I C) ∧ (@Ne Nat I D) ∧ (@Ne Nat C D)) →
      wpAny (model prog w) A (eval elt (compEnvC scope cl C env)) (CPost h₀ L m { s with heap := h, toks := tk } ((I, oI) :: (C, oC) :: (D, LCg.lst ys) :: news) (R i)) E' { s with heap := h, toks := tk })
    (fin : ∀ ys : List Value, ys.length = n → (∀ (i : Nat) (y : Value), ys[i]? = some y → R i y) → Fin ys news) : LCg.CompRest prog w A h₀ L m env elt x scope cl s S P Fin n 0 [] news := by
  have step : ∀ (k i : Nat) (ys : List Value), i + k = n → ys.length = i → (∀ (j : Nat) (y : Value), ys[j]? = some y → R j y) → LCg.CompRest prog w A h₀ L m env elt x scope cl s S P Fin k i ys news := by
    intro k
    induction k with
    | zero => intro i ys e hl hy; exact LCg.CompRest.zero (fin ys (by omega) hy)
    | succ k ih =>
      intro i ys e hl hy
      refine LCg.CompRest.succ ?_
      intro v I oI C oC D m₂ h tk E' hv hC hx F N off ne
      refine wpAny_mono (turn i v I oI C oC D m₂ h tk E' ys (by omega) hv hC hx F N off ne) (fun y s₂ hp => ?_) fun _ _ e => e
      obtain ⟨hR, h', tk', rfl, F', N'⟩ := hp
      refine LCg.CompEnd.intro F' N' news (fun _ h => h) off hS (ih (i + 1) (ys ++ [y]) (by omega) (by simp [hl]) fun j z hz => ?_)
      rcases Nat.lt_or_ge j ys.length with hj | hj
      · rw [List.getElem?_append_left hj] at hz; exact hy j z hz
      · rw [List.getElem?_append_right hj] at hz
        have hj0 : j - ys.length = 0 := by
          rcases Nat.eq_zero_or_pos (j - ys.length) with h | h
          · exact h
          · rw [List.getElem?_eq_none (by simp; omega)] at hz; cases hz
        rw [hj0] at hz
        have : j = i := by omega
        rw [this, ← Option.some.inj hz]; exact hR
  exact step n 0 [] (Nat.zero_add n) rfl fun _ _ h => by simp at h
end
theorem ints_from {f : Nat → Int} : ∀ {n : Nat} {ys : List Value}, ys.length = n → (∀ (i : Nat) (y : Value), ys[i]? = some y → ∃ t, y = Value.int (f i) t) → IntsAre ys ((List.range n).map f)
  | 0, [], _, _ => .nil
  | 0, _ :: _, h, _ => by simp at h
  | n + 1, [], h, _ => by simp at h
  | n + 1, y :: ys, h, hy => by
    obtain ⟨t, e⟩ := hy 0 y rfl
    rw [List.range_succ_eq_map, List.map_cons, List.map_map, e]
    exact .cons _ t (ints_from (f := f ∘ Nat.succ) (by simpa using h) fun i z hz => hy (i + 1) z (by simpa using hz))
/-- the number of a set of places below n -/
def dn (ws : List Nat) : Nat → Nat
  | 0 => 0
  | n + 1 => if n ∈ ws then 2 ^ n + dn ws n else dn ws n
theorem dval_dn (ws : List Nat) : ∀ n, dval ((List.range n).map fun j => if j ∈ ws then (1 : Int) else 0) = ((dn ws n : Nat) : Int)
  | 0 => rfl
  | n + 1 => by
    rw [List.range_succ, List.map_append, dval_append, dval_dn ws n, dn]
    simp only [List.map_cons, List.map_nil, List.length_map, List.length_range, dval]
    split
    · rw [Int.natCast_add, pow_nat]; omega
    · simp
theorem dn_lt (ws : List Nat) : ∀ n, dn ws n < 2 ^ n
  | 0 => by simp [dn]
  | n + 1 => by
    have := dn_lt ws n
    rw [dn, Nat.pow_succ]
    split <;> omega
theorem dn_bit (ws : List Nat) : ∀ n k, (dn ws n).testBit k = (decide (k < n) && decide (k ∈ ws))
  | 0, k => by simp [dn]
  | n + 1, k => by
    have ih := dn_bit ws n k
    have hlt := dn_lt ws n
    rw [dn]
    rcases Nat.lt_trichotomy k n with h | rfl | h
    · have h2 : k < n + 1 := by omega
      split
      · rw [Nat.testBit_two_pow_add_gt h, ih]; simp [h, h2]
      · rw [ih]; simp [h, h2]
    · rw [Nat.testBit_lt_two_pow hlt] at ih
      split
      · rename_i hm
        rw [Nat.testBit_two_pow_add_eq, Nat.testBit_lt_two_pow hlt]; simp [hm]
      · rename_i hm
        rw [Nat.testBit_lt_two_pow hlt]; simp [hm]
    · have h2 : ¬ k < n + 1 := by omega
      rw [Nat.testBit_lt_two_pow]
      · simp [h2]
      · have : 2 ^ (n + 1) ≤ 2 ^ k := Nat.pow_le_pow_right (by decide) (by omega)
        rw [Nat.pow_succ] at this
        split <;> omega
theorem dn_or {ws : List Nat} {n : Nat} (h : ∀ c ∈ ws, c < n) : dn ws n = orAll ws := by
  apply Nat.eq_of_testBit_eq
  intro k
  rw [dn_bit, orAll_bit]
  by_cases hk : k ∈ ws
  · simp [hk, h k hk]
  · simp [hk]
theorem orAll_lt {ws : List Nat} {n : Nat} (h : ∀ c ∈ ws, c < n) : orAll ws < 2 ^ n := by
  rw [← dn_or h]; exact dn_lt ws n
theorem bits_get : ∀ (k i : Nat) (x : Nat), i < k → (bits (x : Int) k)[i]? = some (if x.testBit i then 1 else 0)
  | 0, i, x, h => absurd h (Nat.not_lt_zero _)
  | k + 1, 0, x, _ => by
    show some ((x : Int) % 2) = _
    rw [Nat.testBit_zero]
    congr 1
    split
    · rename_i h; have := of_decide_eq_true h; omega
    · rename_i h; have : ¬ x % 2 = 1 := fun e => h (by simp [e]); omega
  | k + 1, i + 1, x, h => by
    show (bits ((x : Int) / 2) k)[i]? = _
    have e : ((x : Int) / 2) = ((x / 2 : Nat) : Int) := by omega
    rw [e, bits_get k i (x / 2) (by omega), Nat.testBit_succ]
section
variable {prog : Program} {w : World} {A : Around} {E : Value → Shared → Prop} {s : Shared} {h₀ : Heap} {L M : Addr} {news : List (Addr × Obj)} {oM : Obj} {kvs : List (Int × Value)} {value slice : Expr} {i : Value} {ops : List Value} {Q : Value → Shared → Prop}
theorem sub_dict (N : News h₀ L s.heap news) (hm : (M, oM) ∈ news) (hD : oM.IsDictOf (intKind prog w) kvs) (h : wpAny (model prog w) A (getItem (.ref M) i) Q E s)
    (hs : subscripted slice false (.ref M) i = operate ops (getItem (.ref M) i)) (ht : ∀ r, letTemporaryGo value (.ref M) r = pure ()) : wpAny (model prog w) A (subscriptTail value slice (.ref M) i) Q E s :=
  subscriptTail_ops (Heap.dictOf_iff.mpr ⟨_, (N _ hm).1, hD⟩ : s.heap.DictOf (intKind prog w) M kvs).typeIs slot_dict_getitem.lookup h hs ht
end
/-- the numeral of a number -/
def nmS (n : Nat) : Str := Str.ofString (toString (n : Int))
theorem nm_len {n : Nat} (h : n < 65536) : (nmS n).length ≤ 640 := Nat.le_trans (KT.len_num (Int.natCast_nonneg _) (by omega)) (by decide)
theorem nm_val {n : Nat} (h : n < 65536) : PySem.intText? (nmS n) = some (n : Int) := KIN.num_reads (Int.natCast_nonneg _) (by omega)
theorem nm_asc (n : Nat) : ∀ c ∈ (nmS n).cps.toList, 32 ≤ c ∧ c < 127 := fun c hc => by
  by_cases h : c ≠ 45 ∧ (c < 48 ∨ 57 < c)
  · exact absurd hc (int_text_free' c h n)
  · omega
theorem RowsAre.take {h : Heap} {vs : List Value} {a b : List (Str × Str)} (R : RowsAre h vs (a ++ b)) : RowsAre h (vs.take a.length) a := by
  refine ⟨by rw [List.length_take, R.1, List.length_append]; omega, fun i v hv => ?_⟩
  have hi : i < a.length := by
    have := (List.getElem?_eq_some_iff.mp hv).1
    rw [List.length_take] at this
    omega
  rw [List.getElem?_take_of_lt hi] at hv
  obtain ⟨r, k, y, tk, ty, e1, e2, e3⟩ := R.2 i v hv
  rw [List.getElem?_append_left hi] at e2
  exact ⟨r, k, y, tk, ty, e1, e2, e3⟩
theorem RowsAre.snoc {h : Heap} {vs : List Value} {a : List (Str × Str)} {D : Addr} {x y : Str} {t1 t2 : Tok} (R : RowsAre h vs a) (e : h.get? D = some (pairO (.str x t1) (.str y t2))) : RowsAre h (vs ++ [.ref D]) (a ++ [(x, y)]) := by
  refine ⟨by simp [R.1], fun i v hv => ?_⟩
  rcases Nat.lt_or_ge i vs.length with hi | hi
  · rw [List.getElem?_append_left hi] at hv
    obtain ⟨r, k, z, tk, ty, e1, e2, e3⟩ := R.2 i v hv
    exact ⟨r, k, z, tk, ty, e1, by rw [List.getElem?_append_left (by rw [← R.1]; exact hi)]; exact e2, e3⟩
  · rw [List.getElem?_append_right hi] at hv
    cases q : i - vs.length with
    | zero =>
      rw [q] at hv
      exact ⟨D, x, y, t1, t2, (Option.some.inj hv).symm, by rw [List.getElem?_append_right (by rw [← R.1]; exact hi), ← R.1, q]; rfl, e⟩
    | succ j => rw [q] at hv; simp at hv
theorem told_low {tab : List (Str × Str)} {x y : Str} (h : Txt.lower x = Txt.lower y) : told tab x = told tab y := by
  unfold told; rw [h]
theorem told_sp (tab : List (Str × Str)) (u : Bool) (n : Nat) : told tab (sp u n) = told tab (sW n) := told_low ((sp_low u n).trans (sp_low false n).symm)
end Mine
namespace Mine
end Mine
--LINES
local macro_rules | `(tactic| walk_at "getMethod ref") => `(tactic| (k_here; (with_reducible show wpAny _ _ (getMethod (Value.ref _) (PySem.Str.ofString "pop") _) _ _ _); k_dflt (refine Mine.halt_of ?_)))
local macro_rules | `(tactic| walk_at "getMethod ref") => `(tactic| (k_here; (with_reducible show wpAny _ _ (getMethod (Value.ref _) (PySem.Str.ofString "push") _) _ _ _); k_dflt (refine Mine.halt_of ?_)))
local macro_rules | `(tactic| walk_at "call ref") => `(tactic| (k_here; (with_reducible show wpAny _ _ (call (Value.ref 60) _ _) _ _ _); k_dflt (refine Mine.halt_of ?_)))
local macro_rules | `(tactic| walk_at "call ref") => `(tactic| (k_here; (with_reducible show wpAny _ _ (call (Value.ref 67) _ _) _ _ _); k_dflt (refine Mine.halt_of ?_)))
local macro_rules | `(tactic| walk_at "call ref") => `(tactic| (k_here; (with_reducible show wpAny _ _ (call (Value.ref 74) _ _) _ _ _); k_dflt (refine Mine.halt_of ?_)))
local macro_rules | `(tactic| walk_at "call ref") => `(tactic| (k_here; (with_reducible show wpAny _ _ (call (Value.ref 114) _ _) _ _ _); k_dflt (refine Mine.halt_of ?_)))
local macro_rules | `(tactic| walk_at "call ref") => `(tactic| (k_here; (with_reducible show wpAny _ _ (call (Value.ref 98) _ _) _ _ _); k_dflt (refine Mine.halt_of ?_)))
local macro_rules | `(tactic| walk_at "call ref") => `(tactic| (k_here; (with_reducible show wpAny _ _ (call (Value.ref 281) _ _) _ _ _); k_dflt (refine Mine.halt_of ?_)))
local macro_rules | `(tactic| walk_at "call ref") => `(tactic| (k_here; (with_reducible show wpAny _ _ (call (Value.ref 309) _ _) _ _ _); k_dflt (refine Mine.halt_of ?_)))
local macro_rules | `(tactic| walk_at "exec While") => `(tactic| (k_here; k_dflt (refine Mine.halt_of ?_)))
local macro_rules | `(tactic| walk_at "setItem") => `(tactic| (k_here; k_dflt (refine Mine.halt_of ?_)))
local macro_rules | `(tactic| walk_at "eval ListComp") => `(tactic| (k_here; k_dflt (refine Mine.halt_of ?_)))
local macro_rules | `(tactic| walk_at "exec Assign cons ListComp") => `(tactic| (k_here; k_dflt (refine Mine.halt_of ?_)))
local macro_rules | `(tactic| walk_at "compareOp NotEq ref ref") => `(tactic| (k_here; k_dflt (refine Mine.halt_of ?_)))
local macro_rules | `(tactic| walk_at "call builtin:sorted") => `(tactic| (k_here; k_dflt (refine Mine.halt_of ?_)))
local macro_rules | `(tactic| walk_at "binaryOp Add ref ref") => `(tactic| (k_here; k_dflt (refine Mine.halt_of ?_)))
local macro_rules | `(tactic| walk_at "call builtin:max") => `(tactic| (k_here; k_dflt (refine Mine.halt_of ?_)))
local macro_rules | `(tactic| walk_at "CompSrc") => `(tactic| (k_here; k_dflt (refine Mine.halt_of ?_)))
local macro_rules | `(tactic| walk_at "call builtin:len") => `(tactic| (k_here; (with_reducible show wpAny _ _ (call (Value.builtin "len") [Value.ref _] _) _ _ _); k_dflt (refine Mine.halt_of ?_)))
local macro_rules | `(tactic| walk_at "getItem ref") => `(tactic| (k_here; k_dflt (refine Mine.halt_of ?_)))
local macro_rules | `(tactic| walk_at "compareOp In int ref") => `(tactic| (k_here; k_dflt (refine Mine.halt_of ?_)))
local macro_rules | `(tactic| walk_at "subscriptTail Name Name ref int") => `(tactic| (k_here; k_dflt (refine' Mine.sub_dict ?N ?m ?D ?_ ?s ?t; (case N => k_asm); (case m => k_mem); (case D => k_asm); (case s => with_unfolding_all rfl); (case t => kmk_pure))))
local macro_rules | `(tactic| units_room) => `(tactic| with_reducible assumption)
--END
namespace Mine
section
variable {w : World} {B : Heap} {p : Program} {loose : List Str} {mean : ExcName → Option Value} {mg mb : Str → Option Value} {A : Around} {s : Shared} {Q E : Value → Shared → Prop}

/-- a word's piece -/
def wpc (c : Nat) : Str × Str := (sS [], sW c)
def opc : Str × Str := (sS [98], sS [])
/-- what the members' dict holds -/
def KV (kvs : List (Int × Value)) (done : List Nat) : Prop :=
  (∀ q ∈ kvs, ∃ c ∈ done, ∃ t, q = ((c : Int), Value.str (sW c) t)) ∧ ∀ c ∈ done, ∃ q ∈ kvs, q.1 = (c : Int)
theorem news_tl {g h : Heap} {L : Addr} {a : Addr × Obj} {r : List (Addr × Obj)} (N : News g L h (a :: r)) : News g L h r := fun q hq => N q (.tail _ hq)
theorem ab_o : AB (sS [98]) := by unfold AB; decide
theorem eqv0 : PyData.eqv (.tuple [.str (sS [98]), .str (sS [])]) (.tuple [.str (Str.ofString "b"), .str (Str.ofString "")]) = true := by decide
theorem take_push {vs : List Value} {i : Nat} {v : Value} (hv : vs[i]? = some v) : (vs.take (i + 1)).toArray = (vs.take i).toArray.push v := by
  rw [List.take_add_one, hv]
  simp
theorem pop_at {P dx : Addr} {hs : Int} {tt ti : Tok} {en n i : Nat} {vs : List Value} {v : Value} (X : (hd.heap_1 w.params).In B) (T : Top p loose mean mg mb B) (hA : Room A 5) (st : B.StaysIn s.heap)
    (hv : vs[i]? = some v) (hi : i < 100) (hP : s.heap.get? P = some (accO dx (vs.take (i + 1)).toArray n)) (hdx : s.heap.get? dx = some (dictOf (accE hs tt ti) en)) (hPB : B.get? P = none) (hdB : B.get? dx = none)
    (hQ : ∀ h' tk' n', h'.get? P = some (accO dx (vs.take i).toArray n') → Keep [P] s.heap h' → Q v { s with heap := h', toks := tk' }) :
    wpAny (model PySem.Challenge.rw_un0043_01.row.toRowW.prog w) A (call (.ref 114) [.ref P]) Q E s := by
  rw [take_push hv] at hP
  have hlen : (vs.take i).length ≤ i := by rw [List.length_take]; exact Nat.min_le_left _ _
  exact pop_c X T hA st (by rw [Array.size_push, List.size_toArray]; omega) hP hdx hPB hdB rfl hQ
/-- a numeral that the program reads -/
structure NumOk (x : Str) (n : Nat) : Prop where
  l1 : 1 ≤ x.length
  l6 : x.length < 6
  val : PySem.intText? x = some (n : Int)
  sl : Txt.slice x (some 0) (some x.length) = x
  rs : Txt.rstrip x = x
  rp : (Builtin.Str.occurrences x (Str.ofString "_") 0 x.length (x.length + 1)).isEmpty = true
theorem nm_l : ∀ c, c < 16 → 1 ≤ (nmS c).length ∧ (nmS c).length < 6 := by decide +kernel
theorem nm_sl : ∀ c, c < 16 → Txt.slice (nmS c) (some 0) (some (nmS c).length) = nmS c := by decide +kernel
theorem nm_rs : ∀ c, c < 16 → Txt.rstrip (nmS c) = nmS c := by decide +kernel
theorem nm_rp : ∀ c, c < 16 → (Builtin.Str.occurrences (nmS c) (Str.ofString "_") 0 (nmS c).length ((nmS c).length + 1)).isEmpty = true := by decide +kernel
theorem nm_ok (c : Nat) (h : c < 16) : NumOk (nmS c) c := ⟨(nm_l c h).1, (nm_l c h).2, nm_val (by omega), nm_sl c h, nm_rs c h, nm_rp c h⟩
theorem stored_mem {kvs : List (Int × Value)} {k : Int} {v : Value} : ∀ q ∈ PySem.stored kvs k v, q = (k, v) ∨ q ∈ kvs := by
  intro q hq
  unfold PySem.stored at hq
  split at hq
  · obtain ⟨r, hr, rfl⟩ := List.mem_map.mp hq
    split
    · rename_i e; exact .inl (by rw [e])
    · exact .inr hr
  · rcases List.mem_append.mp hq with h | h
    · exact .inr h
    · exact .inl (List.mem_singleton.mp h)
theorem stored_key {kvs : List (Int × Value)} {k : Int} {v : Value} : ∃ q ∈ PySem.stored kvs k v, q.1 = k := by
  unfold PySem.stored
  split
  · rename_i h
    obtain ⟨r, hr, e⟩ := List.any_eq_true.mp h
    have e : r.1 = k := by simpa using e
    exact ⟨(r.1, v), List.mem_map.mpr ⟨r, hr, by rw [if_pos e]⟩, e⟩
  · exact ⟨(k, v), List.mem_append_right _ (.head _), rfl⟩
theorem stored_keep {kvs : List (Int × Value)} {k : Int} {v : Value} {q : Int × Value} (hq : q ∈ kvs) : ∃ r ∈ PySem.stored kvs k v, r.1 = q.1 := by
  unfold PySem.stored
  split
  · refine ⟨_, List.mem_map.mpr ⟨q, hq, rfl⟩, ?_⟩
    split <;> rfl
  · exact ⟨q, List.mem_append_left _ hq, rfl⟩
theorem KV.store {kvs : List (Int × Value)} {done : List Nat} {c : Nat} {t : Tok} (h : KV kvs done) : KV (PySem.stored kvs (c : Int) (.str (sW c) t)) (c :: done) :=
  ⟨fun q hq => by
    rcases stored_mem q hq with rfl | hq
    · exact ⟨c, .head _, t, rfl⟩
    · obtain ⟨d, hd, u, e⟩ := h.1 q hq
      exact ⟨d, .tail _ hd, u, e⟩,
   fun d hd => by
    rcases List.mem_cons.mp hd with rfl | hd
    · exact stored_key
    · obtain ⟨q, hq, e⟩ := h.2 d hd
      obtain ⟨r, hr, e2⟩ := stored_keep hq
      exact ⟨r, hr, e2.trans e⟩⟩
theorem news_drop {g h : Heap} {L : Addr} {ns : List (Addr × Obj)} (N : News g L h ns) (n : Nat) : News g L h (ns.drop n) := fun q hq => N q (List.mem_of_mem_drop hq)
theorem news_take {g h : Heap} {L : Addr} {ns : List (Addr × Obj)} (N : News g L h ns) (n : Nat) : News g L h (ns.take n) := fun q hq => N q (List.mem_of_mem_take hq)
theorem keep_of {a : Addr} {h h' : Heap} (hs : Heap.SameBut a h h') : Keep [a] h h' := fun b o hb e => (hs.2 b (by simpa using hb)).trans e
theorem news_fresh {g h h' : Heap} {L S : Addr} {o : Obj} {m : Str → Option Value} {ns : List (Addr × Obj)} (F : Fr g L h m) (N : News g L h' ns) (hS : h.get? S = none) (e : h'.get? S = some o) : News g L h' ((S, o) :: ns) := fun q hq => by
  rcases List.mem_cons.mp hq with rfl | hq
  · refine ⟨e, fun q => ?_, ?_⟩
    · obtain ⟨oL, es, ep, hL, _⟩ := F.ns
      rw [show S = L from q, hL] at hS; cases hS
    · cases q : g.get? S with
      | none => rfl
      | some o2 => have := F.keep _ _ q; rw [hS] at this; cases this
  · exact N q hq
theorem KV.at {kvs : List (Int × Value)} {done : List Nat} (h : KV kvs done) (hn : (kvs.map (·.1)).Nodup) (c : Nat) : (c ∈ done → ∃ t, valueAt kvs (c : Int) = some (Value.str (sW c) t)) ∧ (c ∉ done → valueAt kvs (c : Int) = none) := by
  constructor
  · intro hc
    obtain ⟨q, hq, e⟩ := h.2 c hc
    obtain ⟨d, hd, t, e2⟩ := h.1 q hq
    obtain ⟨i, hi⟩ := List.getElem?_of_mem hq
    have hdc : d = c := by rw [e2] at e; exact Int.ofNat.inj e
    subst hdc
    exact ⟨t, valueAt_of_get hn (by rw [hi, e2])⟩
  · intro hc
    unfold valueAt
    cases q : kvs.find? (fun kv => decide (kv.1 = (c : Int))) with
    | none => simp [q]
    | some r =>
      obtain ⟨d, hd, t, e2⟩ := h.1 r (List.mem_of_find?_eq_some q)
      have e3 := List.find?_some q
      rw [e2] at e3
      have : (d : Int) = c := by simpa using e3
      exact absurd (Int.ofNat.inj this ▸ hd) hc
/-- none of these stood at first -/
def Frs (B : Heap) (vs : List Value) : Prop := ∀ r, Value.ref r ∈ vs → B.get? r = none
theorem Frs.take {B : Heap} {vs : List Value} (h : Frs B vs) (n : Nat) : Frs B (vs.take n) := fun r hr => h r (List.mem_of_mem_take hr)
theorem Frs.snoc {B : Heap} {vs : List Value} (h : Frs B vs) {D : Addr} (hD : B.get? D = none) : Frs B (vs ++ [.ref D]) := fun r hr => by
  rcases List.mem_append.mp hr with hr | hr
  · exact h r hr
  · cases List.mem_singleton.mp hr; exact hD
theorem frs_B {B g : Heap} {D : Addr} (st : B.StaysIn g) (h : g.get? D = none) : B.get? D = none := by
  cases e : B.get? D with
  | none => rfl
  | some o => rw [st _ _ e] at h; cases h
theorem close_c {P dx H dh l : Addr} {hs hs2 : Int} {tt tt2 ti tp : Tok} {en hn n k : Nat} {vs us : List Value} {pl : Nat} {old : Bool} {pre : List (Str × Str)} {ws : List Nat} {tab : List (Str × Str)} (X : (hd.heap_1 w.params).In B) (T : Top p loose mean mg mb B) (hA : Room A 40) (st : B.StaysIn s.heap) (hW : Wd B s.heap)
    (hP : s.heap.get? P = some (accO dx vs.toArray n)) (hdx : s.heap.get? dx = some (dictOf (accE hs tt ti) en)) (hH : s.heap.get? H = some (hdO dh)) (hdd : s.heap.get? dh = some (dictOf (hdE hs2 tt2 l) hn)) (hl : s.heap.get? l = some (W.listOf us.toArray k))
    (hPB : B.get? P = none) (hdxB : B.get? dx = none) (hHB : B.get? H = none) (hdB : B.get? dh = none) (hlB : B.get? l = none)
    (hvs : RowsAre s.heap vs (pre ++ opc :: ws.map wpc)) (hvf : Frs B vs) (huf : Frs B us) (hv100 : vs.length ≤ 100) (hws : ∀ c ∈ ws, c < 16) (hw20 : ws.length ≤ 20)
    (hus : RowsAre s.heap us tab) (hu100 : us.length ≤ 100) (htab : ∀ q ∈ tab, q.1.length ≤ 700) (htold : ∀ c ∈ ws, told tab (sp true c) = some (nmS c))
    (hpl : pl < 100) (hold : old = (told tab (sW (orAll ws))).isSome) (hkn : ∀ z, told tab (sW (orAll ws)) = some z → z = nmS (orAll ws))
    (hQ : ∀ h' d' tk' vs' n' us' k', Wd B h' → Keep [P, l, 48, 69, 62] s.heap h' → h'.get? P = some (accO dx (List.toArray vs') n') → RowsAre h' vs' (pre ++ [wpc (orAll ws)]) → h'.get? l = some (W.listOf (List.toArray us') k') →
      RowsAre h' us' (match told tab (sW (orAll ws)) with | some _ => tab | none => tab ++ [(sp (decide (pl % 2 = 0)) (orAll ws), nmS (orAll ws))]) → Frs B vs' → Frs B us' → Q (.bool true) { s with heap := h', drawn := d', toks := tk' }) :
    wpAny (model PySem.Challenge.rw_un0043_01.row.toRowW.prog w) A (call (.ref 314) [.ref P, .ref H, .int pl tp, .bool old]) Q E s := by
  revert X; k_fill; intro X
  have Xs : (hd.heap_1 w.params).In s.heap := fun a o e => st a o (X a o e)
  refine wpAny_call ?_
  obtain ⟨o48, h48⟩ := hW.t48.there
  obtain ⟨o69, h69⟩ := hW.t69.there
  obtain ⟨o62, h62⟩ := hW.t62.there
  have nd8 := sep8 hW hP hdx hH hdd hl
  k_dflt (refine' enterC [(P, accO dx vs.toArray n), (dx, dictOf (accE hs tt ti) en), (H, hdO dh), (dh, dictOf (hdE hs2 tt2 l) hn), (l, W.listOf us.toArray k), (48, o48), (69, o69), (62, o62)] X T hA st ?hm ?ho ?hcd ?hb ?hl ?hnd ?_ ?h1 ?h2 ?h3; (case hm => simpa using ⟨⟨hP, hPB⟩, ⟨hdx, hdxB⟩, ⟨hH, hHB⟩, ⟨hdd, hdB⟩, ⟨hl, hlB⟩, ⟨h48, hW.b48⟩, ⟨h69, hW.b69⟩, ⟨h62, hW.b62⟩⟩); (case ho => k_is); (case hcd => k_is); (case hb => first | exact BindsTo.of_eq rfl | exact binds_K Xs rfl (by k_is) rfl rfl rfl); (case hl => exact rfl); (case hnd => decide +kernel); (case h1 => exact rfl); (case h2 => exact rfl); (case h3 => exact rfl))
  intro g L h₁ tk cells hg hL F N Y X' T' st' hA'
  replace F : Fr g L h₁ (fun z => if z = Str.ofString "old" then some (.bool old) else if z = Str.ofString "place" then some (.int pl tp) else if z = Str.ofString "book" then some (.ref H) else if z = Str.ofString "pile" then some (.ref P) else none) := F
  have sa := stays_all hg F N (by simpa using ⟨hP, hdx, hH, hdd, hl, h48, h69, h62⟩) (fun _ h => List.mem_append_right _ h)
  have hW1 := hW.stays sa
  k_cells Y
  simp only [List.cons_append, List.nil_append] at N
  rename _ = Data.cell _ => hcl
  replace hcl := hcl.trans (show _ = Data.cell none from rfl)
  have lP := hL _ _ hP
  have ldx := hL _ _ hdx
  have lH := hL _ _ hH
  have ldh := hL _ _ hdd
  have ll := hL _ _ hl
  have l48 := hL _ _ h48
  have l69 := hL _ _ h69
  have l62 := hL _ _ h62
  show wpAny _ _ _ _ _ _
  k_fold
  unfold hdO hdE accE at N
  k_steps
  show wpAny _ _ (getMethod _ _ _) _ _ _
  rename Fr g L _ _ => F1
  rename News g L _ _ => N1
  rename Obj.IsDictOf (intKind _ _) _ _ => D1
  rename (_ == sysModules) = false => M1
  refine with_first N1 fun M hE => ?_
  subst hE
  refine with_snd N1 fun oM0 hE => ?_
  subst hE
  refine with_snd (news_tl N1) fun oc hE => ?_
  subst hE
  have nd : [M, L + 1, P, dx, H, dh, l, 48, 69, 62].Nodup := by
    have e1 : @Ne Nat M (L + 1) := by omega
    simp only [List.nodup_cons, List.mem_cons, List.not_mem_nil, or_false, not_or] at nd8 ⊢
    refine ⟨⟨?_, ?_, ?_, ?_, ?_, ?_, ?_, ?_, ?_⟩, ⟨?_, ?_, ?_, ?_, ?_, ?_, ?_, ?_⟩, nd8⟩ <;> (apply Nat.ne_of_gt; omega)
  have I1 : InstAt _ P (accO dx vs.toArray n) 154 (some (dictOf (accE hs tt ti) en)) := ⟨(N1 _ (.tail _ (.tail _ (.head _)))).1, rfl, rfl, (N1 _ (.tail _ (.tail _ (.tail _ (.head _))))).1⟩
  refine method_fv (K := hd.heap_1 w.params) (ga := "list.__getattribute__") (Frag.In.keeps X' F1.keep) I1 (by k_is) (by decide +kernel) (by k_is) (by k_is) (by k_is) (by decide) (by rfl) ?_
  k_steps
  show wpAny _ _ (call _ _) _ _ _
  have hlen : vs.length = pre.length + 1 + ws.length := by rw [hvs.1]; simp; omega
  obtain ⟨v0, hv0⟩ : ∃ v, vs[pre.length + ws.length]? = some v := ⟨vs[pre.length + ws.length]'(by omega), by simp⟩
  have hall : vs.take (pre.length + ws.length + 1) = vs := List.take_of_length_le (by omega)
  refine pop_at (i := pre.length + ws.length) X T (hA'.mono (by omega)) (fun b o e => F1.keep _ _ (st' b o e)) hv0 (by omega) (by rw [hall]; exact (N1 _ (.tail _ (.tail _ (.head _)))).1) (N1 _ (.tail _ (.tail _ (.tail _ (.head _))))).1 hPB hdxB ?_
  intro h2 tk2 n2 hP2 k2
  have F2 := Mine.Fr.keep1 F1 N1 (.tail _ (.tail _ (.head _))) k2
  have N2 := news_set (as := [M, L + 1, P, dx, H, dh, l, 48, 69, 62]) (os := [_, _, _, _, _, _, _, _, _, _]) N1 nd (i := 2) rfl (by simp) k2 hP2
  replace N2 : News g L h2 [(M, _), (L + 1, _), (P, _), (dx, _), (H, _), (dh, _), (l, _), (48, _), (69, _), (62, _)] := N2
  clear F1 N1 I1
  have hvg : RowsAre g vs (pre ++ opc :: ws.map wpc) := hvs.keep hg fun b hb o e u v q => by
    subst q
    simp only [List.map_cons, List.map_nil, List.mem_cons, List.not_mem_nil, or_false] at hb
    rcases hb with rfl | rfl | rfl | rfl | rfl | rfl | rfl | rfl
    · rw [hP] at e; exact absurd (congrArg Obj.cls (Option.some.inj e)) (by simp [pairO, accO])
    · rw [hdx] at e; exact absurd (congrArg Obj.cls (Option.some.inj e)) (by simp [pairO, dictOf])
    · rw [hH] at e; exact absurd (congrArg Obj.cls (Option.some.inj e)) (by simp [pairO, hdO])
    · rw [hdd] at e; exact absurd (congrArg Obj.cls (Option.some.inj e)) (by simp [pairO, dictOf])
    · rw [hl] at e; exact absurd (congrArg Obj.cls (Option.some.inj e)) (by simp [pairO])
    · exact hW.t48.ne e (by simp [pairO]) rfl
    · exact hW.t69.ne e (by simp [pairO]) rfl
    · exact hW.t62.ne e (by simp [pairO]) rfl
  have hug : RowsAre g us tab := hus.keep hg fun b hb o e u v q => by
    subst q
    simp only [List.map_cons, List.map_nil, List.mem_cons, List.not_mem_nil, or_false] at hb
    rcases hb with rfl | rfl | rfl | rfl | rfl | rfl | rfl | rfl
    · rw [hP] at e; exact absurd (congrArg Obj.cls (Option.some.inj e)) (by simp [pairO, accO])
    · rw [hdx] at e; exact absurd (congrArg Obj.cls (Option.some.inj e)) (by simp [pairO, dictOf])
    · rw [hH] at e; exact absurd (congrArg Obj.cls (Option.some.inj e)) (by simp [pairO, hdO])
    · rw [hdd] at e; exact absurd (congrArg Obj.cls (Option.some.inj e)) (by simp [pairO, dictOf])
    · rw [hl] at e; exact absurd (congrArg Obj.cls (Option.some.inj e)) (by simp [pairO])
    · exact hW.t48.ne e (by simp [pairO]) rfl
    · exact hW.t69.ne e (by simp [pairO]) rfl
    · exact hW.t62.ne e (by simp [pairO]) rfl
  have C2 : Cods B g o48 o69 o62 [] := Cods.init hW h48 h69 h62 hg fun a ha => by
    simp only [List.map_cons, List.map_nil, List.mem_cons, List.not_mem_nil, or_false] at ha
    rcases ha with rfl | rfl | rfl | rfl | rfl | rfl | rfl | rfl
    · exact ⟨_, hP, fun ⟨_, _, _, e, _⟩ => by cases e⟩
    · exact ⟨_, hdx, fun ⟨_, _, _, e, _⟩ => by cases e⟩
    · exact ⟨_, hH, fun ⟨_, _, _, e, _⟩ => by cases e⟩
    · exact ⟨_, hdd, fun ⟨_, _, _, e, _⟩ => by cases e⟩
    · exact ⟨_, hl, fun ⟨_, _, _, e, _⟩ => by cases e⟩
    · exact ⟨_, h48, hW.t48.noCode h48⟩
    · exact ⟨_, h69, hW.t69.noCode h69⟩
    · exact ⟨_, h62, hW.t62.noCode h62⟩
  k_steps
  show wpAny _ _ (exec _ _) _ _ _
  rename Fr g L _ _ => F3
  rename News g L _ _ => N3
  refine while_any (fun j s' => ∃ h tk dr oM v np o48 o69 o62 cods kvs, s' = ⟨h, s.gens, dr, tk, s.os⟩ ∧ j ≤ ws.length ∧ vs[pre.length + j]? = some v ∧
      Fr g L h (fun y => if y = Str.ofString "piece" then some v else if y = Str.ofString "old" then some (Value.bool old) else if y = Str.ofString "place" then some (Value.int (↑pl) tp) else if y = Str.ofString "book" then some (Value.ref H) else if y = Str.ofString "pile" then some (Value.ref P) else none) ∧
      News g L h ((M, oM) :: (L + 1, oc) :: (P, accO dx (vs.take (pre.length + j)).toArray np) :: (dx, dictOf [{ hash := hs, key := Value.str (Str.ofString "_initial_size") tt, val := Value.int 0 ti }] en) :: (H, { cls := Value.ref 291, dict := some dh }) ::
        (dh, dictOf [{ hash := hs2, key := Value.str (Str.ofString "_headers") tt2, val := Value.ref l }] hn) :: (l, W.listOf us.toArray k) :: (48, o48) :: (69, o69) :: (62, o62) :: cods) ∧
      Cods B g o48 o69 o62 cods ∧ oM.IsDictOf (intKind PySem.Challenge.rw_un0043_01.row.toRowW.prog w) kvs ∧ KV kvs (ws.drop j) ∧ kvs.length ≤ ws.length - j) ws.length ⟨_, _, _, oM0, v0, _, _, _, _, [], [], rfl, Nat.le_refl _, hv0, F3, N3, C2, D1, ⟨(fun _ h => absurd h List.not_mem_nil), by rw [List.drop_length]; exact fun _ h => absurd h List.not_mem_nil⟩, Nat.zero_le _⟩ ?_
  clear F3 N3 hP2 k2 C2 D1
  rintro J9 hJ9 j s' ⟨h4, tk4, dr4, oM, v, np, p48, p69, p62, cods, kvs, rfl, hj, hv, F4, N4, C4, D4, hKV, hkl⟩
  have hu9 : _ + 64 < cLine := Nat.lt_of_le_of_lt (Nat.add_le_add_left (by decide : 64 ≤ 10 * 39) _) hA'.hu
  cases j with
  | zero =>
    obtain ⟨r, x1, y1, t1, t2, rfl, hp, hr⟩ := hvg.2 _ _ hv
    have hpo : (x1, y1) = opc := by
      rw [Nat.add_zero, List.getElem?_append_right (Nat.le_refl _), Nat.sub_self] at hp
      exact (Option.some.inj hp).symm
    cases hpo
    k_steps
    show wpAny _ _ (compareOp _ _ _) _ _ _
    rename Fr g L _ _ => F5
    rename News g L _ _ => N5
    refine ne_dataH (reads_tuple_at (F5.keep _ _ hr) rfl rfl (.cons (.str _ _) (.cons (.str _ _) .nil))) (reads_tuple_at (N5 _ (.head _)).1 rfl rfl (.cons (.str _ _) (.cons (.str _ _) .nil))) (sh2 ab_o ab_e) (sh2 ab_b ab_n) hu9 ?_
    rw [eqv0]
    replace N5 := news_tl N5
    k_steps
    show wpAny _ _ (exec _ _) _ _ _
    rename Fr g L _ _ => F6
    rename News g L _ _ => N6
    refine LCg.Assign_ListComp_U (F₀ := F6) (by rfl) (by with_unfolding_all rfl) (by with_unfolding_all rfl) (by decide) (by rfl) (by decide) (by rfl) (by rfl) (by rfl) ?_
    k_steps
    show wpAny _ _ (call _ _) _ _ _
    rename Fr g L _ _ => F7
    rename News g L _ _ => N7
    refine sorted_dict hA'.hh M1 (Heap.dictOf_iff.mpr ⟨_, (N7 _ (.tail _ (.head _))).1, D4⟩) (by omega) ?_
    intro h8 tk8 S out sn ns8 st8 hS0 hS hI8 hp8 hsort
    obtain ⟨os, rfl⟩ : ∃ os : List Value, out = os.toArray := ⟨out.toList, by simp⟩
    have F8 := F7.keeps st8
    have N8 := news_fresh F7 (News.st N7 st8) hS0 hS
    replace N8 : News g L h8 ((S, W.listOf os.toArray sn) :: _) := N8
    replace hI8 : IntsAre os ns8 := hI8
    clear F7 N7
    have hks : ∀ x ∈ ns8, ∃ c : Nat, c ∈ ws ∧ x = (c : Int) := fun x hx => by
      obtain ⟨q, hq, rfl⟩ := List.mem_map.mp (hp8.mem_iff.mp hx)
      obtain ⟨c, hc, _, e⟩ := hKV.1 q hq
      rw [List.drop_zero] at hc
      exact ⟨c, hc, by rw [e]⟩
    have hkl8 : ns8.length ≤ 20 := by rw [hp8.length_eq, List.length_map]; omega
    k_steps
    show wpAny _ _ (binaryOp _ _ _) _ _ _
    refine kmk_add_ints F8 N8 ⟨_, (N8 _ (.tail _ (.head _))).1, rfl, _, rfl⟩ ⟨_, (N8 _ (.head _)).1, rfl, _, rfl⟩ (.cons (-1) _ .nil) hI8 ?_ (Nat.le_trans (by simp; omega : _ ≤ 21) (by decide))
    intro D9 us9 h9 F9 N9 l9 hI9
    replace N9 : News g L h9 ((D9, W.listOf us9.toArray 0) :: _) := N9
    clear F8 N8
    refine wp_tok (h := h9) (g := s.gens) (d := dr4) (o := s.os) fun tk9 => ?_
    k_steps
    show wpAny _ _ (call _ _) _ _ _
    refine max_list_N hA'.hh F9 N9 ⟨_, (N9 _ (.head _)).1, rfl, _, rfl⟩ hI9 (by simp) ?_
    intro h10 mx t10 tk10 F10 N10 hmx hmax
    have hmx0 : -1 ≤ mx := hmax (-1) (.head _)
    have hmx1 : mx ≤ 15 := by
      rcases List.mem_append.mp hmx with h | h
      · rw [List.mem_singleton.mp h]; decide
      · obtain ⟨c, hc, rfl⟩ := hks mx h
        have := hws c hc
        omega
    replace N10 := news_drop N10 3
    replace N10 : News g L h10 ((M, _) :: (L + 1, _) :: (P, _) :: (dx, _) :: (H, _) :: (dh, _) :: (l, _) :: (48, _) :: (69, _) :: (62, _) :: cods) := N10
    clear F9 N9
    k_steps
    show LCg.CompSrc _ _ _ _ _ _ _ _ _ _ _ _ _ _
    rename Fr g L _ _ => F11
    rename News g L _ _ => N11
    rename IsRange _ _ _ _ _ _ _ _ => R11
    have hn11 : Builtin.Range.rangeSize 0 (mx + 1) 1 = (((mx + 1).toNat : Nat) : Int) := by
      rw [rangeSize_one]; split <;> omega
    refine LCg.CompSrc.range (n := (mx + 1).toNat) hA'.hh F11 N11 R11 (small_one (by omega) (by omega) (by omega) (by omega)) hn11 (Nat.le_trans (by omega : _ ≤ 16) (by decide)) ?_
    intro gg
    have hnodup : (kvs.map (·.1)).Nodup := by obtain ⟨_, _, _, _, _, _, h⟩ := D4; exact h
    refine comp_rest (fun i y => ∃ t, y = Value.int (if i ∈ ws then 1 else 0) t) trivial ?_ ?_
    · clear F11 N11
      intro i v I oI C oC D m₂ h12 tk12 E' ys hi hv12 hC12 hx12 F12 N12 off12 ne12
      obtain ⟨t12, rfl⟩ := hv12
      k_steps
      show wpAny _ _ (compareOp _ _ _) _ _ _
      have hdo12 := Heap.dictOf_iff.mpr ⟨_, (N12 _ (.tail _ (.tail _ (.tail _ (.head _))))).1, D4⟩
      refine wpAny_in_of (knd := intKind _ w) (by exact intKind_is _ _ _ _) M1 hdo12.mapOf ?_
      rw [Int.zero_add]
      have hva := hKV.at hnodup i
      rw [List.drop_zero] at hva
      by_cases hiw : i ∈ ws
      · obtain ⟨tv, ev⟩ := hva.1 hiw
        rw [show (valueAt kvs (i : Int)).isSome = true by rw [ev]; rfl]
        k_steps
        rename Fr g L _ _ => F13
        rename News g L _ _ => N13
        exact ⟨⟨_, by rw [if_pos hiw]⟩, _, _, rfl, F13, N13⟩
      · rw [show (valueAt kvs (i : Int)).isSome = false by rw [hva.2 hiw]; rfl]
        k_steps
        rename Fr g L _ _ => F13
        rename News g L _ _ => N13
        exact ⟨⟨_, by rw [if_neg hiw]⟩, _, _, rfl, F13, N13⟩
    · intro ys hl hy
      have hI := ints_from hl hy
      intro O12 h12 tk12 F12 N12 off12
      clear F11 N11
      k_steps
      show wpAny _ _ (call _ _) _ _ _
      have N12' := news_tl N12
      have W12 := C4.wd F12.keep (news_at N12' 7 rfl).1 (news_at N12' 8 rfl).1 (news_at N12' 9 rfl).1 (fun q hq => (news_drop N12' 10 q hq).1)
      have hallc : ∀ c ∈ ws, c < (mx + 1).toNat := by
        intro c hc
        obtain ⟨q, hq, e⟩ := hKV.2 c (by rw [List.drop_zero]; exact hc)
        have h1 : (c : Int) ∈ ns8 := hp8.mem_iff.mpr (List.mem_map.mpr ⟨q, hq, e⟩)
        have h2 := hmax (c : Int) (List.mem_append_right _ h1)
        omega
      have hor : orAll ws < 65536 := orAll_lt (n := 16) hws
      refine digits_c X T (hA'.mono (by omega)) (fun b o e => F12.keep _ _ (st' b o e)) W12.b69 W12.c69 W12.t69 ⟨_, (N12 _ (.head _)).1, rfl, _, rfl⟩ hI (by rw [List.length_map, List.length_range]; omega) (fun x hx => by
        obtain ⟨j, _, rfl⟩ := List.mem_map.mp hx
        by_cases h : j ∈ ws <;> simp [h]) ?_
      rw [dval_dn, dn_or hallc]
      intro h13 d13 tk13 t13 hT13 k13
      have F13 := Mine.Fr.keep1 F12 N12' (.tail _ (.tail _ (.tail _ (.tail _ (.tail _ (.tail _ (.tail _ (.tail _ (.head _))))))))) k13
      obtain ⟨q69, cods13, e69, Nc13, C13⟩ := C4.up69 F13 (C4.keep1 (news_drop N12' 10) (news_at N12' 8 rfl).1 (W12.t69.noCode (news_at N12' 8 rfl).1) k13) hT13
      have N13 := Mine.News.app (news_set (as := [M, L + 1, P, dx, H, dh, l, 48, 69, 62]) (os := [_, _, _, _, _, _, _, _, _, _]) (news_take N12' 10) nd (i := 8) rfl (by simp) k13 e69) Nc13
      replace N13 : News g L h13 ((M, _) :: (L + 1, _) :: (P, _) :: (dx, _) :: (H, _) :: (dh, _) :: (l, _) :: (48, _) :: (69, _) :: (62, _) :: cods13) := N13
      clear F12 N12 N12' W12
      k_steps
      show wpAny _ _ (call _ _) _ _ _
      rename Fr g L _ _ => F14
      rename News g L _ _ => N14
      have W14 := C13.wd F14.keep (news_at N14 7 rfl).1 (news_at N14 8 rfl).1 (news_at N14 9 rfl).1 (fun q hq => (news_drop N14 10 q hq).1)
      refine int2_c X T (hA'.mono (by omega)) (fun b o e => F14.keep _ _ (st' b o e)) W14.b62 W14.c62 W14.t62 (Int.natCast_nonneg _) (by omega) ?_
      intro h15 d15 tk15 G15 fs15 e15 hT15 k15 hG15 hG0 hI15
      have F15 := Mine.Fr.keep1 F14 N14 (.tail _ (.tail _ (.tail _ (.tail _ (.tail _ (.tail _ (.tail _ (.tail _ (.tail _ (.head _)))))))))) k15
      obtain ⟨q62, cods15, e62, Nc15, C15⟩ := C13.up62 F15 (C13.keep1 (news_drop N14 10) (news_at N14 9 rfl).1 (W14.t62.noCode (news_at N14 9 rfl).1) k15) hT15
      have N15 := news_fresh F14 (Mine.News.app (news_set (as := [M, L + 1, P, dx, H, dh, l, 48, 69, 62]) (os := [_, _, _, _, _, _, _, _, _, _]) (news_take N14 10) nd (i := 9) rfl (by simp) k15 e62) Nc15) hG0 hG15
      replace N15 : News g L h15 ((G15, W.listOf fs15.toArray e15) :: (M, _) :: (L + 1, _) :: (P, _) :: (dx, _) :: (H, _) :: (dh, _) :: (l, _) :: (48, _) :: (69, _) :: (62, _) :: cods15) := N15
      clear F14 N14 W14
      have hfl : fs15.length = Builtin.Int.intBits (orAll ws : Nat) := by rw [hI15.length, bits_len]
      have hK : Builtin.Int.intBits ((orAll ws : Nat) : Int) ≤ 16 := intBits_le (by omega)
      have hnK : orAll ws < 2 ^ Builtin.Int.intBits ((orAll ws : Nat) : Int) := (PySem.intBits_le_iff (x := ((orAll ws : Nat) : Int))).mp (Nat.le_refl _)
      k_steps
      show wpAny _ _ (call _ _) _ _ _
      rename Fr g L _ _ => F16
      rename News g L _ _ => N16
      refine Calls.call_len_list ⟨_, (N16 _ (.head _)).1, rfl, _, rfl⟩ (by rw [List.size_toArray]; omega) ?_
      rw [List.size_toArray, hfl]
      generalize Builtin.Int.intBits ((orAll ws : Nat) : Int) = K at hfl hK hnK hI15 ⊢
      k_steps
      show wpAny _ _ (pyIter _) _ _ _
      rename Fr g L _ _ => F17
      rename News g L _ _ => N17
      rename IsRange _ _ _ _ _ _ _ _ => R17
      rw [sB] at F17
      refine fr_at F17 (y := Str.ofString "word") (v := fun t' => .str (sS [98]) t') rfl fun tw hw => ?_
      refine kst_rangeD (n := K) (fun _ : List Nat × Tok => _) (fun c => [(Str.ofString "word", .str (sS c.1) c.2)]) (fun _ => True) [] (fun pre2 c => (∀ k ∈ pre2, k.toNat < 16) ∧ c.1 = 98 :: pre2.flatMap (fun k => if (orAll ws).testBit k.toNat then wl k.toNat else [])) ([98], tw)
        hA'.hh R17 (small_down (by omega) (by omega) (by omega) (by omega)) (by rw [rangeSize_down]; split <;> omega) F17 N17 trivial (fun p hp => by rw [List.mem_singleton.mp hp]; exact hw) ⟨(fun _ h => nomatch h), rfl⟩ ?_ ?_
      · clear F17 N17
        intro c2 pre2 k2 t17 u17 h17 tk17 own17 hk17 hpre17 hoff17 _ hP17 F17 N17
        obtain ⟨hP1, hP2⟩ := hP17
        simp only [List.cons_append, List.nil_append] at N17
        have hfl2 := flat_le (orAll ws) pre2 hP1
        obtain ⟨k3, rfl⟩ := Int.eq_ofNat_of_zero_le (show 0 ≤ k2 by omega)
        have hk3 : k3 < K := by omega
        k_steps
        · show wpAny _ _ (getItem _ _) _ _ _
          rename _ = (1 : Int) => hb1
          rw [Int.toNat_natCast, List.getD_eq_getElem?_getD, bits_get K k3 _ hk3, Option.getD_some] at hb1
          have hbt : (orAll ws).testBit k3 = true := by
            cases q : (orAll ws).testBit k3 with
            | true => rfl
            | false => rw [q] at hb1; simp at hb1
          have hkw : k3 ∈ ws := by rw [orAll_bit] at hbt; exact of_decide_eq_true hbt
          obtain ⟨tv, ev⟩ := (hKV.at hnodup k3).1 (by rw [List.drop_zero]; exact hkw)
          rename Fr g _ _ _ => F18
          rename News g _ _ _ => N18
          have hdo18 := Heap.dictOf_iff.mpr ⟨_, (N18 _ (.tail _ (.head _))).1, D4⟩
          refine wpAny_getItem_of (knd := intKind _ w) (by exact intKind_is _ _ _ _) hdo18.mapOf ev ?_
          have hwl2 := wl_len16 k3 (hws k3 hkw)
          have hlc : (sS c2.1).length ≤ 577 := by rw [sS_len, hP2, List.length_cons]; omega
          have hlk : (sW k3).length ≤ 36 := by rw [sW, sS_len]; exact hwl2
          k_steps
          rename Fr g _ _ _ => F19
          rename News g _ _ _ => N19
          rw [sW, sS_app] at F19
          refine fr_at F19 (y := Str.ofString "word") (v := fun t' => .str (sS (c2.1 ++ wl k3)) t') rfl fun tx hx => ?_
          show InvEndN _ _ _ _ _ _ _
          refine kst_end (c2.1 ++ wl k3, tx) F19 N19 (fun p hp => by simp only [List.mem_cons, List.mem_append] at hp ⊢; simp only [← or_assoc] at hp ⊢; exact .inl hp) (fun p hp => by simp [hp]) rfl trivial (fun p hp => by rw [List.mem_singleton.mp hp]; exact hx) ?_ ⟨?_, ?_⟩
          · intro z h1 h2 _
            have h3 := h2 _ (.head _)
            simp [h1, h3, kstB]
          · intro x hx
            rcases List.mem_append.mp hx with hx | hx
            · exact hP1 x hx
            · rw [List.mem_singleton.mp hx]; omega
          · show c2.1 ++ _ = _
            rw [hP2, List.flatMap_append, List.flatMap_cons, List.flatMap_nil, Int.toNat_natCast, if_pos hbt]; simp
        · rename _ ≠ (1 : Int) => hb1
          rw [Int.toNat_natCast, List.getD_eq_getElem?_getD, bits_get K k3 _ hk3, Option.getD_some] at hb1
          have hbt : ¬ (orAll ws).testBit k3 = true := fun q => hb1 (by rw [q]; rfl)
          rename Fr g _ _ _ => F19
          rename News g _ _ _ => N19
          show InvEndN _ _ _ _ _ _ _
          refine kst_end c2 F19 N19 (fun p hp => by simp only [List.mem_cons, List.mem_append] at hp ⊢; simp only [← or_assoc] at hp ⊢; exact .inl hp) (fun p hp => by simp [hp]) rfl trivial (fun p hp => by rw [List.mem_singleton.mp hp]; rfl) ?_ ⟨?_, ?_⟩
          · intro z h1 h2 _
            have h3 := h2 _ (.head _)
            simp [h1, h3, kstB]
          · intro x hx
            rcases List.mem_append.mp hx with hx | hx
            · exact hP1 x hx
            · rw [List.mem_singleton.mp hx]; omega
          · rw [hP2, List.flatMap_append, List.flatMap_cons, List.flatMap_nil, Int.toNat_natCast, if_neg hbt]; simp
      · intro c2 u17 h17 tk17 _ hP17 F17 N17
        obtain ⟨hP1, hP2⟩ := hP17
        rw [down_flat (f := fun k => wl k.toNat)] at hP2
        have hlc : (sS c2.1).length ≤ 599 := by
          have := wl_len (orAll ws)
          rw [wl_eq, desc_eq hnK hK, List.length_append] at this
          rw [sS_len, hP2]
          exact Nat.le_of_lt_succ this
        have hwd : c2.1 ++ [97] = wl (orAll ws) := by
          rw [hP2, List.cons_append, wl_eq, desc_eq hnK hK]; rfl
        k_steps
        show wpAny _ _ (getMethod _ _ _) _ _ _
        rename Fr g _ _ _ => F18
        rename News g _ _ _ => N18
        rw [sA, sS_app, hwd] at F18
        replace N18 := news_tl N18
        replace N18 : News g L _ ((M, _) :: (L + 1, _) :: (P, _) :: (dx, _) :: (H, _) :: (dh, _) :: (l, _) :: (48, _) :: (69, _) :: (62, _) :: cods15) := N18
        replace F18 : Fr g L _ _ := F18
        refine method_fv (K := hd.heap_1 w.params) (ga := "list.__getattribute__") (od := some (dictOf (accE hs tt ti) en)) (Frag.In.keeps X' F18.keep) ⟨(news_at N18 2 rfl).1, rfl, rfl, (news_at N18 3 rfl).1⟩ (by k_is) (by decide +kernel) (by k_is) (by k_is) (by k_is) (by decide) (by rfl) ?_
        k_steps
        show wpAny _ _ (call _ _) _ _ _
        refine push_c X T (hA'.mono (by omega)) (fun b o e => F18.keep _ _ (st' b o e)) (by rw [List.size_toArray, List.length_take]; omega) (news_at N18 2 rfl).1 (news_at N18 3 rfl).1 hPB rfl hdxB ?_
        intro h19 tk19 D19 n19 hP19 hD19 hD190 k19
        have F19 := Mine.Fr.keep1 F18 N18 (.tail _ (.tail _ (.head _))) k19
        have N19 := Mine.News.app (news_set (as := [M, L + 1, P, dx, H, dh, l, 48, 69, 62]) (os := [_, _, _, _, _, _, _, _, _, _]) (news_take N18 10) nd (i := 2) rfl (by simp) k19 hP19)
          (C15.keep1 (news_drop N18 10) (news_at N18 2 rfl).1 (fun ⟨_, _, _, e, _⟩ => by cases e) k19)
        replace N19 : News g L h19 ((M, _) :: (L + 1, _) :: (P, _) :: (dx, _) :: (H, _) :: (dh, _) :: (l, _) :: (48, _) :: (69, _) :: (62, _) :: cods15) := N19
        replace N19 := news_fresh F18 N19 hD190 hD19
        clear F18 N18
        have hlw : (sS (wl (orAll ws))).length ≤ 600 := by rw [sS_len]; exact wl_len _
        k_steps
        show wpAny _ _ (call _ _) _ _ _
        refine spelled_c X T (hA'.mono (by omega)) (fun b o e => F19.keep _ _ (st' b o e)) (by omega) (Int.natCast_nonneg _) (by omega) ?_
        intro h20 tk20 t20 st20
        have hspe : (if (pl : Int) % 2 = 0 then Txt.upper (sS (wl (orAll ws))) else sS (wl (orAll ws))) = sp (decide (pl % 2 = 0)) (orAll ws) := by
          unfold sp sW
          by_cases h : pl % 2 = 0
          · rw [if_pos (by omega), if_pos (by simp [h])]
          · rw [if_neg (by omega), if_neg (by simp [h])]
        rw [hspe]
        have F20 := F19.keeps st20
        have N20 := News.st N19 st20
        clear F19 N19
        have hsl : (sp (decide (pl % 2 = 0)) (orAll ws)).length ≤ 700 := by rw [sp_len]; have := wl_len (orAll ws); omega
        have hsl2 : (Txt.lower (sp (decide (pl % 2 = 0)) (orAll ws))).length ≤ 700 := by rw [sp_low]; have := wl_len (orAll ws); rw [sW, sS_len]; omega
        have hsa2 : ∀ c ∈ (Txt.lower (sp (decide (pl % 2 = 0)) (orAll ws))).cps.toList, 32 ≤ c ∧ c < 127 := by rw [sp_low]; exact sp_asc false _
        have hpoff : ∀ b o, b ∉ [P, l, 48, 69, 62] → s.heap.get? b = some o → ∀ hh : Heap, g.StaysIn hh → hh.get? dx = some (dictOf (accE hs tt ti) en) → hh.get? H = some (hdO dh) → hh.get? dh = some (dictOf (hdE hs2 tt2 l) hn) → hh.get? b = some o := by
          intro b o hb e hh kg e1 e2 e3
          simp only [List.mem_cons, List.not_mem_nil, or_false, not_or] at hb
          by_cases hbx : b = dx
          · rw [hbx, hdx] at e; rw [hbx, e1, e]
          by_cases hbH : b = H
          · rw [hbH, hH] at e; rw [hbH, e2, e]
          by_cases hbd : b = dh
          · rw [hbd, hdd] at e; rw [hbd, e3, e]
          exact kg _ _ (hg b o (by simp only [List.map_cons, List.map_nil, List.mem_cons, List.not_mem_nil, or_false, not_or]; exact ⟨hb.1, hbx, hbH, hbd, hb.2.1, hb.2.2.1, hb.2.2.2.1, hb.2.2.2.2⟩) e)
        have hvt : (vs.take (pre.length + 0)).toArray.push (Value.ref D19) = (vs.take pre.length ++ [Value.ref D19]).toArray := by rw [Nat.add_zero, List.push_toArray]
        have hvp : RowsAre g (vs.take pre.length) pre := RowsAre.take (b := opc :: ws.map wpc) hvg
        k_steps
        · show wpAny _ _ (call _ _) _ _ _
          rename Fr g L _ _ => F21
          rename News g L _ _ => N21
          have N21' := news_tl N21
          refine setd_c X T (hA'.mono (by omega)) (fun b o e => F21.keep _ _ (st' b o e)) hsl (sp_asc _ _) hsl2 hsa2 (by decide) (by decide) (news_at N21' 4 rfl).1 (news_at N21' 5 rfl).1 hHB hdB hlB (news_at N21' 6 rfl).1 hu100 (hug.stays F21.keep) htab ?_ ?_
          · intro h22 tk22 z t22 hz st22
            rw [told_sp] at hz
            have hzn := hkn z hz
            subst hzn
            have F22 := F21.keeps st22
            have N22 := News.st N21 st22
            clear F21 N21 N21'
            k_steps
            rename Fr g L _ _ => F23
            rename News g L _ _ => N23
            have N23' := news_tl N23
            have e9 : (nmS (orAll ws) == Str.ofString (toString ((orAll ws : Nat) : Int))) = true := beq_self_eq_true _
            rw [e9]
            have hPe := (news_at N23' 2 rfl).1
            rw [hvt] at hPe
            refine hQ _ _ _ _ _ us _ (C15.wd F23.keep (news_at N23' 7 rfl).1 (news_at N23' 8 rfl).1 (news_at N23' 9 rfl).1 (fun q hq => (news_drop N23' 10 q hq).1)) (fun b o hb e => hpoff b o hb e _ F23.keep (news_at N23' 3 rfl).1 (news_at N23' 4 rfl).1 (news_at N23' 5 rfl).1) hPe ((hvp.stays F23.keep).snoc (N23 _ (.head _)).1) (news_at N23' 6 rfl).1 ?_ (Frs.snoc (hvf.take _) (frs_B st' (N23 _ (.head _)).2.2)) huf
            rw [hz]
            exact hug.stays F23.keep
          · intro _ _ _ _ _ _ hz
            rw [told_sp] at hz
            rw [hz] at hold
            rename old = true => ho9
            rw [ho9] at hold
            cases hold
        · show wpAny _ _ (call _ _) _ _ _
          rename Fr g L _ _ => F21
          rename News g L _ _ => N21
          have N21' := news_tl N21
          refine setd_c X T (hA'.mono (by omega)) (fun b o e => F21.keep _ _ (st' b o e)) hsl (sp_asc _ _) hsl2 hsa2 (Nat.le_trans (nm_len hor) (by decide)) (nm_asc _) (news_at N21' 4 rfl).1 (news_at N21' 5 rfl).1 hHB hdB hlB (news_at N21' 6 rfl).1 hu100 (hug.stays F21.keep) htab ?_ ?_
          · intro _ _ z _ hz
            rw [told_sp] at hz
            rw [hz] at hold
            rename old = false => ho9
            rw [ho9] at hold
            cases hold
          · intro h22 tk22 E22 k22 t1 t2 hz hl22 hE22 hE220 kp22
            rw [told_sp] at hz
            have F22 := Mine.Fr.keep1 F21 N21' (.tail _ (.tail _ (.tail _ (.tail _ (.tail _ (.tail _ (.head _))))))) kp22
            have N22' := Mine.News.app (news_set (as := [M, L + 1, P, dx, H, dh, l, 48, 69, 62]) (os := [_, _, _, _, _, _, _, _, _, _]) (news_take N21' 10) nd (i := 6) rfl (by simp) kp22 hl22)
              (C15.keep1 (news_drop N21' 10) (news_at N21' 6 rfl).1 (fun ⟨_, _, _, e, _⟩ => by cases e) kp22)
            replace N22' : News g L h22 ((M, _) :: (L + 1, _) :: (P, _) :: (dx, _) :: (H, _) :: (dh, _) :: (l, _) :: (48, _) :: (69, _) :: (62, _) :: cods15) := N22'
            have hDl : D19 ≠ l := ne_obj (N21 _ (.head _)).1 (news_at N21' 6 rfl).1 (by simp [pairO])
            have N22'' : News g L h22 ((D19, pairO (Value.str (Str.ofString "") _) (Value.str (sS (wl (orAll ws))) _)) :: _) := fun q hq => by
              rcases List.mem_cons.mp hq with rfl | hq
              · exact ⟨kp22 _ _ (by simpa using hDl) (N21 _ (.head _)).1, (N21 _ (.head _)).2⟩
              · exact N22' q hq
            have N22 := news_fresh F21 N22'' hE220 hE22
            clear F21 N21 N21' N22' N22''
            k_steps
            rename Fr g L _ _ => F23
            rename News g L _ _ => N23
            have N23' := news_tl (news_tl N23)
            have e9 : (Str.ofString (toString ((orAll ws : Nat) : Int)) == Str.ofString (toString ((orAll ws : Nat) : Int))) = true := beq_self_eq_true _
            rw [e9]
            have hPe := (news_at N23' 2 rfl).1
            rw [hvt] at hPe
            refine hQ _ _ _ _ _ _ _ (C15.wd F23.keep (news_at N23' 7 rfl).1 (news_at N23' 8 rfl).1 (news_at N23' 9 rfl).1 (fun q hq => (news_drop N23' 10 q hq).1)) (fun b o hb e => hpoff b o hb e _ F23.keep (news_at N23' 3 rfl).1 (news_at N23' 4 rfl).1 (news_at N23' 5 rfl).1) hPe ((hvp.stays F23.keep).snoc (N23 _ (.tail _ (.head _))).1) (news_at N23' 6 rfl).1 ?_ (Frs.snoc (hvf.take _) (frs_B st' (N23 _ (.tail _ (.head _))).2.2)) (Frs.snoc huf (frs_B st' (N23 _ (.head _)).2.2))
            rw [hz]
            exact (hug.stays F23.keep).snoc (N23 _ (.head _)).1
  | succ j =>
    --SKIP
    obtain ⟨r, x1, y1, t1, t2, rfl, hp, hr⟩ := hvg.2 _ _ hv
    obtain ⟨c, hc, hpo⟩ : ∃ c, ws[j]? = some c ∧ (x1, y1) = wpc c := by
      rw [List.getElem?_append_right (by omega), show pre.length + (j + 1) - pre.length = j + 1 by omega, List.getElem?_cons_succ, List.getElem?_map] at hp
      cases q : ws[j]? with
      | none => rw [q] at hp; cases hp
      | some c => rw [q] at hp; exact ⟨c, rfl, (Option.some.inj hp).symm⟩
    cases hpo
    have hT4 : IsTup h4 r #[.str (sS []) t1, .str (sW c) t2] := ⟨_, F4.keep _ _ hr, rfl, _, rfl⟩
    k_steps
    show wpAny _ _ (compareOp _ _ _) _ _ _
    rename Fr g L _ _ => F5
    rename News g L _ _ => N5
    refine ne_dataH (reads_tuple_at (F5.keep _ _ hr) rfl rfl (.cons (.str _ _) (.cons (.str _ _) .nil))) (reads_tuple_at (N5 _ (.head _)).1 rfl rfl (.cons (.str _ _) (.cons (.str _ _) .nil))) (sh2 ab_e (ab_w c)) (sh2 ab_b ab_n) hu9 ?_
    rw [eqv2]
    replace N5 := news_tl N5
    have hT5 : IsTup _ r #[.str (sS []) t1, .str (sW c) t2] := ⟨_, F5.keep _ _ hr, rfl, _, rfl⟩
    have hcl9 : (sW c).length ≤ 600 := by rw [sW, sS_len]; exact wl_len _
    k_steps
    show wpAny _ _ (call _ _) _ _ _
    rename Fr g L _ _ => F6
    rename News g L _ _ => N6
    have hc16 := hws c (List.mem_of_getElem? hc)
    have hcm : c ∈ ws := List.mem_of_getElem? hc
    have hlen6 : (sp true c).length ≤ 600 := by rw [sp_len]; exact wl_len _
    refine get_c (x := sp true c) X T (hA'.mono (by omega)) (fun b o e => F6.keep _ _ (st' b o e)) (by omega) (by rw [sp_low]; omega) (by rw [sp_low]; exact sp_asc false c) (news_at N6 4 rfl).1 (news_at N6 5 rfl).1 hHB hdB ⟨_, (news_at N6 6 rfl).1, rfl, _, rfl⟩ (hug.stays F6.keep) htab ?_
    intro h7 tk7 v7 st7 hv7
    rw [htold c hcm] at hv7
    obtain ⟨t7, rfl⟩ := hv7
    have F7 := F6.keeps st7
    have N7 := News.st N6 st7
    clear F6 N6
    k_steps
    show wpAny _ _ (call _ _) _ _ _
    have nk := nm_ok c hc16
    have W7 := C4.wd F7.keep (news_at N7 7 rfl).1 (news_at N7 8 rfl).1 (news_at N7 9 rfl).1 (fun q hq => (news_drop N7 10 q hq).1)
    refine ifs_c X T (hA'.mono (by omega)) (fun b o e => F7.keep _ _ (st' b o e)) W7.b48 W7.c48 W7.t48 nk.l1 nk.l6 nk.val nk.sl nk.rs nk.rp ?_
    intro h8 d8 tk8 t8 hT8 k8
    have F8 := Mine.Fr.keep1 F7 N7 (.tail _ (.tail _ (.tail _ (.tail _ (.tail _ (.tail _ (.tail _ (.head _)))))))) k8
    obtain ⟨q48, cods8, e48, Nc8, C8⟩ := C4.up48 F8 (C4.keep1 (news_drop N7 10) (news_at N7 7 rfl).1 (W7.t48.noCode (news_at N7 7 rfl).1) k8) hT8
    have N8 := Mine.News.app (news_set (as := [M, L + 1, P, dx, H, dh, l, 48, 69, 62]) (os := [_, _, _, _, _, _, _, _, _, _]) (news_take N7 10) nd (i := 7) rfl (by simp) k8 e48) Nc8
    replace N8 : News g L h8 ((M, _) :: (L + 1, _) :: (P, _) :: (dx, _) :: (H, _) :: (dh, _) :: (l, _) :: (48, _) :: (69, _) :: (62, _) :: cods8) := N8
    clear F7 N7 W7
    k_steps
    show wpAny _ _ (setItem _ _ _) _ _ _
    refine wpAny_setItem_pairs (knd := intKind _ w) (k := (c : Int)) (by exact intKind_is _ _ _ _) (Heap.dictOf_iff.mpr ⟨_, (N8 _ (.head _)).1, D4⟩) ?_ (Nat.le_trans hkl (Nat.le_trans (Nat.sub_le _ _) (Nat.le_trans hw20 (by decide))))
    intro h9 hd9 hs9
    obtain ⟨oM9, eM9, D9⟩ := Heap.dictOf_iff.mp hd9
    have F9 := Mine.Fr.keep1 F8 N8 (.head _) (keep_of hs9)
    have N9 := Mine.News.app (news_set (as := [M, L + 1, P, dx, H, dh, l, 48, 69, 62]) (os := [_, _, _, _, _, _, _, _, _, _]) (news_take N8 10) nd (i := 0) rfl (by simp) (keep_of hs9) eM9)
      (C8.keep1 (news_drop N8 10) (N8 _ (.head _)).1 (fun ⟨_, _, _, e, _⟩ => by obtain ⟨_, _, _, e2, _⟩ := D4; rw [e2] at e; cases e) (keep_of hs9))
    replace N9 : News g L h9 ((M, _) :: (L + 1, _) :: (P, _) :: (dx, _) :: (H, _) :: (dh, _) :: (l, _) :: (48, _) :: (69, _) :: (62, _) :: cods8) := N9
    clear F8 N8
    k_steps
    show wpAny _ _ (getMethod _ _ _) _ _ _
    refine method_fv (K := hd.heap_1 w.params) (ga := "list.__getattribute__") (od := some (dictOf (accE hs tt ti) en)) (Frag.In.keeps X' F9.keep) ⟨(news_at N9 2 rfl).1, rfl, rfl, (news_at N9 3 rfl).1⟩ (by k_is) (by decide +kernel) (by k_is) (by k_is) (by k_is) (by decide) (by rfl) ?_
    k_steps
    show wpAny _ _ (call _ _) _ _ _
    obtain ⟨v1, hv1⟩ : ∃ v, vs[pre.length + j]? = some v := ⟨vs[pre.length + j]'(by omega), by simp⟩
    refine pop_at (i := pre.length + j) X T (hA'.mono (by omega)) (fun b o e => F9.keep _ _ (st' b o e)) hv1 (by omega) (news_at N9 2 rfl).1 (news_at N9 3 rfl).1 hPB hdxB ?_
    intro h10 tk10 n10 hP10 k10
    have F10 := Mine.Fr.keep1 F9 N9 (.tail _ (.tail _ (.head _))) k10
    have N10 := Mine.News.app (news_set (as := [M, L + 1, P, dx, H, dh, l, 48, 69, 62]) (os := [_, _, _, _, _, _, _, _, _, _]) (news_take N9 10) nd (i := 2) rfl (by simp) k10 hP10)
      (C8.keep1 (news_drop N9 10) (news_at N9 2 rfl).1 (fun ⟨_, _, _, e, _⟩ => by cases e) k10)
    replace N10 : News g L h10 ((M, _) :: (L + 1, _) :: (P, _) :: (dx, _) :: (H, _) :: (dh, _) :: (l, _) :: (48, _) :: (69, _) :: (62, _) :: cods8) := N10
    clear F9 N9
    k_steps
    rename Fr g L _ _ => F11
    rename News g L _ _ => N11
    have hjl : j < ws.length := by omega
    have hdr : ws.drop j = c :: ws.drop (j + 1) := by
      have h1 : ws[j] = c := by rw [List.getElem?_eq_getElem hjl] at hc; exact Option.some.inj hc
      rw [List.drop_eq_getElem_cons hjl, h1]
    refine ⟨rfl, j, Nat.lt_succ_self j, ?_⟩
    rw [hJ9]
    refine ⟨_, _, _, oM9, v1, n10, q48, p69, p62, cods8, _, rfl, by omega, hv1, fr_same F11 fun y => ite_twice, N11, C8, D9, by rw [hdr]; exact hKV.store, ?_⟩
    have h5 := stored_length_le kvs (c : Int) (.str (sW c) t2)
    have h6 : ws.length - (j + 1) + 1 = ws.length - j := by omega
    rw [← h6]
    exact Nat.le_trans h5 (Nat.succ_le_succ hkl)
    --ENDSKIP
end
end Mine
namespace Mine
section
variable {prog : Program} {w : World} {A : Around} {K : Frag} {C fI : Addr} {R : Result → Shared → Prop} {h : Heap} {g : Array GenState} {d : Drawn} {t : Nat} {os : OsState} {oc : Value} {od : Option Addr} {cd : ClassData} {sl : Array (Option Value)} {rs : List Value}
def accNew (C dx : Addr) : Obj := { cls := .ref C, dict := some dx, data := .seq #[] }
theorem new_acc (X : K.In h) (ho : K.lookup C = some ⟨oc, od, .cls cd, sl⟩) (e1 : cd.abstract = false) (e2 : cd.hasDel = false) (e3 : (sl.toList[4]?).join = some (.builtin "list.__new__")) (e4 : cd.mro = .ref C :: rs)
    (hself : mroIn K C (.ref C) = some true) (hlist : mroIn K C (.type "list") = some true) (htyp : instIn K (.ref C) (.type "type") = some true)
    (hq : R (.ok (.ret (.ref (h.objs.size + 1)))) ⟨(h.push emptyDict).push (accNew C h.objs.size), g, d, t, os⟩) :
    codeAny (model prog w) A (.call (.builtin "list.__new__") ⟨[.ref C], []⟩) R ⟨h, g, d, t, os⟩ := by
  have hC := X _ _ ho
  have hc : clsIn K C = some cd := by unfold clsIn; rw [ho]
  have hm : Looks (model prog w) h (mroOf (.ref C)) cd.mro := (looks_clsIn X hc).andThen .now
  have made : Looks (model prog w) h (Bind.madeBy (.ref C)) (some "list.__new__") := by
    intro A Q E s k q
    unfold Bind.madeBy
    refine wpAny_bind (hm A _ E s k ?_)
    rw [e4, List.forIn_cons]
    refine wpAny_bind (wpAny_bind (wpAny_bind (wpAny_bind (wpAny_loadPart (k _ _ hC) (wpAny_pure ?_)))))
    dsimp only
    rw [← Array.getElem?_toList, e3]
    exact wpAny_pure (wpAny_pure (wpAny_pure q))
  have base : Looks (model prog w) h (Bind.staticBase (.ref C)) (.ref C) := by
    intro A Q E s k q
    unfold Bind.staticBase
    refine wpAny_bind (hm A _ E s k ?_)
    rw [e4, List.forIn_cons]
    exact wpAny_bind (wpAny_bind (wpAny_bind (made A _ E s k (wpAny_pure (wpAny_pure (wpAny_pure q))))))
  have self : Looks (model prog w) h (isSubtype (.ref C) (.ref C)) true := looks_mroIn X hself
  have top : Looks (model prog w) h (isSubtype (.ref C) (.type "list")) true := looks_mroIn X hlist
  have typ : Looks (model prog w) h (isInstance (.ref C) (.type "type")) true := looks_instIn X htyp
  refine codeAny_call_builtin_code (Code.quiet_builtin _ (by decide +kernel)) ?_
  have hk : builtinKind "list.__new__" = some .builtinFn := by decide +kernel
  have hs : splitId "list.__new__" = some ("list", "__new__") := by decide +kernel
  have ha : argsOk "list.__new__" ⟨[.ref C], []⟩ := by unfold argsOk; kernel_rfl
  obtain ⟨sig, hsig⟩ : ∃ sig, Manifest.signature? "list.__new__" = some sig := Option.isSome_iff_exists.mp (by decide +kernel)
  have ha2 : Bind.checkArgs "list.__new__" sig ⟨[.ref C], []⟩ = pure () := by
    unfold argsOk at ha
    rw [hsig] at ha
    exact ha
  simp only [checkBuiltinCall, hk, hs, hsig]
  rw [ha2]
  repeat (first | simp only [bne_self_eq_false, Bool.false_eq_true, if_false] | lk)
  refine codeAny_builtin_stack PySem.F.entry_list_new rfl fun p st => ?_
  have hown := owner_list_new
  simp only [hown]
  repeat (first | simp only [bne_self_eq_false, Bool.false_eq_true, if_false] | lk)
  have hC2 := Heap.get?_push_of_some { cls := Value.ref C, dict := some h.objs.size, data := Data.seq #[] } (Heap.get?_push_of_some { cls := Value.type "dict", data := Data.dict #[] } hC)
  show wpAny _ _ (load C) _ _ _
  refine wpAny_load hC2 ?_
  refine wpAny_pure ?_
  rw [e2]
  refine wpAny_pure (wpAny_pure ?_)
  show R _ _
  rw [Heap.size_push]
  exact hq
theorem make_acc (X : K.In h) (ho : K.lookup C = some ⟨oc, od, .cls cd, sl⟩) (e1 : cd.abstract = false) (e2 : cd.hasDel = false) (e3 : (sl.toList[4]?).join = some (.builtin "list.__new__")) (e4 : cd.mro = .ref C :: rs)
    (hself : mroIn K C (.ref C) = some true) (hlist : mroIn K C (.type "list") = some true) (htyp : instIn K (.ref C) (.type "type") = some true) (hcall : specialIn K (.ref C) "__call__" = some (some (.builtin "type.__call__")))
    (hi : findIn K (.ref C) "__init__" = some (some (.ref fI))) (hf : typeIn K (.ref fI) = some (.type "function"))
    (hq : codeAny (model prog w) (A.under (.builtin "type.__call__" ⟨[.ref C], []⟩)) (.call (.ref fI) ⟨[.ref (h.objs.size + 1)], []⟩) (InitBack (h.objs.size + 1) R) ⟨(h.push emptyDict).push (accNew C h.objs.size), g, d, t, os⟩) :
    codeAny (model prog w) A (.call (.ref C) ⟨[], []⟩) R ⟨h, g, d, t, os⟩ := by
  have hC := X _ _ ho
  have hc : clsIn K C = some cd := by unfold clsIn; rw [ho]
  have call : Looks (model prog w) h (specialOf (.ref C) "__call__") (some (.builtin "type.__call__")) := looks_specialIn X hcall
  have typ : Looks (model prog w) h (isInstance (.ref C) (.type "type")) true := looks_instIn X htyp
  have hi' : Looks (model prog w) h (typeLookup (.ref C) "__init__") (some (.ref fI)) := looks_findIn X hi
  have self : Looks (model prog w) h (isSubtype (.ref C) (.ref C)) true := looks_mroIn X hself
  have hm : Looks (model prog w) h (mroOf (.ref C)) cd.mro := (looks_clsIn X hc).andThen .now
  have e4' : cd.mro.isEmpty = false := by rw [e4]; rfl
  have made : Looks (model prog w) h (Bind.madeBy (.ref C)) (some "list.__new__") := by
    intro A Q E s k q
    unfold Bind.madeBy
    refine wpAny_bind (hm A _ E s k ?_)
    rw [e4, List.forIn_cons]
    refine wpAny_bind (wpAny_bind (wpAny_bind (wpAny_bind (wpAny_loadPart (k _ _ hC) (wpAny_pure ?_)))))
    dsimp only
    rw [← Array.getElem?_toList, e3]
    exact wpAny_pure (wpAny_pure (wpAny_pure q))
  refine codeAny_of_tree ?_
  show wpAny _ _ (callAny (.ref C) _) _ _ _
  refine nd_load hC ?_
  show wpAny _ _ (callAny.viaDunder (.ref C) _) _ _ _
  unfold callAny.viaDunder
  refine wpAny_bind (call.at ?_)
  dsimp only
  rw [tc_bind]
  refine wpAny_bind (wpAny_pure (wpAny_bind (wpAny_pure ?_)))
  refine wpAny_pure (a := Fin.again (.call (.builtin "type.__call__") ⟨[.ref C], []⟩)) (And.intro rfl ?_)
  refine codeAny_call_builtin_at (Code.quiet_builtin _ (by decide +kernel)) entry_typeCall (check_slot tc_kind tc_split typ (tc_args _ _ _) ?_)
  unfold Builtin.«type.__call__»
  repeat (first | simp only [e4', Bool.false_eq_true, if_false] | with_reducible refine wpAny_call ?_ | lk)
  refine new_acc X ho e1 e2 e3 e4 hself hlist htyp ?_
  have k : ∀ b o, h.get? b = some o → ((h.push emptyDict).push (accNew C h.objs.size)).get? b = some o := fun b o e => Heap.get?_push_of_some _ (Heap.get?_push_of_some _ e)
  have hx : ((h.push emptyDict).push (accNew C h.objs.size)).get? (h.objs.size + 1) = some (accNew C h.objs.size) := by
    have := Heap.get?_push_size (h.push emptyDict) (o := accNew C h.objs.size) rfl
    rwa [Heap.size_push] at this
  have t1 : Looks (model prog w) ((h.push emptyDict).push (accNew C h.objs.size)) (typeOf (.ref (h.objs.size + 1))) (.ref C) := (Looks.ld hx).andThen .now
  have s1 := self.keeps k
  have i1 := hi'.keeps k
  have b1 := (bind_fn X (.ref (h.objs.size + 1)) hf : Looks (model prog w) h _ _).keeps k
  unfold isInstance callSpecial? specialOf
  repeat (first | with_reducible refine wpAny_call ?_ | lk)
  refine codeAny_mono hq fun r s' z => ?_
  rcases r with e | (v | _ | _ | _) <;> first | exact z | exact z.elim | skip
  obtain ⟨rfl, z⟩ := z
  exact wpAny_pure (wpAny_pure z)
end
end Mine
namespace Mine
end Mine
--LINES
local macro_rules | `(tactic| walk_at "setAttr ref") => `(tactic| (k_here; (with_reducible show wpAny _ _ (setAttr _ (PySem.Str.ofString "_initial_size") _) _ _ _); k_dflt (refine Mine.halt_of ?_)))
--END
namespace Mine
section
variable {prog : Program} {w : World} {A : Around} {E : Value → Shared → Prop} {s : Shared} {K : Frag} {C x : Addr} {ox : Obj} {cd : ClassData} {h₀ : Heap} {L : Addr} {m : Str → Option Value} {news : List (Addr × Obj)}
/-- a name stored in an instance of a list subclass -/
theorem set_acc {dx : Addr} {name : Str} {v : Value} {es : List DictEntry} {n : Nat} {pre post : List (Addr × Obj)} {Q : Unit → Shared → Prop} (F : Fr h₀ L s.heap m) (N : News h₀ L s.heap (pre ++ (dx, dictOf es n) :: post)) (X : K.In s.heap)
    (I : InstAt s.heap x ox C (some (dictOf es n))) (hd : ox.dict = some dx) (hs : findIn K (.ref C) "__setattr__" = some (some (.builtin "object.__setattr__"))) (hc : clsIn K C = some cd)
    (hmo : mroIn K C (.type "object") = some true) (hr : ∀ self, refuseLoop self "__setattr__" cd.mro = pure ()) (hf : findIn K (.ref C) name = some none) (hh : cd.hasDict = true)
    (hl : (getL name es).isSome = true) (h1 : ∀ p ∈ pre, p.1 ≠ dx) (h2 : ∀ p ∈ post, p.1 ≠ dx) (hz : (putL name (PyData.keyHash w.params name) (.str name (s.toks + 1)) v es).length ≤ 1000)
    (h : ∀ h', Fr h₀ L h' m → News h₀ L h' (pre ++ (dx, dictOf (putL name (PyData.keyHash w.params name) (.str name (s.toks + 1)) v es) (putN name es n)) :: post) → Q () { s with heap := h', toks := s.toks + 2 }) :
    wpAny (model prog w) A (setAttr (.ref x) name v) Q E s := by
  refine set_plain X I hs ?_
  have SF := PySem.F.store_object
  have sub : Looks (model prog w) s.heap (isInstance (.ref x) (.type "object")) true := I.type.andThen (looks_mroIn X hmo)
  refine codeAny_call_builtin SF.slot.plain SF.entry (@check_slot (model prog w) _ _ { s with toks := s.toks + 1 } "object.__setattr__" "object" "__setattr__" (.ref x) [.str name s.toks, v] [] _ SF.kind SF.split sub (SF.args (.ref x) (.str name s.toks) v) ?_)
  have hm : Looks (model prog w) s.heap (mroOf (.ref C)) cd.mro := (looks_clsIn X hc).andThen .now
  have L3 : Looks (model prog w) s.heap (Builtin.ObjectAttr.storeTaker? none) none := .now
  rw [osa_eq, refuse_eq]
  refine wpAny_bind (wpAny_bind (I.type.here (s := { s with toks := s.toks + 1 }) (wpAny_bind (hm.here (s := { s with toks := s.toks + 1 }) ?_))))
  rw [hr]
  refine wpAny_pure (wpAny_bind (I.type.here (s := { s with toks := s.toks + 1 }) (wpAny_bind ((looks_findIn X hf).here (s := { s with toks := s.toks + 1 }) (wpAny_bind (L3.here (s := { s with toks := s.toks + 1 }) ?_))))))
  have e : Obj.putName name (PyData.keyHash w.params name) (.str name (s.toks + 1)) v (dictOf es n) = dictOf (putL name (PyData.keyHash w.params name) (.str name (s.toks + 1)) v es) (putN name es n) := putName_dict ..
  obtain ⟨U1, U2⟩ := news_upd (f := Obj.putName name (PyData.keyHash w.params name) (.str name (s.toks + 1)) v) F N h1 h2 e rfl
  have D := (N (dx, dictOf es n) (by simp)).1
  have D' := (U2 (dx, _) (List.mem_append_right _ (.head _))).1
  obtain ⟨hx, hcl, hn, -⟩ := I
  obtain ⟨oc, odi, oda, osl⟩ := ox
  dsimp only at hcl hd
  subst hcl hd
  show wpAny _ _ (Builtin.ObjectAttr.storeInOwnDict (.ref x) (.ref C) (.str name s.toks) name v false) _ _ _
  refine wpAny_bind (wpAny_pure (wpAny_bind (wpAny_bind (wpAny_loadPart hx (wpAny_bind ((looks_clsIn X hc).here (s := { s with toks := s.toks + 1 }) ?_))))))
  rw [hh]
  refine wpAny_pure (a := some dx) (wpAny_bind (wpAny_pure (wpAny_bind ?_)))
  unfold nsSet
  refine wpAny_bind (wpAny_bind (wpAny_askSetting (wpAny_pure (wpAny_bind (wpAny_mkText (wpAny_bind (wpAny_loadPart D ?_)))))))
  dsimp only
  have c : (!es.toArray.any (·.key.isStr name) && es.toArray.any (·.refKey)) = false := by
    unfold getL at hl
    rw [← Array.any_toList, ← Array.any_toList]
    split at hl
    · rename_i en he
      rw [List.any_eq_true.mpr ⟨en, List.mem_of_find?_eq_some he, List.find?_some he⟩]; rfl
    · split at hl
      · cases hl
      · rename_i z; rw [Bool.not_eq_true] at z
        show (_ && es.any _) = false
        rw [z, Bool.and_false]
  rw [aRefKeyMayBeTheName_at, c]
  refine wpAny_updatePart D ?_
  refine wpAny_bind (wpAny_lookBehind D' (pastItsLine_dict (by rw [List.size_toArray, sizeLine_eq]; omega)) ?_)
  exact wpAny_pure (h _ U1 U2)
end
theorem Room.make {A : Around} {n : Nat} (h : Room A (n + 1)) (C : Addr) : Room (A.under (.builtin "type.__call__" ⟨[.ref C], []⟩)) n :=
  ⟨h.hh, by have := h.hd; rw [depth_under_make]; omega, by have := h.hu; rw [units_under_make]; omega⟩
section
variable {w : World} {B : Heap} {p : Program} {loose : List Str} {mean : ExcName → Option Value} {mg mb : Str → Option Value} {A : Around} {s : Shared} {Q E : Value → Shared → Prop}

theorem acc_c (X : (hd.heap_1 w.params).In B) (T : Top p loose mean mg mb B) (hA : Room A 8) (st : B.StaysIn s.heap)
    (hQ : ∀ h' tk' P dx hs tt ti en n, h'.get? P = some (accO dx #[] n) → h'.get? dx = some (dictOf (accE hs tt ti) en) → s.heap.get? P = none → s.heap.get? dx = none → s.heap.StaysIn h' → Q (.ref P) { s with heap := h', toks := tk' }) :
    wpAny (model PySem.Challenge.rw_un0043_01.row.toRowW.prog w) A (call (.ref 154) []) Q E s := by
  revert X; k_fill; intro X
  have Xs : (hd.heap_1 w.params).In s.heap := fun a o e => st a o (X a o e)
  refine wpAny_call ?_
  obtain ⟨h0, g0, d0, t0, os0⟩ := s
  have fresh : ∀ a, h0.objs.size ≤ a → h0.get? a = none := fun a ha => by
    cases e : h0.get? a with
    | none => rfl
    | some o' => exact absurd (Heap.lt_size e) (Nat.not_lt.mpr ha)
  have freshB : ∀ a, h0.objs.size ≤ a → B.get? a = none := fun a ha => by
    cases e : B.get? a with
    | none => rfl
    | some o' => have := st _ _ e; rw [show (Shared.mk h0 g0 d0 t0 os0).heap = h0 from rfl, fresh a ha] at this; cases this
  k_dflt (refine make_acc (K := hd.heap_1 w.params) Xs (by k_is) (by rfl) (by rfl) (by rfl) (by rfl) (by k_is) (by k_is) (by k_is) (by k_is) (by k_is) (by k_is) ?_)
  have hx : ((h0.push emptyDict).push (accNew 154 h0.objs.size)).get? (h0.objs.size + 1) = some (accO h0.objs.size #[] 0) := by
    have := Heap.get?_push_size (h0.push emptyDict) (o := accNew 154 h0.objs.size) rfl
    rwa [Heap.size_push] at this
  have hdx : ((h0.push emptyDict).push (accNew 154 h0.objs.size)).get? h0.objs.size = some emptyDict := Heap.get?_push_of_some _ (Heap.get?_push_size _ rfl)
  have st2 : h0.StaysIn ((h0.push emptyDict).push (accNew 154 h0.objs.size)) := fun b o e => Heap.get?_push_of_some _ (Heap.get?_push_of_some _ e)
  have Xs2 : (hd.heap_1 w.params).In ((h0.push emptyDict).push (accNew 154 h0.objs.size)) := fun a o e => st2 a o (Xs a o e)
  k_dflt (refine' enterS [(h0.objs.size + 1, accO h0.objs.size #[] 0), (h0.objs.size, emptyDict)] X T (hA.make 154) (fun b o e => st2 b o (st b o e)) ?hm ?ho ?hcd ?hb ?hl ?_ ?hc ?h1 ?h2 ?h3; (case hm => simpa using ⟨⟨hx, freshB _ (Nat.le_succ _)⟩, hdx, freshB _ (Nat.le_refl _)⟩); (case ho => k_is); (case hcd => k_is); (case hb => first | exact BindsTo.of_eq rfl | exact binds_K Xs2 rfl (by k_is) rfl rfl rfl); (case hl => exact locs rfl); (case hc => decide); (case h1 => exact rfl); (case h2 => exact rfl); (case h3 => exact rfl))
  intro g L h₁ hg hL F N X' T' st' hA'
  k_dflt (replace F : Fr g L h₁ (fun y' => List.lookup y' [(Str.ofString "initial_size", .int 0 _), (Str.ofString "self", .ref (h0.objs.size + 1))]) := F)
  refine ks_wpAt_execs_cons ?_
  refine wpAt_of_wpAny ?_
  k_steps
  show wpAny _ _ (setAttr _ _ _) _ _ _
  have hr : ∀ self, refuseLoop self "__setattr__" [.ref 154, .type "list", .type "object"] = pure () := fun self => by kernel_rfl
  k_dflt (refine set_acc (K := hd.heap_1 w.params) (C := 154) (ox := accO h0.objs.size #[] 0) (dx := h0.objs.size) (es := []) (n := 0) (pre := [(h0.objs.size + 1, accO h0.objs.size #[] 0)]) (post := []) F N (Frag.In.keeps X' F.keep) ⟨(N _ (.head _)).1, rfl, rfl, (N _ (.tail _ (.head _))).1⟩ rfl (by k_is) (by k_is) (by k_is) hr (by k_is) (by rfl) (by rfl) (fun p hp => by rw [List.mem_singleton.mp hp]; exact Nat.succ_ne_self _) (fun _ h => absurd h List.not_mem_nil) (Nat.le_of_ble_eq_true rfl) ?_)
  intro h2 F2 N2
  clear F N
  show _root_.PySem.wpAt _ _ _ _ _ _ _
  refine ks_wpAt_execs_cons ?_
  refine ks_wpAt_Expr_any ?_
  refine ks_wpAt_MethodCall ?_
  have I : InstAt h2 (h0.objs.size + 1) (accO h0.objs.size #[] 0) 154 (some (dictOf _ _)) := ⟨(N2 _ (.head _)).1, rfl, rfl, (N2 _ (.tail _ (.head _))).1⟩
  k_dflt (refine ks_node (F := F2) (X₀ := X') (N := N2) (T := T') (by k_is) (by rfl) (by rfl) I (by k_is) (by rfl) (by first | rfl | decide +kernel) (by k_is) (by k_is) (by k_is) (by k_is) (by decide) (by rfl) (by rfl) (by rfl) (by rfl) (by decide +kernel) (by first | boot_by_name | rfl | kernel_rfl) ?_)
  intro so h3 F3 N3 l3
  have I3 : InstAt h3 (h0.objs.size + 1) (accO h0.objs.size #[] 0) 154 (some (dictOf _ _)) := ⟨(N3 _ (.tail _ (.head _))).1, rfl, rfl, (N3 _ (.tail _ (.tail _ (.head _)))).1⟩
  have X3 := Frag.In.keeps X' F3.keep
  have hP154 : h0.objs.size + 1 ≠ 154 := ks_ne X3 I3 (cd := _) (by k_is)
  refine super_gm_bi (K := hd.heap_1 w.params) (id := "list.__init__") (N3 _ (.head _)).1 (looks_opaque X3 (by k_is)) ((looks_clsIn X3 (by k_is)).andThen .now) rfl X3 (by with_unfolding_all rfl) (by show builtinType _ = _; rw [builtinType_eq_fast]; kernel_rfl) slot_wd_get entry_wd_get (args_wd_get _ _ _) hP154 (by decide)
    (fun A' t' E' Q' hq => wd_get_init (s := ⟨h3, _, _, t', _⟩) X3 I3 (by k_is) hq) ?_
  refine callWith_bound (bt := "method-wrapper") (Heap.get?_push_at rfl rfl) (by decide) (by decide) ?_
  have hPp : (h3.push { cls := .type "method-wrapper", data := .fields #[.builtin "list.__init__", .ref (h0.objs.size + 1)] }).get? (h0.objs.size + 1) = some (accO h0.objs.size #[] 0) := Heap.get?_push_of_some _ (N3 _ (.tail _ (.head _))).1
  refine call_bound (bt := "method-wrapper") (id := "list.__init__") (Heap.get?_push_at rfl rfl) (by decide) (by decide) (by decide +kernel) PySem.F.entry_list_init (fun _ _ _ hq => wpAny_of_eq (by kernel_rfl) hq) ?_
  unfold Builtin.«list.__init__»
  repeat wp_step
  refine ⟨_, rfl, ?_⟩
  show _root_.PySem.wpAt _ _ _ (execs [] _) _ _ _
  refine wpAt_of_wpAny (wpAny_execs_nil ?_)
  refine ⟨rfl, ?_⟩
  have hdd : (accO h0.objs.size #[] 0).data = .seq #[] 0 := rfl
  obtain ⟨n', hd'⟩ := Obj.data_mapSeq hdd (fun _ => #[])
  have hne : h0.objs.size ≠ h0.objs.size + 1 := Nat.ne_of_lt (Nat.lt_succ_self _)
  obtain ⟨hs9, tt9, ti9, en9, hdx3⟩ : ∃ hs tt ti en, h3.get? h0.objs.size = some (dictOf (accE hs tt ti) en) := ⟨_, _, _, _, (N3 _ (.tail _ (.tail _ (.head _)))).1⟩
  refine hQ _ _ (h0.objs.size + 1) h0.objs.size hs9 tt9 ti9 en9 (if (#[] : Array Value).size == (#[] : Array Value).size then 0 else 0 + 1) ?_ ?_ (fresh _ (Nat.le_succ _)) (fresh _ (Nat.le_refl _)) ?_
  · exact (Heap.get?_update_self _ hPp (Obj.isFreed_of_seq hd')).trans rfl
  · exact ((Heap.SameBut.update ..).2 _ hne).trans (Heap.get?_push_of_some _ hdx3)
  · intro b o e
    have hlt := Heap.lt_size e
    have hb1 : b ≠ h0.objs.size + 1 := Nat.ne_of_lt (Nat.lt_succ_of_lt hlt)
    have hb2 : b ≠ h0.objs.size := Nat.ne_of_lt hlt
    refine ((Heap.SameBut.update ..).2 _ hb1).trans (Heap.get?_push_of_some _ (F3.keep _ _ (hg b o ?_ (st2 b o e))))
    simp only [List.map_cons, List.map_nil, List.mem_cons, List.not_mem_nil, or_false, not_or]
    exact ⟨hb1, hb2⟩
end
end Mine
namespace Mine
section
variable {K : Frag} {prog : Program} {w : World} {A : Around} {s : Shared} {E : Value → Shared → Prop} {P dx : Addr} {vs : Array Value} {n : Nat} {od : Option Obj}
/-- iter of an _Accumulator -/
theorem acc_iter {Q : Value → Shared → Prop} (X : K.In s.heap) (hP : s.heap.get? P = some (accO dx vs n)) (I : InstAt s.heap P (accO dx vs n) 154 od) (hsub : mroIn K 154 (.type "list") = some true)
    (hf : findIn K (.ref 154) "__iter__" = some (some (.builtin "list.__iter__"))) (ht : typeIn K (.builtin "list.__iter__") = some (.type "wrapper_descriptor"))
    (hQ : Q (.ref s.heap.objs.size) { s with heap := s.heap.push { cls := .type "list_iterator", data := .fields #[.ref P, .int 0 0] } }) : wpAny (model prog w) A (pyIter (.ref P)) Q E s := by
  have hcall : ∀ {A : Around}, wpAny (model prog w) A (call (.builtin "list.__iter__") [.ref P]) (fun it s' => it = .ref s.heap.objs.size ∧ s' = { s with heap := s.heap.push { cls := .type "list_iterator", data := .fields #[.ref P, .int 0 0] } }) E s := by
    intro A
    refine call_inst (by decide +kernel) entry_list_iter (owner := "list") (n := "__iter__") (by decide +kernel) (.inl (by decide +kernel)) X I hsub (args_list_iter _) ?_
    show wpAny _ _ (do ret (← newFields "list_iterator" [.ref P, rawInt 0])) _ _ s
    exact wpAny_bind (wpAny_newObj_type (wpAny_pure ⟨_, rfl, rfl, rfl⟩))
  unfold pyIter specialOf
  refine wpAny_bind (wpAny_bind (I.type.here ((looks_findIn X hf).here ?_)))
  dsimp only
  simp only [callSpecialIfBoundUnlessNone?, bindSpecialIfBound?, specialOf, bindSpecial]
  refine wpAny_bind (wpAny_holding (wpAny_bind (wpAny_bind (wpAny_bind (I.type.here ((looks_findIn X hf).here ?_))))))
  dsimp only
  refine wpAny_bind (wpAny_askSetting (wpAny_ite ?_))
  have fin : wpAny (model prog w) A (call (.builtin "list.__iter__") [.ref P] >>= fun v => pure (some v)) (fun r s' => wpAny (model prog w) A (match (motive := Option Value → Sem Value) r with
    | some it => (do match ← specialOf it "__next__" with
      | none => rule "iter.non-iterator"; raiseError "TypeError" s!"iter() returned non-iterator of type '{← typeNameOf it}'"
      | some _ => pure it)
    | none => (do match ← bindSpecialIfBound? (.ref P) "__getitem__" with
      | none => rule "iter.not-iterable"; raiseError "TypeError" s!"'{← typeNameOf (.ref P)}' object is not iterable"
      | some _ => rule "iter.getitem-fallback"; newFields "iterator" [.ref P, ← mkInt 0])) Q E s') E s := by
    refine wpAny_bind (wpAny_mono hcall (fun v s' h' => ?_) fun _ _ h' => h')
    obtain ⟨rfl, rfl⟩ := h'
    refine wpAny_pure (wpAny_bind (wpAny_specialOf ⟨_, Heap.get?_push_size _ rfl, rfl⟩ slot_listiter_next.lookup ?_))
    exact wpAny_pure hQ
  split
  · refine wpAny_bind (wpAny_bind ((looks_typeIn X ht).here ?_))
    rw [if_pos (by decide)]
    exact wpAny_pure (wpAny_pure fin)
  · refine wpAny_tryCatch (wpAny_bind (wpAny_bind ((looks_typeIn X ht).here ?_)))
    rw [if_pos (by decide)]
    exact wpAny_pure (wpAny_pure fin)
/-- the next item of such an iterator -/
theorem acc_next {it : Addr} {i : Nat} {x : Value} {Q : Option Value → Shared → Prop} (hit : s.heap.IsListIter it P i) (hP : s.heap.get? P = some (accO dx vs n)) (hx : vs[i]? = some x)
    (hQ : ∀ h', h'.IsListIter it P (i + 1) → Heap.SameBut it s.heap h' → Q (some x) { s with heap := h' }) : wpAny (model prog w) A (pyNext (.ref it)) Q E s := by
  obtain ⟨o, ho, hc, hd⟩ := id hit
  have hdl : (accO dx vs n).data = .seq vs n := rfl
  unfold pyNext
  refine wpAny_bind (wpAny_attempt (wpAny_callSpecial?_slot (name := Str.ofString "__next__") hit.typeIs slot_listiter_next
    (wpAny_call_entry slot_listiter_next hit.typeIs entry_listiter_next ?_ (args_listiter_next _))))
  show wpAny _ _ (field (.ref it) 0 >>= _) _ _ s
  refine wpAny_bind (wpAny_field ho hd (x := .ref P) rfl ?_)
  show wpAny _ _ (if (Value.ref P == Value.none) = true then _ else _) _ _ s
  rw [if_neg (show ¬ ((Value.ref P == Value.none) = true) from Bool.false_ne_true)]
  show wpAny _ _ (field (.ref it) 1 >>= _) _ _ s
  refine wpAny_bind (wpAny_field ho hd (x := .int i 0) rfl ?_)
  show wpAny _ _ (seqItems? (.ref P) >>= _) _ _ s
  refine wpAny_bind (wpAny_seqItems hP hdl ?_)
  simp only [Int.toNat_natCast, hx]
  refine wpAny_bind (wpAny_setField ho hd (by simp) (wpAny_pure ⟨x, rfl, wpAny_pure (hQ _ ?_ (Heap.SameBut.update ..))⟩))
  exact ⟨_, Heap.get?_update_self _ ho (Obj.isFreed_of_fields (Obj.data_mapFields hd _)), (Obj.cls_mapFields ..).trans hc, by
    rw [Obj.data_mapFields hd]; simp [rawInt]⟩
/-- its end -/
theorem acc_end {it : Addr} {i : Nat} {Q : Option Value → Shared → Prop} (hh : A.handled = none) (hit : s.heap.IsListIter it P i) (hP : s.heap.get? P = some (accO dx vs n)) (hx : vs[i]? = none)
    (hQ : ∀ h', Heap.ExtBut it s.heap h' → Q none { s with heap := h' }) : wpAny (model prog w) A (pyNext (.ref it)) Q E s := by
  obtain ⟨o, ho, hc, hd⟩ := id hit
  have hdl : (accO dx vs n).data = .seq vs n := rfl
  unfold pyNext
  refine wpAny_bind (wpAny_attempt (wpAny_callSpecial?_slot (name := Str.ofString "__next__") hit.typeIs slot_listiter_next
    (wpAny_call_entry slot_listiter_next hit.typeIs entry_listiter_next ?_ (args_listiter_next _))))
  show wpAny _ _ (field (.ref it) 0 >>= _) _ _ s
  refine wpAny_bind (wpAny_field ho hd (x := .ref P) rfl ?_)
  show wpAny _ _ (if (Value.ref P == Value.none) = true then _ else _) _ _ s
  rw [if_neg (show ¬ ((Value.ref P == Value.none) = true) from Bool.false_ne_true)]
  show wpAny _ _ (field (.ref it) 1 >>= _) _ _ s
  refine wpAny_bind (wpAny_field ho hd (x := .int i 0) rfl ?_)
  show wpAny _ _ (seqItems? (.ref P) >>= _) _ _ s
  refine wpAny_bind (wpAny_seqItems hP hdl ?_)
  simp only [Int.toNat_natCast, hx]
  refine wpAny_bind (wpAny_rule (wpAny_bind (wpAny_setField ho hd (by simp) ?_)))
  show wpAny _ _ (newExc (.type "StopIteration") [] >>= _) _ _ _
  refine wpAny_bind ?_
  simp only [newExc, newTuple]
  refine wpAny_bind (wpAny_newObj_type ?_ (by size_fits))
  refine wpAny_bind (m := firstArgMember _ _) (wpAny_of_eq (a := Value.none) (by first | rfl | (simp only [firstArgMember]; rfl)) ?_)
  refine wpAny_newObj_type ?_ (by size_fits)
  simp only [raiseNew]
  refine wpAny_bind (wpAny_handled ?_)
  rw [show A.in1.handled = none from hh]
  refine wpAny_bind (wpAny_pure (wpAny_throw ?_))
  refine wpAny_bind (wpAny_isInstance (T := "StopIteration") (b := true) ⟨_, Heap.get?_push_size _ rfl, rfl⟩ isSubtype_stop ?_)
  exact wpAny_pure (hQ _ (((Heap.SameBut.update ..).extBut.push _).push _))
end
/-- a walk over an _Accumulator's pairs -/
theorem acc_walk {prog : Program} {w : World} {A : Around} {dx n : Nat} (hh : A.handled = none) (I P : Addr) (hne : P ≠ I) (items : Array Value) (Ts : Nat → Addr) (vals : Nat → Array Value)
    (hit : ∀ j, j < items.size → items[j]? = some (.ref (Ts j))) (hTI : ∀ j, j < items.size → Ts j ≠ I) :
    WalksU prog w A I (I :: P :: (List.range items.size).map Ts) [I] items.size (fun j v => v = vals j)
      (fun j h => h.IsListIter I P j ∧ h.get? P = some (accO dx items n) ∧ ∀ k, k < items.size → h.IsTuple (Ts k) (vals k))
      (fun j T h => (j < items.size ∧ T = Ts j) ∧ h.IsListIter I P (j + 1) ∧ h.get? P = some (accO dx items n) ∧ ∀ k, k < items.size → h.IsTuple (Ts k) (vals k)) where
  sub := fun b hb => by simp at hb; simp [hb]
  frame := fun _ _ _ st hk => ⟨st.1.at fun o e => hk I (by simp) o e, hk P (by simp) _ st.2.1,
    fun k hk' => (st.2.2 k hk').at fun o e => hk (Ts k) (List.mem_cons_of_mem _ (List.mem_cons_of_mem _ (List.mem_map.mpr ⟨k, List.mem_range.mpr hk', rfl⟩))) o e⟩
  item := fun i s Q E hi st hQ => by
    refine acc_next st.1 st.2.1 (x := .ref (Ts i)) (hit i hi) fun h' hit' hs' => ?_
    have tup : ∀ k, k < items.size → h'.IsTuple (Ts k) (vals k) := fun k hk' => (st.2.2 k hk').extBut hs'.extBut (hTI k hk')
    exact hQ (Ts i) (vals i) h' s.toks rfl (tup i hi) ⟨⟨hi, rfl⟩, hit', hs'.extBut P _ hne st.2.1, tup⟩ fun b o hb e => hs'.extBut b o (fun h => hb (by simp [h])) e
  go := fun _ _ _ _ _ s Q _ hm hQ => wpAny_letOwnedTupleGo_listiter hm.2.1 (hQ s.heap hm.2 fun _ _ _ e => e)
  apart := fun j T _ hm hmem => by
    rcases List.mem_cons.mp hmem with e | e
    · exact hTI j hm.1.1 (hm.1.2 ▸ e)
    · cases e
  done := fun s Q E st hQ => acc_end hh st.1 st.2.1 (by simp) fun h' he' => hQ h' s.toks fun b o hb e => he' b o (fun h => hb (by simp [h])) e
  self := fun _ _ _ _ st hQ => wpAny_pyIter_listiter st.1 hQ
inductive GenMark : Prop | mk
end Mine
--LINES
local macro_rules | `(tactic| walk_at "eval GeneratorExp") => `(tactic| (k_here; k_dflt (refine Mine.halt_of ?_)))
local macro_rules | `(tactic| walk_at "call builtin:str.join") => `(tactic| (k_here; (with_reducible rename Mine.GenMark => gm'); k_dflt (refine Mine.halt_of ?_)))
local macro_rules | `(tactic| walk_at "newTuple") => `(tactic| (k_here; (with_reducible rename Mine.GenMark => gm'); k_dflt (refine Mine.halt_of ?_)))
local macro_rules | `(tactic| walk_at "eval Name") => `(tactic| (k_here; (with_reducible show wpAny _ _ (eval _ (genEnv _ _ _ _ _ _)) _ _ _); k_dflt (refine Mine.halt_of ?_)))
--END
namespace Mine
/-- the code of a generator expression: made the first time, found later -/
theorem gencode {M : Model} {A : Around} {s : Shared} {E : Value → Shared → Prop} {env : Env} {c P : Addr} {ps : Array Value} {pos : Pos} {qual : Str} {scope : Scope} {Q : Value → Shared → Prop} (hc : env.code = .ref c) (C : CodeHd s.heap c P) (hP : s.heap.get? P = some (tabObj ps))
    (hps : ps = #[] ∨ ∃ c', ps = #[rawInt pos.line, rawInt pos.col, .ref c'])
    (h : ∀ c' h₃ tk₃ ps₃, (∀ b o, b ≠ P → s.heap.get? b = some o → h₃.get? b = some o) → s.heap.objs.size ≤ h₃.objs.size → h₃.get? P = some (tabObj ps₃) → (ps₃ = #[] ∨ ∃ c', ps₃ = #[rawInt pos.line, rawInt pos.col, .ref c']) → Q (.ref c') { s with heap := h₃, toks := tk₃ }) :
    wpAny M A (genexprCode env pos qual scope) Q E s := by
  rcases hps with rfl | ⟨c', rfl⟩
  · refine wpAny_genexprCodeX hc (C.code hP trivial) (C.tab hP) rfl fun c' h₃ tk₃ hx₃ hge hlt hcode₃ _ htab₃ _ => ?_
    exact h c' h₃ tk₃ _ hx₃ (Nat.le_trans hge (Nat.le_of_lt hlt)) htab₃.2 (.inr ⟨c', rfl⟩)
  · refine wpAny_genexprCode_hit (c' := .ref c') hc (C.code hP (by simp [TriplesOk, rawInt])) (by simp [codeAmong, rawInt]) ?_
    exact h c' s.heap s.toks _ (fun b o _ e => e) (Nat.le_refl _) hP (.inr ⟨c', rfl⟩)
theorem join_two (x y : Str) : (Txt.join (sS []) [x, y]).length = x.length + y.length := by
  show (x.cps ++ (sS []).cps ++ y.cps).size = _
  simp [sS, Str.length]
theorem sum_le_of {α : Type} {f : α → Nat} {c : Nat} : ∀ (l : List α), (∀ q ∈ l, f q ≤ c) → (l.map f).sum ≤ l.length * c
  | [], _ => by simp
  | q :: l, h => by
    have h1 := h q (.head _)
    have h2 := sum_le_of l fun z hz => h z (.tail _ hz)
    rw [List.map_cons, List.sum_cons, List.length_cons, Nat.succ_mul]
    omega
/-- the code table of __str__: fresh, or with its generator expression's code -/
def StrTab (ps : Array Value) : Prop := ps = #[] ∨ ∃ c', ps = #[rawInt 108, rawInt 32, .ref c']
section
variable {w : World} {B : Heap} {p : Program} {loose : List Str} {mean : ExcName → Option Value} {mg mb : Str → Option Value} {A : Around} {s : Shared} {Q E : Value → Shared → Prop}
theorem str_c {P dx : Addr} {es : List DictEntry} {en : Nat} {vs : List Value} {tab : List (Str × Str)} {n : Nat} {ps : Array Value} (X : (hd.heap_1 w.params).In B) (T : Top p loose mean mg mb B) (hA : Room A 6) (st : B.StaysIn s.heap)
    (hP : s.heap.get? P = some (accO dx vs.toArray n)) (hdx : s.heap.get? dx = some (dictOf es en)) (hPB : B.get? P = none) (hdB : B.get? dx = none) (hes : getL (Str.ofString "__iter__") es = some none)
    (h123 : s.heap.get? 123 = some (tabObj ps)) (hB123 : B.get? 123 = none) (hps : StrTab ps) (hC : CodeHd B 127 123) (G : AllBare s.gens)
    (hR : RowsAre s.heap vs tab) (hlen : vs.length ≤ 100) (hsm : ∀ q ∈ tab, q.1.length ≤ 700 ∧ q.2.length ≤ 700)
    (hQ : ∀ h' tk' gens' t' ps', Keep [123] s.heap h' → h'.get? 123 = some (tabObj ps') → StrTab ps' → AllBare gens' → Q (.str (Txt.join (sS []) (tab.map fun q => Txt.join (sS []) [q.1, q.2])) t') { s with heap := h', toks := tk', gens := gens' }) :
    wpAny (model PySem.Challenge.rw_un0043_01.row.toRowW.prog w) A (call (.ref 128) [.ref P]) Q E s := by
  revert X; k_fill; intro X
  have Xs : (hd.heap_1 w.params).In s.heap := fun a o e => st a o (X a o e)
  refine wpAny_call ?_
  k_dflt (refine' enterM [(P, accO dx vs.toArray n), (dx, dictOf es en), (123, tabObj ps)] X T hA st ?hm ?ho ?hcd ?hb ?hl ?_ ?hc ?h1 ?h2 ?h3; (case hm => simpa using ⟨⟨hP, hPB⟩, ⟨hdx, hdB⟩, h123, hB123⟩); (case ho => k_is); (case hcd => k_is); (case hb => first | exact BindsTo.of_eq rfl | exact binds_K Xs rfl (by k_is) rfl rfl rfl); (case hl => exact locs rfl); (case hc => decide); (case h1 => exact rfl); (case h2 => exact rfl); (case h3 => exact rfl))
  intro g L h₁ hg hL F N X' T' st' hA'
  replace F : Fr g L h₁ (fun y' => List.lookup y' [(Str.ofString "self", .ref P)]) := F
  show wpAny _ _ _ _ _ _
  k_fold
  k_steps
  show wpAny _ _ (eval (.GeneratorExp _ _ _ _) _) _ _ _
  have gm9 := GenMark.mk
  obtain ⟨bm, ob, M⟩ := bmod_of_top T'
  have hsk : ∀ j : Nat, ∃ q : Addr × Array Value, j < vs.length → vs[j]? = some (.ref q.1) ∧ h₁.get? q.1 = some { cls := .type "tuple", data := .seq q.2 } ∧ ∃ z : Str × Str, ∃ t1 t2, tab[j]? = some z ∧ q.2 = #[.str z.1 t1, .str z.2 t2] := by
    intro j
    by_cases hj : j < vs.length
    · obtain ⟨r, k, y, tk, ty, e1, e2, e3⟩ := hR.2 j vs[j] (List.getElem?_eq_getElem hj)
      refine ⟨(r, #[.str k tk, .str y ty]), fun _ => ⟨by rw [List.getElem?_eq_getElem hj, e1], ?_, (k, y), tk, ty, e2, rfl⟩⟩
      refine F.keep _ _ (hg _ _ ?_ e3)
      intro hm
      simp only [List.map_cons, List.map_nil, List.mem_cons, List.not_mem_nil, or_false] at hm
      rcases hm with rfl | rfl | rfl
      · rw [hP] at e3; cases congrArg Obj.cls (Option.some.inj e3)
      · rw [hdx] at e3; cases congrArg Obj.data (Option.some.inj e3)
      · rw [h123] at e3; cases congrArg Obj.cls (Option.some.inj e3)
    · exact ⟨(0, #[]), fun h => absurd h hj⟩
  obtain ⟨TV, hTV⟩ := Classical.axiomOfChoice hsk
  have hP1 := (N _ (.head _)).1
  have hd1 := (N _ (.tail _ (.head _))).1
  have hT1 := (N _ (.tail _ (.tail _ (.head _)))).1
  have hLsz : L < h₁.objs.size := F.ns.lt
  have ne123 : ∀ b o, g.get? b = some o → b ≠ 123 := fun b o e q => by
    have := (N _ (.tail _ (.tail _ (.head _)))).2.2
    rw [q, this] at e; cases e
  refine wpAny_GeneratorExp_walksQTD (cl := []) hA'.hh rfl rfl (by decide) rfl rfl rfl (by decide) rfl hA'.depth ?_ (fun _ => rfl)
  k_steps
  show wpAny _ _ (pyIter _) _ _ _
  refine acc_iter (K := hd.heap_1 w.params) (od := some (dictOf es en)) (Frag.In.keeps X' F.keep) hP1 ⟨hP1, rfl, rfl, hd1⟩ (by k_is) (by k_is) (by k_is) ?_
  have kp2 : ∀ b o, h₁.get? b = some o → (h₁.push { cls := .type "list_iterator", data := .fields #[.ref P, .int 0 0] }).get? b = some o := fun b o e => Heap.get?_push_of_some _ e
  have hI2 : (h₁.push { cls := .type "list_iterator", data := .fields #[.ref P, .int 0 0] }).IsListIter h₁.objs.size P 0 := ⟨_, Heap.get?_push_size _ rfl, rfl, rfl⟩
  have hs2 : (h₁.push { cls := .type "list_iterator", data := .fields #[.ref P, .int 0 0] }).objs.size = h₁.objs.size + 1 := Heap.size_push ..
  generalize (h₁.push { cls := .type "list_iterator", data := .fields #[.ref P, .int 0 0] }) = h₂ at kp2 hI2 hs2
  dsimp only
  have F2 := F.keeps kp2
  refine ⟨T'.nolimit.keeps F2.keep, ?_⟩
  have wrI : ∀ b ∈ [h₁.objs.size], b = h₁.objs.size := fun b hb => List.mem_singleton.mp hb
  refine gencode (c := 127) (P := 123) (ps := ps) rfl (hC.keeps fun b o e => F2.keep b o (st' b o e)) (kp2 _ _ hT1) hps fun c' h₃ tk₃ ps₃ kp3 hs3 ht3 hst3 => ?_
  have kg3 : ∀ b o, g.get? b = some o → h₃.get? b = some o := fun b o e => kp3 b o (ne123 b o e) (F2.keep b o e)
  have M3 := M.keeps kg3
  refine wpAny_builtinsFor M3.ns M3.name M3.ne M3.obj M3.cls M3.dict M3.data ?_
  have hs31 : h₁.objs.size < h₃.objs.size := by
    have a : @LE.le Nat _ h₂.objs.size h₃.objs.size := hs3
    have b : @Eq Nat h₂.objs.size (h₁.objs.size + 1) := hs2
    show @LT.lt Nat _ _ _
    omega
  have hI123 : h₁.objs.size ≠ 123 := fun q => by rw [← q] at hT1; exact Nat.lt_irrefl _ (Heap.lt_size hT1)
  have hTV' : ∀ j, j < vs.toArray.size → vs.toArray[j]? = some (.ref (TV j).1) := fun j hj => by simpa using (hTV j (by simpa using hj)).1
  have hnI : ∀ j, j < vs.toArray.size → (TV j).1 ≠ h₁.objs.size := fun j hj => Nat.ne_of_lt (Heap.lt_size (hTV j (by simpa using hj)).2.1)
  have hn123 : ∀ j, j < vs.length → (TV j).1 ≠ 123 := fun j hj q => by
    have := (hTV j hj).2.1
    rw [q, hT1] at this; cases congrArg Obj.cls (Option.some.inj this)
  have hPI : P ≠ h₁.objs.size := Nat.ne_of_lt (Heap.lt_size hP1)
  have hP123 : P ≠ 123 := fun q => by rw [q, hT1] at hP1; cases congrArg Obj.cls (Option.some.inj hP1)
  refine ⟨h₁.objs.size, h₁.objs.size :: P :: (List.range vs.toArray.size).map (fun j => (TV j).1), [h₁.objs.size], vs.toArray.size, _, _, _, (fun _ => true), (fun i y => ∃ q t, tab[i]? = some q ∧ y = .str (Txt.join (sS []) [q.1, q.2]) t), rfl,
    (fun A' hA => (acc_walk (dx := dx) (n := n) hA h₁.objs.size P hPI vs.toArray (fun j => (TV j).1) (fun j => (TV j).2) hTV' hnI).bound), (fun i vals hv => ?_), ⟨?_, ?_, ?_⟩, (fun b hb => ?_), (T'.nolimit.keeps kg3), ?_, (fun href hhref => ?_), (fun a h₅ tk gs hgb hag hsz₅ hk₅ W hat => ?_)⟩
  · obtain ⟨hi, rfl⟩ := hv
    obtain ⟨z, t1, t2, _, e⟩ := (hTV i (by simpa using hi)).2.2
    exact ⟨_, _, e⟩
  · obtain ⟨o, e, r⟩ := hI2
    exact ⟨o, kp3 _ _ hI123 e, r⟩
  · exact kp3 _ _ hP123 (kp2 _ _ hP1)
  · intro k hk
    exact ⟨_, kp3 _ _ (hn123 k (by simpa using hk)) (kp2 _ _ (hTV k (by simpa using hk)).2.1), rfl, 0, rfl⟩
  · show @LT.lt Nat _ b h₃.objs.size
    rcases List.mem_cons.mp hb with rfl | hb
    · exact hs31
    · refine Nat.lt_trans ?_ hs31
      rcases List.mem_cons.mp hb with rfl | hb
      · exact Heap.lt_size hP1
      · obtain ⟨k, hk, rfl⟩ := List.mem_map.mp hb
        exact Heap.lt_size (hTV k (by simpa using List.mem_range.mp hk)).2.1
  · intro hm
    obtain ⟨_, hns, _⟩ := T'.nolimit
    have := Heap.lt_size (F.keep _ _ hns.choose_spec.choose_spec.choose_spec.1)
    rw [wrI _ hm] at this
    exact Nat.lt_irrefl _ this
  · have ghI : ∀ b o, g.get? b = some o → b ≠ h₁.objs.size := fun b o e q => by
      have := Heap.lt_size (F.keep b o e)
      rw [q] at this
      exact Nat.lt_irrefl _ this
    refine ⟨fun A' E' i va vb s₂ m₂ hA1 hD1 hU1 hPt hn1 hma hmb hkp => wpAny_tests_nil ⟨rfl, s₂.heap, s₂.toks, rfl, fun _ _ e => e⟩, fun A' E' i va vb s₂ m₂ hA1 hD1 hU1 hPt hpz hn1 hma hmb hkp => ?_⟩
    obtain ⟨hi, hv⟩ := hPt
    obtain ⟨z, t1, t2, hz, hv2⟩ := (hTV i (by simpa using hi)).2.2
    obtain ⟨rfl, rfl⟩ : va = .str z.1 t1 ∧ vb = .str z.2 t2 := by simpa using congrArg Array.toList (hv.trans hv2)
    have Fe : Fr g h₃.objs.size s₂.heap m₂ := ⟨hn1, fun b o e => hkp b (List.mem_range.mpr (Heap.lt_size (kg3 b o e))) (fun q => ghI b o e (wrI _ q)) o (hhref b o (kg3 b o e)), Nat.le_trans F.above (Nat.le_of_lt (Nat.lt_trans hLsz hs31))⟩
    have Ne : News g h₃.objs.size s₂.heap [] := fun _ h => nomatch h
    obtain ⟨h8, g8, d8, t8, os8⟩ := s₂
    dsimp only at Fe Ne hn1 hkp ⊢
    clear F F2 N
    have hEm : ∃ t, mg (Str.ofString "EMPTYSTRING") = some (.str (sS []) t) := ⟨_, mg_of X' T'.g (by k_is)⟩
    obtain ⟨tE, hEm⟩ := hEm
    k_steps
    show wpAny _ _ (eval _ _) _ _ _
    refine Name_function_global rfl rfl (loadGlobal_global (T'.g.keeps Fe.keep) hEm ?_)
    k_steps
    show wpAny _ _ (eval _ _) _ _ _
    refine ldVarG Fe hma ?_
    k_steps
    show wpAny _ _ (eval _ _) _ _ _
    refine ldVarG Fe hmb ?_
    k_steps
    show wpAny _ _ (newTuple _) _ _ _
    simp only [newTuple]
    refine wpAny_newObj_type ?_ (by size_fits)
    k_steps
    show wpAny _ _ (call _ _) _ _ _
    have hpush : ∀ b o, h8.get? b = some o → (h8.push { cls := .type "tuple", data := .seq #[.str z.1 t1, .str z.2 t2] }).get? b = some o := fun b o e => Heap.get?_push_of_some _ e
    have hzl := hsm z (List.mem_of_getElem? hz)
    refine join_tupleW (ys := [z.1, z.2]) ⟨_, Heap.get?_push_size _ rfl, rfl, 0, rfl⟩ (.cons _ _ (.cons _ _ .nil)) (by show (sS []).length ≤ 16; rw [sS_len]; exact Nat.zero_le _) (by simp; omega) fun t' k => ?_
    exact ⟨⟨z, t', hz, rfl⟩, _, _, rfl, hpush⟩
  · have nK : ∀ b o, g.get? b = some o → h₅.get? b = some o := fun b o e => hk₅ b o (kg3 b o e)
    have k13 : ∀ b o, b ≠ 123 → h₁.get? b = some o → h₅.get? b = some o := fun b o hb e => hk₅ b o (kp3 b o hb (kp2 b o e))
    have F5 : Fr g L h₅ (fun y' => List.lookup y' [(Str.ofString "self", .ref P)]) := by
      refine ⟨?_, nK, F.above⟩
      obtain ⟨o, es5, ep5, e5, d5, r5⟩ := F.ns
      refine ⟨o, es5, ep5, k13 _ _ (fun q => ?_) e5, d5, r5⟩
      rw [q, hT1] at e5
      rw [← Option.some.inj e5] at d5
      cases d5
    have N5 : News g L h₅ [(123, tabObj ps₃)] := fun p hp => by
      rw [List.mem_singleton.mp hp]
      exact ⟨hk₅ _ _ ht3, (N _ (.tail _ (.tail _ (.head _)))).2.1, (N _ (.tail _ (.tail _ (.head _)))).2.2⟩
    have k01 : Keep [123] s.heap h₅ := fun b o hb e => by
      have hb' : b ≠ 123 := fun q => hb (q ▸ .head _)
      refine k13 b o hb' ?_
      by_cases hbP : b = P
      · rw [hbP] at e ⊢; rw [hP] at e; cases e; exact hP1
      · by_cases hbd : b = dx
        · rw [hbd] at e ⊢; rw [hdx] at e; cases e; exact hd1
        · exact F.keep _ _ (hg b o (by simp only [List.map_cons, List.map_nil, List.mem_cons, List.not_mem_nil, or_false, not_or]; exact ⟨hbP, hbd, hb'⟩) e)
    have bs : ∀ b o, s.heap.get? b = some o → @LT.lt Nat _ b L := hL
    clear F F2 N
    k_steps
    show wpAny _ _ (call _ _) _ _ _
    rw [sE]
    refine SC.joinGen W.in4_2 (fun i s' st => st.1.typeIs) hat (fun b hb => ?_) (List.mem_cons_self ..) (fun i v hv => ?_) (fun s' lt hm hacc => ?_) (Nat.le_trans (Nat.le_trans (List.length_filter_le _ _) (by simpa using hlen)) (show 100 ≤ sizeLine by decide))
    · show @LT.lt Nat _ b h₅.objs.size
      rw [hsz₅]
      rcases List.mem_cons.mp hb with rfl | hb
      · exact Nat.lt_succ_self _
      · rcases List.mem_cons.mp hb with rfl | hb
        · exact Nat.lt_succ_of_lt hag
        · exact Nat.lt_succ_of_lt (Nat.lt_trans (List.mem_range.mp hb) hag)
    · obtain ⟨_, _, q, t, _, e⟩ := hv
      exact ⟨_, t, e⟩
    · have hps1 : passing (fun _ => true) vs.toArray.size 0 = List.range vs.length := by simp [passing]
      have hlt : lt.map (·.1) = tab.map fun q => Txt.join (sS []) [q.1, q.2] := by
        rw [hps1] at hacc
        have hz : lt.length = vs.length := by simpa [strValues] using hacc.1
        apply List.ext_getElem?
        intro j
        by_cases hj : j < lt.length
        · obtain ⟨i, hi, q, t, hq, e⟩ := hacc.2 j (.str lt[j].1 lt[j].2) (by simp [strValues, List.getElem?_eq_getElem hj])
          have hij : i = j := by
            rw [List.getElem?_range (by omega)] at hi
            exact (Option.some.inj hi).symm
          rw [hij] at hq
          injection e with e1 _
          rw [List.getElem?_map, List.getElem?_eq_getElem hj, List.getElem?_map, hq]
          simp [e1]
        · rw [List.getElem?_eq_none (by simpa using hj), List.getElem?_eq_none (by rw [List.length_map, ← hR.1, ← hz]; exact Nat.le_of_not_lt hj)]
      rw [hlt]
      refine ⟨joinOk_of_weight ?_ (by rw [sS_len]; exact Nat.zero_le _), fun t' k => ?_⟩
      · have e2 : ∀ q ∈ tab, (Txt.join (sS []) [q.1, q.2]).length ≤ 1400 := fun q hq => by
          have := hsm q hq
          rw [join_two]
          omega
        have := sum_le_of (f := fun q => (Txt.join (sS []) [q.1, q.2]).length) tab e2
        rw [List.map_map, List.length_map]
        have h3 := hR.1
        simp only [Function.comp_def]
        omega
      · have G' := (G.push hgb).movedS hm
        have ho := hm.os
        have hdr := hm.drawn
        have hh' := hm.heap
        obtain ⟨h9, g9, d9, t9, os9⟩ := s'
        dsimp only at G' ho hdr hh' ⊢
        subst ho hdr
        have k59 : ∀ b o, @LT.lt Nat _ b L → h₅.get? b = some o → h9.get? b = some o := fun b o hb e => hh' b o (fun q => by
          have hLI : @LT.lt Nat _ b h₁.objs.size := Nat.lt_trans hb hLsz
          rcases List.mem_cons.mp q with rfl | q
          · exact Nat.lt_irrefl _ (Nat.lt_trans hLI hs31)
          · rw [wrI b q] at hLI; exact Nat.lt_irrefl _ hLI) e
        clear N5 F5
        k_steps
        refine hQ h9 k g9 t' ps₃ (fun b o hb e => k59 b o (bs b o e) (k01 b o hb e)) (k59 _ _ (bs _ _ h123) (hk₅ _ _ ht3)) hst3 G'
end
end Mine
namespace Mine
/-- the lid of the number of a set closed at a depth -/
def bd : Nat → Nat
  | 1 => 65536 | 2 => 16 | 3 => 4 | 4 => 2 | 5 => 1 | _ => 0
theorem bd_or {ws : List Nat} {k : Nat} (h1 : 1 ≤ k) (h5 : k ≤ 5) (h : ∀ c ∈ ws, c < bd (k + 1)) : orAll ws < bd k := by
  have e : bd k = 2 ^ bd (k + 1) := by
    rcases k with _ | _ | _ | _ | _ | _ | k <;> first | omega | rfl
  rw [e]; exact orAll_lt h
theorem bd_le : ∀ k, bd k ≤ 65536 := fun k => by
  rcases k with _ | _ | _ | _ | _ | _ | k <;> first | decide | exact Nat.zero_le _
theorem bd_16 : ∀ k, 2 ≤ k → bd k ≤ 16 := fun k h => by
  rcases k with _ | _ | _ | _ | _ | _ | k <;> first | omega | decide | exact Nat.zero_le _
theorem wl_pre : ∀ a, a < 16 → ∀ b, b < 16 → (wl a).isPrefixOf (wl b) = decide (a = b) := by decide +kernel
theorem wl_ne (n : Nat) : wl n ≠ [] := by rw [wl_eq]; simp
theorem flat_inj : ∀ {as bs : List Nat}, (∀ a ∈ as, a < 16) → (∀ b ∈ bs, b < 16) → as.flatMap wl = bs.flatMap wl → as = bs
  | [], [], _, _, _ => rfl
  | [], b :: bs, _, _, e => by
    rw [List.flatMap_nil, List.flatMap_cons] at e
    exact absurd (List.append_eq_nil_iff.mp e.symm).1 (wl_ne b)
  | a :: as, [], _, _, e => by
    rw [List.flatMap_nil, List.flatMap_cons] at e
    exact absurd (List.append_eq_nil_iff.mp e).1 (wl_ne a)
  | a :: as, b :: bs, ha, hb, e => by
    rw [List.flatMap_cons, List.flatMap_cons] at e
    have a16 := ha a (.head _)
    have b16 := hb b (.head _)
    have hab : a = b := by
      rcases List.append_eq_append_iff.mp e with ⟨x, h1, _⟩ | ⟨x, h1, _⟩
      · have := wl_pre a a16 b b16
        rw [List.isPrefixOf_iff_prefix.mpr ⟨x, h1.symm⟩] at this
        exact of_decide_eq_true this.symm
      · have := wl_pre b b16 a a16
        rw [List.isPrefixOf_iff_prefix.mpr ⟨x, h1.symm⟩] at this
        exact (of_decide_eq_true this.symm).symm
    subst hab
    rw [flat_inj (fun c hc => ha c (.tail _ hc)) (fun c hc => hb c (.tail _ hc)) (List.append_cancel_left e)]
theorem wl_inj {n m : Nat} (hn : n < 65536) (hm : m < 65536) (e : wl n = wl m) : n = m := by
  rw [wl_eq, wl_eq m, List.cons_append, List.cons_append] at e
  have e2 := flat_inj (fun _ h => desc_lt h) (fun _ h => desc_lt h) (List.append_cancel_right (List.cons.inj e).2)
  apply Nat.eq_of_testBit_eq
  intro k
  by_cases hk : k < 16
  · have h1 := desc_mem n 16 k
    have h2 := desc_mem m 16 k
    rw [e2] at h1
    have : n.testBit k = true ↔ m.testBit k = true := ⟨fun x => (h2.mp (h1.mpr ⟨hk, x⟩)).2, fun x => (h1.mp (h2.mpr ⟨hk, x⟩)).2⟩
    exact Bool.eq_iff_iff.mpr this
  · have hp : 65536 ≤ 2 ^ k := Nat.le_trans (show 65536 ≤ 2 ^ 16 by decide) (Nat.pow_le_pow_right (by decide) (Nat.le_of_not_lt hk))
    rw [Nat.testBit_lt_two_pow (Nat.lt_of_lt_of_le hn hp), Nat.testBit_lt_two_pow (Nat.lt_of_lt_of_le hm hp)]
theorem sW_inj {n m : Nat} (hn : n < 65536) (hm : m < 65536) (e : sW n = sW m) : n = m := wl_inj hn hm (sS_inj e)
/-- the table of the closed sets -/
def tabOf (bk : List (Bool × Nat)) : List (Str × Str) := bk.map fun q => (sp q.1 q.2, nmS q.2)
theorem told_tab : ∀ {bk : List (Bool × Nat)}, (∀ q ∈ bk, q.2 < 65536) → ∀ {n}, n < 65536 → told (tabOf bk) (sW n) = if n ∈ bk.map (·.2) then some (nmS n) else none
  | [], _, n, _ => by simp [tabOf, told]
  | q :: bk, hb, n, hn => by
    have ih := told_tab (bk := bk) (fun q hq => hb q (.tail _ hq)) hn
    have lw : Txt.lower (sW n) = sW n := sp_low false n
    unfold told tabOf at *
    rw [List.map_cons, List.find?_cons]
    simp only [sp_low, lw] at ih ⊢
    by_cases h : q.2 = n
    · subst h
      simp
    · have : (sW q.2 == sW n) = false := beq_false_of_ne fun e => h (sW_inj (hb q (.head _)) hn e)
      rw [this]
      simp only
      rw [ih]
      simp [Ne.symm h]
theorem tab_at {bk : List (Bool × Nat)} : ∀ q ∈ tabOf bk, q.1.length ≤ 700 ∧ q.2.length ≤ 700 → q.1.length ≤ 700 := fun _ _ h => h.1
theorem tab_len {bk : List (Bool × Nat)} : ∀ q ∈ tabOf bk, q.1.length ≤ 700 := fun q hq => by
  obtain ⟨r, _, rfl⟩ := List.mem_map.mp hq
  exact Nat.le_trans (Nat.le_of_eq (sp_len r.1 r.2)) (Nat.le_trans (wl_len r.2) (by decide))
/-- the pile's pieces -/
def pTab : List (List Nat) → List (Str × Str)
  | [] => []
  | r :: rs => r.map wpc ++ rs.flatMap fun r => opc :: r.map wpc
def pTxt : List (List Nat) → List Nat
  | [] => []
  | r :: rs => r.flatMap wl ++ rs.flatMap fun r => 98 :: r.flatMap wl
theorem pTab_open {lo : List (List Nat)} (h : lo ≠ []) : pTab (lo ++ [[]]) = pTab lo ++ [opc] := by
  cases lo with
  | nil => exact absurd rfl h
  | cons r rs => simp [pTab]
theorem pTab_top (ini : List (List Nat)) (r ws : List Nat) : pTab (ini ++ [r, ws]) = pTab (ini ++ [r]) ++ opc :: ws.map wpc := by
  cases ini with
  | nil => simp [pTab]
  | cons a ini => simp [pTab, List.append_assoc]
theorem pTab_put (ini : List (List Nat)) (r : List Nat) (c : Nat) : pTab (ini ++ [r ++ [c]]) = pTab (ini ++ [r]) ++ [wpc c] := by
  cases ini with
  | nil => simp [pTab]
  | cons a ini => simp [pTab, List.append_assoc]
/-- pieces -/
def pcs (lo : List (List Nat)) : Nat := (pTab lo).length
/-- what stands between two signs: the rows, the table, so many signs read -/
structure St (lo : List (List Nat)) (bk : List (Bool × Nat)) (i d : Nat) : Prop where
  len : lo.length = d + 1
  lev : ∀ j r, lo[j]? = some r → ∀ c ∈ r, c < bd (j + 1)
  few : pcs lo ≤ i
  bks : ∀ q ∈ bk, q.2 < 65536
  bkl : bk.length ≤ i
  all : ∀ r ∈ lo, ∀ c ∈ r, c ∈ bk.map (·.2)
theorem St.start : St [[]] [] 0 0 where
  len := rfl
  lev := fun j r h c hc => by
    cases j with
    | zero => simp at h; subst h; cases hc
    | succ j => simp at h
  few := Nat.le_refl _
  bks := fun _ h => nomatch h
  bkl := Nat.le_refl _
  all := fun r h c hc => by rw [List.mem_singleton.mp h] at hc; cases hc
theorem St.up {lo : List (List Nat)} {bk : List (Bool × Nat)} {i d : Nat} (x : St lo bk i d) : St (lo ++ [[]]) bk (i + 1) (d + 1) where
  len := by rw [List.length_append, x.len]; rfl
  lev := fun j r h c hc => by
    rw [List.getElem?_append] at h
    split at h
    · exact x.lev j r h c hc
    · rename_i hj
      cases hk : j - lo.length with
      | zero => rw [hk] at h; simp at h; subst h; cases hc
      | succ k => rw [hk] at h; simp at h
  few := by
    have hne : lo ≠ [] := fun e => by have := x.len; rw [e] at this; cases this
    rw [pcs, pTab_open hne, List.length_append]
    exact Nat.succ_le_succ x.few
  bks := x.bks
  bkl := Nat.le_succ_of_le x.bkl
  all := fun r h c hc => by
    rcases List.mem_append.mp h with h | h
    · exact x.all r h c hc
    · rw [List.mem_singleton.mp h] at hc; cases hc
/-- the top two rows -/
theorem St.split {lo : List (List Nat)} {bk : List (Bool × Nat)} {i d : Nat} (x : St lo bk i (d + 1)) : ∃ ini r ws, lo = ini ++ [r, ws] ∧ ini.length = d := by
  have h1 : lo ≠ [] := fun e => by have := x.len; rw [e] at this; cases this
  obtain ⟨a, ws, rfl⟩ : ∃ a ws, lo = a ++ [ws] := ⟨lo.dropLast, lo.getLast h1, (List.dropLast_concat_getLast h1).symm⟩
  have hl := x.len
  rw [List.length_append] at hl
  have h2 : a ≠ [] := fun e => by rw [e] at hl; simp at hl
  obtain ⟨b, r, rfl⟩ : ∃ b r, a = b ++ [r] := ⟨a.dropLast, a.getLast h2, (List.dropLast_concat_getLast h2).symm⟩
  refine ⟨b, r, ws, by simp, ?_⟩
  simp at hl
  omega
section
variable {ini : List (List Nat)} {r ws : List Nat} {bk : List (Bool × Nat)} {i d : Nat}
theorem St.top_lt (x : St (ini ++ [r, ws]) bk i (d + 1)) (hl : ini.length = d) : ∀ c ∈ ws, c < bd (d + 2) := x.lev (d + 1) ws (by
  rw [List.getElem?_append_right (by omega), show d + 1 - ini.length = 1 by omega]; rfl)
theorem St.top16 (x : St (ini ++ [r, ws]) bk i (d + 1)) (hl : ini.length = d) : ∀ c ∈ ws, c < 16 := fun c hc => Nat.lt_of_lt_of_le (x.top_lt hl c hc) (bd_16 _ (by omega))
theorem St.new_lt (x : St (ini ++ [r, ws]) bk i (d + 1)) (hl : ini.length = d) (hd : d < 5) : orAll ws < bd (d + 1) := bd_or (by omega) (by omega) (x.top_lt hl)
theorem St.new16 (x : St (ini ++ [r, ws]) bk i (d + 1)) (hl : ini.length = d) (hd : d < 5) : orAll ws < 65536 := Nat.lt_of_lt_of_le (x.new_lt hl hd) (bd_le _)
theorem St.few2 (x : St (ini ++ [r, ws]) bk i (d + 1)) : pcs (ini ++ [r]) + 1 + ws.length ≤ i := by
  have h := x.few
  rw [pcs, pTab_top, List.length_append, List.length_cons, List.length_map] at h
  show (pTab (ini ++ [r])).length + 1 + ws.length ≤ i
  omega
/-- the table behind a closing sign -/
def bkNext (bk : List (Bool × Nat)) (u : Bool) (n : Nat) : List (Bool × Nat) := if n ∈ bk.map (·.2) then bk else bk ++ [(u, n)]
theorem St.down (x : St (ini ++ [r, ws]) bk i (d + 1)) (hl : ini.length = d) (hd : d < 5) (u : Bool) : St (ini ++ [r ++ [orAll ws]]) (bkNext bk u (orAll ws)) (i + 1) d where
  len := by simp [hl]
  lev := fun j q h c hc => by
    by_cases hj : j < d
    · refine x.lev j q ?_ c hc
      rw [List.getElem?_append_left (by omega)] at h ⊢
      exact h
    · rw [List.getElem?_append_right (by omega)] at h
      cases hk : j - ini.length with
      | zero =>
        rw [hk] at h
        simp at h
        subst h
        have hjd : j = d := by omega
        subst hjd
        rcases List.mem_append.mp hc with hc | hc
        · exact x.lev j r (by rw [List.getElem?_append_right (by omega), hl]; simp) c hc
        · rw [List.mem_singleton.mp hc]; exact x.new_lt hl hd
      | succ k => rw [hk] at h; simp at h
  few := by
    have h := x.few2
    rw [pcs, pTab_put, List.length_append, List.length_singleton]
    show pcs (ini ++ [r]) + 1 ≤ i + 1
    omega
  bks := fun q hq => by
    unfold bkNext at hq
    split at hq
    · exact x.bks q hq
    · rcases List.mem_append.mp hq with hq | hq
      · exact x.bks q hq
      · rw [List.mem_singleton.mp hq]; exact x.new16 hl hd
  bkl := by
    unfold bkNext
    have := x.bkl
    split
    · omega
    · rw [List.length_append]; simp; exact this
  all := fun q h c hc => by
    have old : ∀ z, z ∈ bk.map (·.2) → z ∈ (bkNext bk u (orAll ws)).map (·.2) := fun z hz => by
      unfold bkNext
      split
      · exact hz
      · rw [List.map_append]; exact List.mem_append_left _ hz
    have new : orAll ws ∈ (bkNext bk u (orAll ws)).map (·.2) := by
      unfold bkNext
      split
      · assumption
      · simp
    rcases List.mem_append.mp h with h | h
    · exact old c (x.all q (List.mem_append_left _ h) c hc)
    · rw [List.mem_singleton.mp h] at hc
      rcases List.mem_append.mp hc with hc | hc
      · exact old c (x.all r (by simp) c hc)
      · rw [List.mem_singleton.mp hc]; exact new
theorem St.told (x : St (ini ++ [r, ws]) bk i (d + 1)) : ∀ c ∈ ws, Mine.told (tabOf bk) (sp true c) = some (nmS c) := fun c hc => by
  have hm := x.all ws (by simp) c hc
  obtain ⟨q, hq, e⟩ := List.mem_map.mp hm
  rw [told_sp, told_tab x.bks (by rw [← e]; exact x.bks q hq), if_pos hm]
end
theorem tabOf_next {bk : List (Bool × Nat)} (hb : ∀ q ∈ bk, q.2 < 65536) {n : Nat} (hn : n < 65536) (u : Bool) :
    (match told (tabOf bk) (sW n) with | some _ => tabOf bk | none => tabOf bk ++ [(sp u n, nmS n)]) = tabOf (bkNext bk u n) := by
  rw [told_tab hb hn]
  unfold bkNext
  by_cases h : n ∈ bk.map (·.2)
  · rw [if_pos h, if_pos h]
  · rw [if_neg h, if_neg h]; simp [tabOf]
/-- joined without a sign between -/
theorem join_sS (ls : List (List Nat)) : Txt.join (sS []) (ls.map sS) = sS ls.flatten := by
  have go : ∀ (ls : List (List Nat)) (a : List Nat), ((ls.map sS).foldl (fun acc p => acc ++ (sS []).cps ++ p.cps) a.toArray) = (a ++ ls.flatten).toArray := by
    intro ls
    induction ls with
    | nil => intro a; simp
    | cons l ls ih =>
      intro a
      rw [List.map_cons, List.foldl_cons]
      have : a.toArray ++ (sS []).cps ++ (sS l).cps = (a ++ l).toArray := by simp [sS]
      rw [this, ih (a ++ l)]
      simp
  cases ls with
  | nil => rfl
  | cons l ls =>
    show Str.mk (((ls.map sS)).foldl (fun acc p => acc ++ (sS []).cps ++ p.cps) l.toArray) = _
    rw [go ls l]
    simp [sS]
/-- the pile's text -/
theorem pile_join (lo : List (List Nat)) : Txt.join (sS []) ((pTab lo).map fun q => Txt.join (sS []) [q.1, q.2]) = sS (pTxt lo) := by
  have w1 : ∀ c, Txt.join (sS []) [(wpc c).1, (wpc c).2] = sS (wl c) := fun c => (join_sS [[], wl c]).trans (by simp)
  have o1 : Txt.join (sS []) [opc.1, opc.2] = sS [98] := (join_sS [[98], []]).trans (by simp)
  have wr : ∀ r : List Nat, (r.map wpc).map (fun q => Txt.join (sS []) [q.1, q.2]) = (r.map wl).map sS := fun r => by
    rw [List.map_map, List.map_map]; exact List.map_congr_left fun c _ => w1 c
  have ow : ∀ rs : List (List Nat), (rs.flatMap fun r => opc :: r.map wpc).map (fun q => Txt.join (sS []) [q.1, q.2]) = (rs.flatMap fun r => [98] :: r.map wl).map sS := fun rs => by
    rw [List.map_flatMap, List.map_flatMap]
    congr 1
    funext r
    rw [List.map_cons, wr, o1]
    rfl
  cases lo with
  | nil => rfl
  | cons r rs =>
    rw [pTab, List.map_append, wr, ow, ← List.map_append, join_sS, pTxt]
    congr 1
    rw [List.flatten_append]
    congr 1
    rw [List.flatten_eq_flatMap, List.flatMap_assoc]
    congr 1
    funext r
    rw [List.flatMap_cons]
    show [98] ++ _ = _
    rw [← List.flatten_eq_flatMap]
    rfl
end Mine
namespace Mine
/-- the pairs themselves, for a ledger -/
def ownOf (h : Heap) (vs : List Value) : List (Addr × Obj) := vs.filterMap fun v => match v with
  | .ref r => (h.get? r).map fun o => (r, o)
  | _ => none
theorem own_at {h : Heap} {vs : List Value} {r : Addr} {o : Obj} (hr : Value.ref r ∈ vs) (e : h.get? r = some o) : (r, o) ∈ ownOf h vs :=
  List.mem_filterMap.mpr ⟨_, hr, by simp [e]⟩
theorem own_of {h : Heap} {vs : List Value} : ∀ p ∈ ownOf h vs, Value.ref p.1 ∈ vs ∧ h.get? p.1 = some p.2 := fun p hp => by
  obtain ⟨v, hv, e⟩ := List.mem_filterMap.mp hp
  cases v with
  | ref r =>
    obtain ⟨o, ho, rfl⟩ := Option.map_eq_some_iff.mp e
    exact ⟨hv, ho⟩
  | _ => cases e
theorem own_pair {h : Heap} {vs : List Value} {tab : List (Str × Str)} (R : RowsAre h vs tab) : ∀ p ∈ ownOf h vs, ∃ u v, p.2 = pairO u v := fun p hp => by
  obtain ⟨hv, e⟩ := own_of p hp
  obtain ⟨i, hi⟩ := List.getElem?_of_mem hv
  obtain ⟨r, k, y, tk, ty, e1, _, e3⟩ := R.2 i _ hi
  cases e1
  rw [e] at e3
  exact ⟨_, _, Option.some.inj e3⟩
theorem own_get {h : Heap} {vs : List Value} {tab : List (Str × Str)} (R : RowsAre h vs tab) {i : Nat} {v : Value} (hv : vs[i]? = some v) : ∃ (r : Addr) (k y : Str) (tk ty : Tok), v = Value.ref r ∧ tab[i]? = some (k, y) ∧ (r, pairO (.str k tk) (.str y ty)) ∈ ownOf h vs := by
  obtain ⟨r, k, y, tk, ty, rfl, e2, e3⟩ := R.2 i v hv
  exact ⟨r, k, y, tk, ty, rfl, e2, own_at (List.mem_of_getElem? hv) e3⟩
theorem own_news {h : Heap} {vs : List Value} {B : Heap} (f : Frs B vs) : ∀ p ∈ ownOf h vs, h.get? p.1 = some p.2 ∧ B.get? p.1 = none := fun p hp => ⟨(own_of p hp).2, f _ (own_of p hp).1⟩
theorem stays_of {h g h' : Heap} {L : Addr} {m : Str → Option Value} {muts led : List (Addr × Obj)} (hg : Keep (muts.map (·.1)) h g) (F : Fr g L h' m) (N : News g L h' led) (sub : ∀ p ∈ muts, p ∈ led) (hm : ∀ p ∈ muts, h.get? p.1 = some p.2) : h.StaysIn h' := fun b o e => by
  by_cases hb : b ∈ muts.map (·.1)
  · obtain ⟨q, hq, rfl⟩ := List.mem_map.mp hb
    rw [hm q hq] at e
    rw [(N q (sub q hq)).1, e]
  · exact F.keep _ _ (hg b o hb e)
theorem new_of {h g h' : Heap} {L : Addr} {muts led : List (Addr × Obj)} {D : Addr} {o : Obj} (hg : Keep (muts.map (·.1)) h g) (N : News g L h' led) (hD : (D, o) ∈ led) (hne : D ∉ muts.map (·.1)) : h.get? D = none := by
  cases e : h.get? D with
  | none => rfl
  | some o' =>
    have := hg D o' hne e
    rw [(N _ hD).2.2] at this
    cases this
theorem off1_mem {D : Addr} {l : List (Addr × Obj)} (h : LCg.Off1 D l) : ∀ p ∈ l, p.1 ≠ D := by
  induction l with
  | nil => intro p hp; cases hp
  | cons q r ih =>
    obtain ⟨h1, h2⟩ := h
    intro p hp
    rcases List.mem_cons.mp hp with rfl | hp
    · exact h1
    · exact ih h2 p hp
/-- StrsAre from single items -/
theorem strs_from : ∀ {ss : List Str} {ys : List Value}, ys.length = ss.length → (∀ (i : Nat) (y : Value), ys[i]? = some y → ∃ x t, ss[i]? = some x ∧ y = Value.str x t) → StrsAre ys ss
  | [], [], _, _ => .nil
  | [], _ :: _, h, _ => by simp at h
  | _ :: _, [], h, _ => by simp at h
  | x :: ss, y :: ys, h, hy => by
    obtain ⟨x', t, e1, rfl⟩ := hy 0 y rfl
    cases e1
    exact .cons _ t (strs_from (by simpa using h) fun i z hz => hy (i + 1) z (by simpa using hz))
section
variable {prog : Program} {w : World} {A : Around} {s : Shared} {h₀ : Heap} {L : Addr} {m : Str → Option Value} {env : Env} {elt : Expr} {x x₂ : Str} {scope : Scope} {cl : List (Str × Addr)} {S : List (Addr × Obj) → Prop} {P : Nat → Value → Prop} {Fin : List Value → List (Addr × Obj) → Prop} {news : List (Addr × Obj)}
theorem comp_restP (R : Nat → Value → Prop) (G : Nat → Value → Value → Prop) {n : Nat} (hS : S news)
    (pairs : ∀ i v, i < n → P i v → ∃ t v₁ v₂, v = .ref t ∧ (t, pairO v₁ v₂) ∈ news ∧ G i v₁ v₂)
    (turn : ∀ i v₁ v₂ I oI C oC D m₂ h tk (E' : Value → Shared → Prop) ys, i < n → G i v₁ v₂ → LCg.NsObj oC m₂ → m₂ x = some v₁ → m₂ x₂ = some v₂ → Fr h₀ L h m → News h₀ L h ((I, oI) :: (C, oC) :: (D, LCg.lst ys) :: news) → LCg.Off3 I C D news → ((@Ne Nat I C) ∧ (@Ne Nat I D) ∧ (@Ne Nat C D)) →
      wpAny (model prog w) A (eval elt (compEnvC scope cl C env)) (CPost h₀ L m { s with heap := h, toks := tk } ((I, oI) :: (C, oC) :: (D, LCg.lst ys) :: news) (R i)) E' { s with heap := h, toks := tk })
    (fin : ∀ ys : List Value, ys.length = n → (∀ (i : Nat) (y : Value), ys[i]? = some y → R i y) → Fin ys news) : LCp.CompRestP prog w A h₀ L m env elt x x₂ scope cl s S P Fin n 0 [] news := by
  have step : ∀ (k i : Nat) (ys : List Value), i + k = n → ys.length = i → (∀ (j : Nat) (y : Value), ys[j]? = some y → R j y) → LCp.CompRestP prog w A h₀ L m env elt x x₂ scope cl s S P Fin k i ys news := by
    intro k
    induction k with
    | zero => intro i ys e hl hy; exact LCp.CompRestP.zero (fin ys (by omega) hy)
    | succ k ih =>
      intro i ys e hl hy
      refine LCp.CompRestP.succ ?_
      intro v hv
      obtain ⟨t, v₁, v₂, rfl, hm, hG⟩ := pairs i v (by omega) hv
      refine ⟨t, _, v₁, v₂, 0, rfl, hm, rfl, rfl, ?_⟩
      intro I oI C oC D m₂ h tk E' hC hx hx₂ F N off ne
      refine wpAny_mono (turn i v₁ v₂ I oI C oC D m₂ h tk E' ys (by omega) hG hC hx hx₂ F N off ne) (fun y s₂ hp => ?_) fun _ _ e => e
      obtain ⟨hR, h', tk', rfl, F', N'⟩ := hp
      refine LCg.CompEnd.intro F' N' news (fun _ h => h) off hS (ih (i + 1) (ys ++ [y]) (by omega) (by simp [hl]) fun j z hz => ?_)
      rcases Nat.lt_or_ge j ys.length with hj | hj
      · rw [List.getElem?_append_left hj] at hz; exact hy j z hz
      · rw [List.getElem?_append_right hj] at hz
        have hj0 : j - ys.length = 0 := by
          rcases Nat.eq_zero_or_pos (j - ys.length) with h | h
          · exact h
          · rw [List.getElem?_eq_none (by simp; omega)] at hz; cases hz
        rw [hj0] at hz
        have : j = i := by omega
        rw [this, ← Option.some.inj hz]; exact hR
  exact step n 0 [] (Nat.zero_add n) rfl fun _ _ h => by simp at h
end
section
variable {w : World} {B : Heap} {p : Program} {loose : List Str} {mean : ExcName → Option Value} {mg mb : Str → Option Value} {A : Around} {s : Shared} {Q E : Value → Shared → Prop}
/-- str of an _Accumulator -/
theorem strcall_c {P dx : Addr} {hs : Int} {tt ti : Tok} {en : Nat} {vs : List Value} {tab : List (Str × Str)} {n : Nat} {ps : Array Value} (X : (hd.heap_1 w.params).In B) (T : Top p loose mean mg mb B) (hA : Room A 8) (st : B.StaysIn s.heap)
    (hP : s.heap.get? P = some (accO dx vs.toArray n)) (hdx : s.heap.get? dx = some (dictOf (accE hs tt ti) en)) (hPB : B.get? P = none) (hdB : B.get? dx = none)
    (h123 : s.heap.get? 123 = some (tabObj ps)) (hB123 : B.get? 123 = none) (hps : StrTab ps) (hC : CodeHd B 127 123) (G : AllBare s.gens)
    (hR : RowsAre s.heap vs tab) (hlen : vs.length ≤ 100) (hsm : ∀ q ∈ tab, q.1.length ≤ 700 ∧ q.2.length ≤ 700)
    (hQ : ∀ h' tk' gens' t' ps', Keep [123] s.heap h' → h'.get? 123 = some (tabObj ps') → StrTab ps' → AllBare gens' → Q (.str (Txt.join (sS []) (tab.map fun q => Txt.join (sS []) [q.1, q.2])) t') { s with heap := h', toks := tk', gens := gens' }) :
    wpAny (model PySem.Challenge.rw_un0043_01.row.toRowW.prog w) A (call (.type "str") [.ref P]) Q E s := by
  have X0 := X
  revert X; k_fill; intro X
  have Xs : (hd.heap_1 w.params).In s.heap := fun a o e => st a o (X a o e)
  refine kso_call (K := hd.heap_1 w.params) (C := 154) (f := 128) (od := some (dictOf (accE hs tt ti) en)) ?_ Xs ⟨hP, rfl, rfl, hdx⟩ (by k_is) (by k_is) ?_
  · have := hA.hu
    show A.units + 1 + 1 < cLine
    omega
  · refine str_c X0 T ⟨hA.hh, ?_, ?_⟩ st hP hdx hPB hdB rfl h123 hB123 hps hC G hR hlen hsm fun h' tk' gens' t' ps' a b c d => hQ h' tk' gens' t' ps' a b c d
    · have := hA.hd
      show A.depth + 6 < recursionLimit
      omega
    · have := hA.hu
      show A.units + 1 + 1 + 10 * 6 < cLine
      omega
theorem keys_c {H dh l : Addr} {tt : Tok} {hs : Int} {n k : Nat} (X : (hd.heap_1 w.params).In B) (T : Top p loose mean mg mb B) (hA : Room A 6) (st : B.StaysIn s.heap)
    (hH : s.heap.get? H = some (hdO dh)) (hdd : s.heap.get? dh = some (dictOf (hdE hs tt l) n)) (hHB : B.get? H = none) (hdB : B.get? dh = none) (hlB : B.get? l = none)
    {vs : List Value} {tab : List (Str × Str)} (hl : s.heap.get? l = some (W.listOf vs.toArray k)) (hlen : vs.length ≤ 100) (hR : RowsAre s.heap vs tab) (hf : Frs B vs)
    (hQ : ∀ h' tk' D k' ys, s.heap.get? D = none → h'.get? D = some (W.listOf (List.toArray ys) k') → StrsAre ys (tab.map (·.1)) → s.heap.StaysIn h' → Q (.ref D) { s with heap := h', toks := tk' }) :
    wpAny (model PySem.Challenge.rw_un0043_01.row.toRowW.prog w) A (call (.ref 243) [.ref H]) Q E s := by
  revert X; k_fill; intro X
  have Xs : (hd.heap_1 w.params).In s.heap := fun a o e => st a o (X a o e)
  have hmut : ∀ q ∈ [(H, hdO dh), (dh, dictOf (hdE hs tt l) n), (l, W.listOf vs.toArray k)] ++ ownOf s.heap vs, s.heap.get? q.1 = some q.2 ∧ B.get? q.1 = none := by
    intro q hq
    rcases List.mem_append.mp hq with hq | hq
    · simp only [List.mem_cons, List.not_mem_nil, or_false] at hq
      rcases hq with rfl | rfl | rfl
      · exact ⟨hH, hHB⟩
      · exact ⟨hdd, hdB⟩
      · exact ⟨hl, hlB⟩
    · exact own_news hf q hq
  refine wpAny_call ?_
  k_dflt (refine' enterM ([(H, hdO dh), (dh, dictOf (hdE hs tt l) n), (l, W.listOf vs.toArray k)] ++ ownOf s.heap vs) X T hA st ?hm ?ho ?hcd ?hb ?hl ?_ ?hc ?h1 ?h2 ?h3; (case hm => exact hmut); (case ho => k_is); (case hcd => k_is); (case hb => first | exact BindsTo.of_eq rfl | exact binds_K Xs rfl (by k_is) rfl rfl rfl); (case hl => exact locs rfl); (case hc => decide); (case h1 => exact rfl); (case h2 => exact rfl); (case h3 => exact rfl))
  intro g L h₁ hg hL F N X' T' st' hA'
  replace F : Fr g L h₁ (fun z => List.lookup z [(Str.ofString "self", .ref H)]) := F
  replace N : News g L h₁ ((H, hdO dh) :: (dh, dictOf (hdE hs tt l) n) :: (l, W.listOf vs.toArray k) :: ownOf s.heap vs) := N
  have hog : ∀ {i : Nat} {v : Value}, vs[i]? = some v → ∃ (r : Addr) (k y : Str) (tk ty : Tok), v = Value.ref r ∧ tab[i]? = some (k, y) ∧ (r, pairO (.str k tk) (.str y ty)) ∈ ownOf s.heap vs := own_get hR
  have hop := own_of (h := s.heap) (vs := vs)
  generalize ownOf s.heap vs = own at N hog hop hg hmut
  show wpAny _ _ _ _ _ _
  k_fold
  k_steps
  show wpAny _ _ (eval _ _) _ _ _
  refine LCp.ListComp_P (cl := []) F (by with_unfolding_all rfl) (by decide) (by rfl) (by decide) (by rfl) (by rfl) (by decide) ?_
  k_steps
  refine LCp.SrcLP.ledger (k := k) hA'.hh F N (.tail _ (.tail _ (.head _))) (Nat.le_trans (by simpa using hlen : _ ≤ 100) (by decide : 100 ≤ sizeLine)) ?_
  intro g2
  refine comp_restP (fun i y => ∃ x t, (tab.map (·.1))[i]? = some x ∧ y = Value.str x t) (fun i v₁ v₂ => ∃ q t1 t2, tab[i]? = some q ∧ v₁ = .str q.1 t1 ∧ v₂ = .str q.2 t2) (.inr ⟨_, .tail _ (.tail _ (.head _)), rfl, _, rfl⟩) ?_ ?_ ?_
  · intro i v hi hv
    obtain ⟨r, x1, y1, t1, t2, rfl, e2, e3⟩ := hog (by simpa using hv)
    exact ⟨r, _, _, rfl, .tail _ (.tail _ (.tail _ e3)), (x1, y1), t1, t2, e2, rfl, rfl⟩
  · clear F N
    intro i v₁ v₂ I oI C oC D m₂ h12 tk12 E' ys hi hv12 hC12 hx12 hy12 F12 N12 off12 ne12
    obtain ⟨q, t1, t2, hq, rfl, rfl⟩ := hv12
    k_steps
    rename Fr g L _ _ => F13
    rename News g L _ _ => N13
    exact ⟨⟨q.1, t1, by rw [List.getElem?_map, hq]; rfl, rfl⟩, _, _, rfl, F13, N13⟩
  · clear F N
    intro ys hy hR9 D h8 tk8 F8 N8 o8
    k_steps
    refine hQ h8 _ D _ ys (new_of (o := LCg.lst ys) hg N8 (.head _) ?_) (N8 _ (.head _)).1 (strs_from (by rw [List.length_map, ← hR.1, hy]; simp) hR9) (stays_of hg F8 N8 (fun p hp => List.mem_cons_of_mem _ hp) ?_)
    · intro hm
      obtain ⟨q, hq, e⟩ := List.mem_map.mp hm
      exact off1_mem o8 q hq e
    · intro q hq
      exact (hmut q hq).1
theorem items_c {H dh l : Addr} {tt : Tok} {hs : Int} {n k : Nat} (X : (hd.heap_1 w.params).In B) (T : Top p loose mean mg mb B) (hA : Room A 6) (st : B.StaysIn s.heap)
    (hH : s.heap.get? H = some (hdO dh)) (hdd : s.heap.get? dh = some (dictOf (hdE hs tt l) n)) (hHB : B.get? H = none) (hdB : B.get? dh = none) (hlB : B.get? l = none)
    {vs : List Value} (hl : s.heap.get? l = some (W.listOf vs.toArray k)) (hlen : vs.length ≤ 100)
    (hQ : ∀ h' tk' D k', s.heap.get? D = none → h'.get? D = some (W.listOf vs.toArray k') → s.heap.StaysIn h' → Q (.ref D) { s with heap := h', toks := tk' }) :
    wpAny (model PySem.Challenge.rw_un0043_01.row.toRowW.prog w) A (call (.ref 255) [.ref H]) Q E s := by
  revert X; k_fill; intro X
  have Xs : (hd.heap_1 w.params).In s.heap := fun a o e => st a o (X a o e)
  refine wpAny_call ?_
  k_dflt (refine' enterM [(H, hdO dh), (dh, dictOf (hdE hs tt l) n), (l, W.listOf vs.toArray k)] X T hA st ?hm ?ho ?hcd ?hb ?hl ?_ ?hc ?h1 ?h2 ?h3; (case hm => simpa using ⟨⟨hH, hHB⟩, ⟨hdd, hdB⟩, hl, hlB⟩); (case ho => k_is); (case hcd => k_is); (case hb => first | exact BindsTo.of_eq rfl | exact binds_K Xs rfl (by k_is) rfl rfl rfl); (case hl => exact locs rfl); (case hc => decide); (case h1 => exact rfl); (case h2 => exact rfl); (case h3 => exact rfl))
  intro g L h₁ hg hL F N X' T' st' hA'
  replace F : Fr g L h₁ (fun z => List.lookup z [(Str.ofString "self", .ref H)]) := F
  show wpAny _ _ _ _ _ _
  k_fold
  k_steps
  show wpAny _ _ (subscriptTail _ _ _ _) _ _ _
  refine slice_list3 (s := ⟨h₁, _, _, _, _⟩) F N ⟨_, (N _ (.tail _ (.tail _ (.head _)))).1, rfl, _, rfl⟩ .none .none .none (by decide) ?_ (by with_unfolding_all rfl) (by kmk_pure) ?_
  rotate_left
  · exact Nat.le_trans (by simpa using hlen : _ ≤ 100) (by decide : 100 ≤ sizeLine)
  intro h3 F3 N3
  rw [slicePick_all] at N3
  have lt1 := Heap.lt_size (N _ (.head _)).1
  have lt2 := Heap.lt_size (N _ (.tail _ (.head _))).1
  have lt3 := Heap.lt_size (N _ (.tail _ (.tail _ (.head _)))).1
  clear F N
  k_steps
  refine hQ h3 _ _ 0 (new_of (o := { cls := .type "list", data := .seq vs.toArray }) hg N3 (.head _) ?_) (N3 _ (.head _)).1 (stays_of hg F3 N3 (fun p hp => List.mem_cons_of_mem _ hp) ?_)
  · simp only [List.map_cons, List.map_nil, List.mem_cons, List.not_mem_nil, or_false, not_or]
    exact ⟨Nat.ne_of_gt (Nat.lt_succ_of_lt lt1), Nat.ne_of_gt (Nat.lt_succ_of_lt lt2), Nat.ne_of_gt (Nat.lt_succ_of_lt lt3)⟩
  · intro q hq
    simp only [List.mem_cons, List.not_mem_nil, or_false] at hq
    rcases hq with rfl | rfl | rfl <;> assumption
end
end Mine
namespace Mine
/-- what a turn leaves -/
def FPost (J : Shared → Prop) (f : Flow) (s₃ : Shared) : Prop := f = .next ∧ J s₃
abbrev rIter (i n : Nat) : Obj := { cls := .type "range_iterator", dict := none, data := .fields #[rawInt (i : Nat), rawInt ((n : Int) - (i : Nat)), rawInt 1], slots := #[] }
section
variable {prog : Program} {w : World} {A : Around} {E : Value → Shared → Prop} {s : Shared} {env : Env} {body : List Stmt} {Q : Flow → Shared → Prop}
/-- a for loop over range(n), with any state between the turns -/
theorem for_any {x : Str} {px : Pos} {r : Addr} {t u v : Tok} {n : Nat} (J : Nat → Addr → Shared → Prop) (hh : A.handled = none) (hr : IsRange s.heap r 0 n 1 t u v) (hn : n ≤ 1000)
    (h0 : J 0 s.heap.objs.size { s with heap := s.heap.push (rIter 0 n) })
    (turn : ∀ J' : Nat → Addr → Shared → Prop, J' = J → ∀ i I s', i < n → J i I s' → s'.heap.get? I = some (rIter i n) ∧ ∀ h' t, h'.get? I = some (rIter (i + 1) n) → Heap.SameBut I s'.heap h' →
      wpAny (model prog w) A (assign (.Name x px) env (.int i t)) (fun _ s₃ => wpAny (model prog w) A (execs body env) (FPost (J' (i + 1) I)) E s₃) E { s' with heap := h', toks := s'.toks + 1 })
    (done : ∀ I s', J n I s' → s'.heap.get? I = some (rIter n n) ∧ ∀ h', Heap.ExtBut I s'.heap h' → Q .next { s' with heap := h' })
    (hE : PassesOwn (model prog w) A env E := by passes_own) :
    wpAny (model prog w) A (pyIter (.ref r)) (fun it s₂ => codeAny (model prog w) A (.forLoop (.Name x px) it body [] env) (fun r s' => match r with | .ok f => Q f s' | .error e => cameBackBy (model prog w) A env E e s') s₂) E s := by
  have hs1 : Builtin.Range.rangeSize 0 (n : Int) 1 = (n : Int) := by
    unfold Builtin.Range.rangeSize
    simp
    omega
  refine wpAny_pyIter_range hr (by unfold Builtin.Range.small; rw [hs1]; unfold Builtin.Range.rangeFitsLong; simp; omega) ?_
  rw [hs1]
  refine codeAny_forLoop_any (fun k s' => ∃ i, i ≤ n ∧ k = n + 1 - i ∧ J i s.heap.objs.size s') ?_ (n + 1) ⟨0, Nat.zero_le _, rfl, by
    have : ((n : Int) - ((0 : Nat) : Int)) = n := by omega
    unfold rIter at h0
    rw [this] at h0
    exact h0⟩
  rintro k s' ⟨i, hi, rfl, hJ⟩
  by_cases hlt : i < n
  · obtain ⟨hit, step⟩ := turn J rfl i _ s' hlt hJ
    refine wpAny_pyNext_range_item (x := (i : Nat)) (left := (n : Int) - (i : Nat)) (step := 1) hit (by omega) fun h' hit' hs' => ?_
    have e1 : ((i : Nat) : Int) + 1 = ((i + 1 : Nat) : Int) := by push_cast; rfl
    have e2 : (n : Int) - (i : Nat) - 1 = (n : Int) - ((i + 1 : Nat) : Int) := by push_cast; omega
    rw [e1, e2] at hit'
    refine wpAny_mono (Q := fun _ s₂ => s₂ = { s' with heap := h', toks := s'.toks + 1 }) (E := notedBy (model prog w) A env fun e s' => cameBackBy (model prog w) A env E e s') (wpAny_pure rfl) (fun _ s₂ e => ?_) fun _ _ e => e
    subst e
    refine wpAny_mono (wpAny_mono (step h' s'.toks hit' hs') (fun _ s₃ h₃ => wpAny_mono h₃ (fun f s₄ h₄ => ?_) (fun _ _ e => e)) (fun _ _ e => e)) (fun _ s₃ h₃ => wpAny_passesOwn hE h₃) hE
    obtain ⟨rfl, hJ'⟩ := h₄
    exact ⟨n + 1 - (i + 1), by omega, i + 1, hlt, rfl, hJ'⟩
  · obtain rfl : i = n := Nat.le_antisymm hi (Nat.not_lt.mp hlt)
    obtain ⟨hit, fin⟩ := done _ s' hJ
    refine wpAny_pyNext_range_end hh (x := (i : Nat)) (left := (i : Int) - (i : Nat)) (step := 1) hit (by omega) fun h' he' => ?_
    exact wpAny_execs_nil (fin h' he')
end
end Mine
namespace Mine
section
variable {w : World} {p : Program} {loose : List Str} {mean : ExcName → Option Value} {mg mb : Str → Option Value} {A : Around} {s : Shared} {Q E : Value → Shared → Prop} {g : Heap} {L : Addr} {m : Str → Option Value} {news : List (Addr × Obj)}
theorem headers_c (X : (hd.heap_1 w.params).In g) (T : Top p loose mean mg mb g) (hA : Room A 8) (F : Fr g L s.heap m) (N : News g L s.heap news)
    (hQ : ∀ h' tk' H dh l hs tt hn k, Fr g L h' m → News g L h' ((H, hdO dh) :: (dh, dictOf (hdE hs tt l) hn) :: (l, W.listOf #[] k) :: news) → (∀ q ∈ news, q.1 ≠ H ∧ q.1 ≠ dh ∧ q.1 ≠ l) → (H ≠ dh ∧ H ≠ l ∧ dh ≠ l) → Q (.ref H) { s with heap := h', toks := tk' }) :
    wpAny (model PySem.Challenge.rw_un0043_01.row.toRowW.prog w) A (call (.ref 291) []) Q E s := by
  revert X; k_fill; intro X
  refine call_cls (K := hd.heap_1 w.params) F X N (by k_is) (by k_is) (by k_is) ?_
  intro x dx h1 F1 N1 l1 l2
  have Xs : (hd.heap_1 w.params).In h1 := fun a o e => F1.keep a o (X a o e)
  have hx := N1 _ (.head _)
  have hdx := N1 _ (.tail _ (.head _))
  k_dflt (refine' enterM [(x, instObj 291 dx), (dx, dictOf [] 0)] X T (hA.make 291) F1.keep ?hm ?ho ?hcd ?hb ?hl ?_ ?hc ?h1 ?h2 ?h3; (case hm => simpa using ⟨⟨hx.1, hx.2.2⟩, hdx.1, hdx.2.2⟩); (case ho => k_is); (case hcd => k_is); (case hb => first | exact BindsTo.of_eq rfl | exact binds_K Xs rfl (by k_is) rfl rfl rfl); (case hl => exact locs rfl); (case hc => decide); (case h1 => exact rfl); (case h2 => exact rfl); (case h3 => exact rfl))
  intro g2 L2 h2 hg2 hL2 F2 N2 X2 T2 st2 hA2
  k_dflt (replace F2 : Fr g2 L2 h2 (fun y => List.lookup y [(Str.ofString "headers", .none), (Str.ofString "self", .ref x)]) := F2)
  show wpAny _ _ _ _ _ _
  k_fold
  have l3 : @LT.lt Nat _ dx x := l2
  k_steps
  show wpAny _ _ (pyIter _) _ _ _
  rename Fr g2 _ _ _ => F3
  rename News g2 _ _ _ => N3
  refine for_pairs (vs := []) [Str.ofString "k", Str.ofString "v"] (fun _ => True) hA2.hh ⟨_, (N3 _ (.head _)).1, rfl, _, rfl⟩ (fun e => (N3 _ (.head _)).2.1 e.symm) (fun _ h => absurd h List.not_mem_nil) F3 N3 trivial (fun i v _ _ _ _ hv => by simp at hv) ?_
  clear F3 N3
  intro h4 tk4 u F4 N4 _
  show wpAny _ _ _ _ _ ⟨h4, s.gens, s.drawn, tk4, s.os⟩
  k_steps
  have k4 : Keep [x, dx] h1 h4 := fun b o hb e => F4.keep _ _ (hg2 b o hb e)
  have z1 := N4 _ (.tail _ (.head _))
  have z2 := N4 _ (.tail _ (.tail _ (.head _)))
  have z0 := N4 _ (.head _)
  have hS : ∀ a ∈ [x, dx], g.get? a = none := fun a ha => by
    simp only [List.mem_cons, List.not_mem_nil, or_false] at ha
    rcases ha with rfl | rfl
    · exact hx.2.2
    · exact hdx.2.2
  have F5 : Fr g L h4 m := Mine.Fr.keepS F1 k4 hS (by
    simp only [List.mem_cons, List.not_mem_nil, or_false, not_or]
    exact ⟨hx.2.1.symm, hdx.2.1.symm⟩)
  have lo : ∀ q ∈ news, q.1 ∉ [x, dx] := fun q hq => by
    have := l1 q hq
    simp only [List.mem_cons, List.not_mem_nil, or_false, not_or]
    exact ⟨Nat.ne_of_lt (Nat.lt_trans this l2), Nat.ne_of_lt this⟩
  have Nn : News g L h4 news := News.keepS (news_tl (news_tl N1)) k4 lo
  have nlx : _ ≠ x := ne_obj z0.1 z1.1 (by simp)
  have nld : _ ≠ dx := ne_obj z0.1 z2.1 (by simp)
  have l0 : h1.get? _ = none := new_of hg2 N4 (.head _) (by simp only [List.map_cons, List.map_nil, List.mem_cons, List.not_mem_nil, or_false, not_or]; exact ⟨nlx, nld⟩)
  obtain ⟨hs9, tt9, l9, hn9, k9, e1, e2, e3⟩ : ∃ hs tt l hn k, h4.get? dx = some (dictOf (hdE hs tt l) hn) ∧ h4.get? l = some (W.listOf #[] k) ∧ h1.get? l = none := ⟨_, _, _, _, _, z2.1, z0.1, l0⟩
  have Nl := news_fresh F1 Nn e3 e2
  have n1 : l9 ≠ x := ne_obj e2 z1.1 (by simp)
  have n2 : l9 ≠ dx := ne_obj e2 e1 (by simp [dictOf])
  refine ⟨rfl, hQ h4 _ x dx l9 hs9 tt9 hn9 k9 F5 (fun q hq => ?_) (fun q hq => ⟨(fun e => ?_), (fun e => ?_), fun e => ?_⟩) ⟨(Nat.ne_of_gt l2), n1.symm, n2.symm⟩⟩
  · rcases List.mem_cons.mp hq with rfl | hq
    · exact ⟨z1.1, hx.2⟩
    rcases List.mem_cons.mp hq with rfl | hq
    · exact ⟨e1, hdx.2⟩
    exact Nl q hq
  · exact Nat.ne_of_lt (Nat.lt_trans (l1 q hq) l2) e
  · exact Nat.ne_of_lt (l1 q hq) e
  · have := (N1 q (.tail _ (.tail _ hq))).1
    rw [e, e3] at this
    cases this
end
end Mine
namespace Mine
/-- the signs still to come are in order at this depth -/
inductive Ok : Nat → List Nat → Prop
  | nil {d} : Ok d []
  | up {d l} : d < 5 → Ok (d + 1) l → Ok d (98 :: l)
  | down {d l} : d < 5 → Ok d l → Ok (d + 1) (97 :: l)
theorem Ok.tail : ∀ d, d ≤ 5 → Ok d (List.replicate d 97)
  | 0, _ => .nil
  | d + 1, h => .down (by omega) (Ok.tail d (by omega))
theorem Pre.ok {l : List Nat} {d : Nat} (h : Pre l d) : ∀ r, Ok d r → Ok 0 (l ++ r) := by
  induction h with
  | one => exact fun r hr => .up (by decide) hr
  | up h h5 ih => intro r hr; rw [List.append_assoc]; exact ih _ (.up h5 hr)
  | @down l d h h2 ih =>
    intro r hr
    rw [List.append_assoc]
    refine ih _ ?_
    obtain ⟨e, rfl⟩ : ∃ e, d = e + 1 := ⟨d - 1, by omega⟩
    have := h.le
    exact .down (by omega) hr
theorem nd_ne {as : List Addr} (nd : as.Nodup) {i j : Nat} {a b : Addr} (ha : as[i]? = some a) (hb : as[j]? = some b) (hij : i ≠ j) : a ≠ b := by
  rintro rfl
  have hi : i < as.length := (List.getElem?_eq_some_iff.mp ha).1
  exact hij ((List.getElem?_inj hi nd).mp (ha.trans hb.symm))
theorem nd_off {as S : List Addr} (nd : as.Nodup) (js : List Nat) (hS : S.map some = js.map fun j => as[j]?) {i : Nat} {a : Addr} (ha : as[i]? = some a) (hi : i ∉ js) : a ∉ S := by
  intro hm
  have h1 : some a ∈ S.map some := List.mem_map_of_mem hm
  rw [hS] at h1
  obtain ⟨j, hj, e⟩ := List.mem_map.mp h1
  exact nd_ne nd ha e (fun q => hi (q ▸ hj)) rfl
/-- a ledger whose objects at these places change -/
theorem led_sets {g h h' : Heap} {L : Addr} {as S : List Addr} {os os' : List Obj} (N : News g L h (as.zip os)) (nd : as.Nodup) (js : List Nat) (hS : S.map some = js.map fun j => as[j]?) (k : Keep S h h')
    (hlen : os'.length = os.length) (same : ∀ i, i ∉ js → os'[i]? = os[i]?) (new : ∀ i, i ∈ js → ∀ a o', as[i]? = some a → os'[i]? = some o' → h'.get? a = some o') : News g L h' (as.zip os') := by
  intro q hq
  obtain ⟨j, hj⟩ := List.getElem?_of_mem hq
  rw [List.getElem?_zip_eq_some] at hj
  obtain ⟨h1, h2⟩ := hj
  have hlt : j < os.length := by rw [← hlen]; exact (List.getElem?_eq_some_iff.mp h2).1
  have z : (q.1, os[j]) ∈ as.zip os := List.mem_of_getElem? (i := j) (by rw [List.getElem?_zip_eq_some]; exact ⟨h1, by simp [hlt]⟩)
  refine ⟨?_, (N _ z).2⟩
  by_cases hm : j ∈ js
  · exact new j hm _ _ h1 h2
  · rw [same j hm, List.getElem?_eq_getElem hlt] at h2
    rw [← Option.some.inj h2]
    exact k _ _ (nd_off nd js hS h1 hm) (N _ z).1
/-- pairs and codes: what nothing changes -/
def Imm (o : Obj) : Prop := (∃ u v, o = pairO u v) ∨ IsCode o
theorem imm_keep {g h h' : Heap} {L : Addr} {S : List Addr} {tail : List (Addr × Obj)} (N : News g L h tail) (hi : ∀ q ∈ tail, Imm q.2) (k : Keep S h h') (hS : ∀ a ∈ S, ∃ o, h.get? a = some o ∧ ¬ Imm o) : News g L h' tail :=
  News.keepS N k fun q hq hm => by
    obtain ⟨o, e, hn⟩ := hS _ hm
    rw [(N q hq).1] at e
    exact hn (Option.some.inj e ▸ hi q hq)
theorem not_imm {o : Obj} (h1 : o.cls ≠ .type "tuple") (h2 : ∀ vs, o.data ≠ .fields vs) : ¬ Imm o := by
  rintro (⟨u, v, rfl⟩ | ⟨vs, _, _, e, _⟩)
  · exact h1 rfl
  · exact h2 _ e
theorem acc_imm {dx : Addr} {vs : Array Value} {n : Nat} : ¬ Imm (accO dx vs n) := not_imm (by simp [accO]) (fun _ e => by cases e)
theorem lst_imm {vs : Array Value} {n : Nat} : ¬ Imm (W.listOf vs n) := not_imm (by simp) (fun _ e => by cases e)
theorem tab_imm {B h : Heap} {P : Addr} {pos : Pos} {qual : Str} {o : Obj} (x : TabSt B P pos qual h) (e : h.get? P = some o) : ¬ Imm o := by
  rintro (⟨u, v, rfl⟩ | q)
  · exact x.ne e (by simp [pairO]) rfl
  · exact x.noCode e q
theorem tabO_imm {ps : Array Value} (h : StrTab ps) : ¬ Imm (tabObj ps) := by
  rintro (⟨u, v, e⟩ | ⟨vs, q, t, e, e2⟩)
  · exact absurd (congrArg Obj.cls e) (by simp [pairO, tabObj])
  · rcases h with rfl | ⟨c', rfl⟩ <;> (cases e; simp at e2)
    cases e2
/-- the pairs of a list, by what the ledger says -/
def RowsIn (own : List (Addr × Obj)) (vs : List Value) (tab : List (Str × Str)) : Prop :=
  vs.length = tab.length ∧ ∀ (i : Nat) (v : Value), vs[i]? = some v → ∃ (r : Addr) (k y : Str) (tk ty : Tok), v = Value.ref r ∧ tab[i]? = some (k, y) ∧ (r, pairO (.str k tk) (.str y ty)) ∈ own
theorem RowsIn.are {g h : Heap} {L : Addr} {own : List (Addr × Obj)} {vs : List Value} {tab : List (Str × Str)} (R : RowsIn own vs tab) (N : News g L h own) : RowsAre h vs tab ∧ Frs g vs := by
  refine ⟨⟨R.1, fun i v hv => ?_⟩, fun r hr => ?_⟩
  · obtain ⟨r, k, y, tk, ty, e1, e2, e3⟩ := R.2 i v hv
    exact ⟨r, k, y, tk, ty, e1, e2, (N _ e3).1⟩
  · obtain ⟨i, hi⟩ := List.getElem?_of_mem hr
    obtain ⟨r', k, y, tk, ty, e1, _, e3⟩ := R.2 i _ hi
    cases e1
    exact (N _ e3).2.2
theorem RowsIn.mono {own own' : List (Addr × Obj)} {vs : List Value} {tab : List (Str × Str)} (R : RowsIn own vs tab) (h : ∀ q ∈ own, q ∈ own') : RowsIn own' vs tab :=
  ⟨R.1, fun i v hv => by
    obtain ⟨r, k, y, tk, ty, e1, e2, e3⟩ := R.2 i v hv
    exact ⟨r, k, y, tk, ty, e1, e2, h _ e3⟩⟩
theorem RowsIn.snoc {own : List (Addr × Obj)} {vs : List Value} {a : List (Str × Str)} {D : Addr} {x y : Str} {t1 t2 : Tok} (R : RowsIn own vs a) : RowsIn ((D, pairO (.str x t1) (.str y t2)) :: own) (vs ++ [.ref D]) (a ++ [(x, y)]) := by
  refine ⟨by simp [R.1], fun i v hv => ?_⟩
  rcases Nat.lt_or_ge i vs.length with hi | hi
  · rw [List.getElem?_append_left hi] at hv
    obtain ⟨r, k, z, tk, ty, e1, e2, e3⟩ := R.2 i v hv
    exact ⟨r, k, z, tk, ty, e1, by rw [List.getElem?_append_left (by rw [← R.1]; exact hi)]; exact e2, .tail _ e3⟩
  · rw [List.getElem?_append_right hi] at hv
    cases q : i - vs.length with
    | zero =>
      rw [q] at hv
      exact ⟨D, x, y, t1, t2, (Option.some.inj hv).symm, by rw [List.getElem?_append_right (by rw [← R.1]; exact hi), ← R.1, q]; rfl, .head _⟩
    | succ j => rw [q] at hv; simp at hv
/-- what a heap says of the pairs, for a ledger -/
theorem rows_in {g h : Heap} {L : Addr} {m : Str → Option Value} {vs : List Value} {tab : List (Str × Str)} (F : Fr g L h m) (R : RowsAre h vs tab) (f : Frs g vs) : News g L h (ownOf h vs) ∧ RowsIn (ownOf h vs) vs tab ∧ ∀ q ∈ ownOf h vs, Imm q.2 := by
  refine ⟨fun q hq => ?_, ⟨R.1, fun i v hv => own_get R hv⟩, fun q hq => .inl (own_pair R q hq)⟩
  obtain ⟨a, b⟩ := own_news f q hq
  refine ⟨a, fun e => ?_, b⟩
  obtain ⟨u, v, e2⟩ := own_pair R q hq
  obtain ⟨oL, es, ep, hL, hLd, _⟩ := F.ns
  rw [← e, a, e2] at hL
  cases hL
  cases hLd
theorem strs_reads {h : Heap} : ∀ {vs : List Value} {xs : List Str}, StrsAre vs xs → ReadsAll h vs (xs.map .str) []
  | _, _, .nil => .nil
  | _, _, .cons y t r => .cons (.str _ _) (strs_reads r)
section
variable {prog : Program} {w : World} {A : Around} {E : Value → Shared → Prop} {s : Shared}
theorem list_pop {l : Addr} {vs : List Value} {v : Value} {k : Nat} {Q : Value → Shared → Prop} (hx : s.heap.get? l = some (W.listOf (vs ++ [v]).toArray k)) (hsz : vs.length ≤ 100)
    (hQ : ∀ h' k', h'.get? l = some (W.listOf vs.toArray k') → Heap.SameBut l s.heap h' → Q v { s with heap := h' }) :
    wpAny (model prog w) A (call (.builtin "list.pop") [.ref l]) Q E s := by
  refine Copied.pop_at (its := (vs ++ [v]).toArray) (n := k) hx (by simp) (fun h' hs e => hQ h' (k + 1) ?_ hs) (Nat.le_trans (by simpa using hsz : _ ≤ 101) (by decide : 101 ≤ sizeLine))
  rw [e, show (vs ++ [v]).toArray.pop = vs.toArray by simp]
/-- an item of a list, at a written place -/
theorem sub_list {value slice : Expr} {l : Addr} {vs : List Value} {i : Int} {t : Tok} {x : Value} {ops : List Value} {Q : Value → Shared → Prop} (hl : s.heap.IsList l vs.toArray) (h0 : (0 ≤ i ∧ vs[i.toNat]? = some x) ∨ (i = -1 ∧ vs.getLast? = some x)) (h63 : i < 2 ^ 63)
    (hs : subscripted slice false (.ref l) (.int i t) = operate ops (getItem (.ref l) (.int i t))) (ht : ∀ r, letTemporaryGo value (.ref l) r = pure ())
    (hQ : Q x s) : wpAny (model prog w) A (subscriptTail value slice (.ref l) (.int i t)) Q E s := by
  refine subscriptTail_ops hl.typeIs list_getitem_lookup ?_ hs ht
  rcases h0 with ⟨h1, h2⟩ | ⟨rfl, h2⟩
  · exact wpAny_getItem_list hl h1 h63 (by simpa using h2) hQ
  · have hne : vs ≠ [] := by rintro rfl; cases h2
    have hpos : 0 < vs.length := List.length_pos_iff.mpr hne
    refine wpAny_getItem_list_neg hl (by decide) (by simp; omega) (by decide) ?_ hQ
    rw [List.getLast?_eq_getElem?] at h2
    have : (-1 + (vs.toArray.size : Int)).toNat = vs.length - 1 := by simp; omega
    rw [this]
    simpa using h2
/-- two lists of texts compared -/
theorem ne_strs {a b : Addr} {va vb : List Value} {x y : List Str} {ka kb : Nat} {Q : Value → Shared → Prop} (ha : s.heap.get? a = some (W.listOf va.toArray ka)) (hb : s.heap.get? b = some (W.listOf vb.toArray kb)) (hx : StrsAre va x) (hy : StrsAre vb y) (ax : ∀ z ∈ x, AB z) (ay : ∀ z ∈ y, AB z)
    (hu : A.units + 64 < cLine) (h : Q (.bool (!decide (x = y))) s) : wpAny (model prog w) A (compareOp .NotEq (.ref a) (.ref b)) Q E s := by
  refine ne_dataH (reads_list_at ha rfl rfl (by simpa using strs_reads hx)) (reads_list_at hb rfl rfl (by simpa using strs_reads hy)) (sh3 ax) (sh3 ay) hu ?_
  rw [eqvL]; exact h
theorem eq_strs {a b : Addr} {va vb : List Value} {x y : List Str} {ka kb : Nat} {Q : Value → Shared → Prop} (ha : s.heap.get? a = some (W.listOf va.toArray ka)) (hb : s.heap.get? b = some (W.listOf vb.toArray kb)) (hx : StrsAre va x) (hy : StrsAre vb y) (ax : ∀ z ∈ x, AB z) (ay : ∀ z ∈ y, AB z)
    (hu : A.units + 64 < cLine) (h : Q (.bool (decide (x = y))) s) : wpAny (model prog w) A (compareOp .Eq (.ref a) (.ref b)) Q E s := by
  refine eq_dataH (reads_list_at ha rfl rfl (by simpa using strs_reads hx)) (reads_list_at hb rfl rfl (by simpa using strs_reads hy)) (sh3 ax) (sh3 ay) hu ?_
  rw [eqvL]; exact h
end
section
variable {prog : Program} {w : World} {A : Around} {s : Shared} {h₀ : Heap} {L : Addr} {m : Str → Option Value} {env : Env} {ct elt : Expr} {x : Str} {scope : Scope} {cl : List (Str × Addr)} {S : List (Addr × Obj) → Prop} {P : Nat → Value → Prop} {Fin : List Value → List (Addr × Obj) → Prop} {news : List (Addr × Obj)}
/-- a list comprehension with one test -/
theorem comp_restT (R : Nat → List Value → Prop) {n : Nat} (hS : S news) (h0 : R 0 [])
    (turn : ∀ i v I oI C oC D m₂ h tk (E' : Value → Shared → Prop) ys, i < n → R i ys → P i v → LCg.NsObj oC m₂ → m₂ x = some v → Fr h₀ L h m → News h₀ L h ((I, oI) :: (C, oC) :: (D, LCg.lst ys) :: news) → LCg.Off3 I C D news → ((@Ne Nat I C) ∧ (@Ne Nat I D) ∧ (@Ne Nat C D)) →
      wpAny (model prog w) A (isTrue ct (compEnvC scope cl C env) (eval ct (compEnvC scope cl C env))) (fun ok s' => if ok = true then
        wpAny (model prog w) A (eval elt (compEnvC scope cl C env)) (CPost h₀ L m { s with heap := h, toks := tk } ((I, oI) :: (C, oC) :: (D, LCg.lst ys) :: news) (fun y => R (i + 1) (ys ++ [y]))) E' s'
        else CPost h₀ L m { s with heap := h, toks := tk } ((I, oI) :: (C, oC) :: (D, LCg.lst ys) :: news) (fun _ => R (i + 1) ys) Value.none s') E' { s with heap := h, toks := tk })
    (fin : ∀ ys : List Value, R n ys → Fin ys news) : LCt.CompRestT prog w A h₀ L m env ct elt x scope cl s S P Fin n 0 [] news := by
  have step : ∀ (k i : Nat) (ys : List Value), i + k = n → R i ys → LCt.CompRestT prog w A h₀ L m env ct elt x scope cl s S P Fin k i ys news := by
    intro k
    induction k with
    | zero =>
      intro i ys e hy
      have : i = n := by omega
      subst this
      exact LCt.CompRestT.zero (fin ys hy)
    | succ k ih =>
      intro i ys e hy
      refine LCt.CompRestT.succ ?_
      intro v I oI C oC D m₂ h tk E' hv hC hx F N off ne
      refine wpAny_mono (turn i v I oI C oC D m₂ h tk E' ys (by omega) hy hv hC hx F N off ne) (fun ok s₂ hp => ?_) fun _ _ e => e
      cases ok with
      | true =>
        simp only [if_true] at hp ⊢
        refine wpAny_mono hp (fun y s₃ hq => ?_) fun _ _ e => e
        obtain ⟨hR, h', tk', rfl, F', N'⟩ := hq
        exact LCg.CompEnd.intro F' N' news (fun _ h => h) off hS (ih (i + 1) (ys ++ [y]) (by omega) hR)
      | false =>
        simp only [Bool.false_eq_true, if_false] at hp ⊢
        obtain ⟨hR, h', tk', rfl, F', N'⟩ := hp
        exact LCg.CompEnd.intro F' N' news (fun _ h => h) off hS (ih (i + 1) ys (by omega) hR)
  exact step n 0 [] (Nat.zero_add n) h0
end
end Mine
namespace Mine
/-- what the law's frame holds between the turns -/
abbrev mT (txt : Value) (P H RW DU : Addr) (u : Str → Option Value) : Str → Option Value := fun y => if y = Str.ofString "due" then some (.ref DU) else if y = Str.ofString "rows" then some (.ref RW) else if y = Str.ofString "book" then some (.ref H) else if y = Str.ofString "pile" then some (.ref P) else if y = Str.ofString "text" then some txt else u y
theorem mT_self {txt : Value} {P H RW DU : Addr} {c : Str → Option Value} (h1 : c (Str.ofString "due") = some (.ref DU)) (h2 : c (Str.ofString "rows") = some (.ref RW)) (h3 : c (Str.ofString "book") = some (.ref H)) (h4 : c (Str.ofString "pile") = some (.ref P)) (h5 : c (Str.ofString "text") = some txt) (y : Str) : c y = mT txt P H RW DU c y := by
  show c y = if y = Str.ofString "due" then some (.ref DU) else if y = Str.ofString "rows" then some (.ref RW) else if y = Str.ofString "book" then some (.ref H) else if y = Str.ofString "pile" then some (.ref P) else if y = Str.ofString "text" then some txt else c y
  split
  · rename_i e; rw [e, h1]
  split
  · rename_i e; rw [e, h2]
  split
  · rename_i e; rw [e, h3]
  split
  · rename_i e; rw [e, h4]
  split
  · rename_i e; rw [e, h5]
  rfl
/-- a row's list -/
def rowO (q : List Value × Nat) : Obj := W.listOf q.1.toArray q.2
/-- the rows' lists hold these words -/
def RowsHold (rv : List (List Value × Nat)) (lo : List (List Nat)) : Prop := rv.length = lo.length ∧ ∀ (j : Nat) (q : List Value × Nat), rv[j]? = some q → ∃ r, lo[j]? = some r ∧ StrsAre q.1 (r.map sW)
theorem RowsHold.snoc {rv : List (List Value × Nat)} {lo : List (List Nat)} {q : List Value × Nat} {r : List Nat} (R : RowsHold rv lo) (h : StrsAre q.1 (r.map sW)) : RowsHold (rv ++ [q]) (lo ++ [r]) := by
  refine ⟨by simp [R.1], fun j p hp => ?_⟩
  rcases Nat.lt_or_ge j rv.length with hj | hj
  · rw [List.getElem?_append_left hj] at hp
    obtain ⟨r', e, h'⟩ := R.2 j p hp
    exact ⟨r', by rw [List.getElem?_append_left (by rw [← R.1]; exact hj)]; exact e, h'⟩
  · rw [List.getElem?_append_right hj] at hp
    have h0 : j - rv.length = 0 := by
      rcases Nat.eq_zero_or_pos (j - rv.length) with h | h
      · exact h
      · rw [List.getElem?_eq_none (by simp; omega)] at hp; cases hp
    rw [h0] at hp
    rw [List.getElem?_append_right (by rw [← R.1]; exact hj), ← R.1, h0]
    exact ⟨r, rfl, by rw [← Option.some.inj hp]; exact h⟩
theorem RowsHold.init {rv : List (List Value × Nat)} {lo : List (List Nat)} {q : List Value × Nat} {r : List Nat} (R : RowsHold (rv ++ [q]) (lo ++ [r])) : RowsHold rv lo ∧ StrsAre q.1 (r.map sW) := by
  have hl : rv.length = lo.length := by have := R.1; simp at this; exact this
  refine ⟨⟨hl, fun j p hp => ?_⟩, ?_⟩
  · have hj : j < rv.length := (List.getElem?_eq_some_iff.mp hp).1
    obtain ⟨r', e, h'⟩ := R.2 j p (by rw [List.getElem?_append_left hj]; exact hp)
    rw [List.getElem?_append_left (by rw [← hl]; exact hj)] at e
    exact ⟨r', e, h'⟩
  · obtain ⟨r', e, h'⟩ := R.2 rv.length q (by rw [List.getElem?_append_right (Nat.le_refl _)]; simp)
    rw [hl, List.getElem?_append_right (Nat.le_refl _)] at e
    simp at e
    rw [e]; exact h'
/-- the mutable objects of the law -/
abbrev lA (I DU RW H dh l dx P C : Addr) (ra : List Addr) : List Addr := [I, DU, RW, H, dh, l, dx, P, C, 69, 62, 48, 123] ++ ra
abbrev lO (oI oD oR oH odh ol odx oP oC o69 o62 o48 o123 : Obj) (rv : List (List Value × Nat)) : List Obj := [oI, oD, oR, oH, odh, ol, odx, oP, oC, o69, o62, o48, o123] ++ rv.map rowO
/-- the law between two signs -/
structure LS (g : Heap) (L P dx H dh l RW DU : Addr) (hs hs2 : Int) (tt ti tt2 : Tok) (en hn : Nat) (I : Addr) (oI : Obj) (lo : List (List Nat)) (bk : List (Bool × Nat)) (h : Heap)
    (ra : List Addr) (rv : List (List Value × Nat)) (vs us dus : List Value) (oC o48 o69 o62 : Obj) (cv : Option Value) (ps : Array Value) (np k kr kd : Nat) (own cods : List (Addr × Obj)) : Prop where
  N : News g L h ((lA I DU RW H dh l dx P (L + 1) ra).zip (lO oI (W.listOf dus.toArray kd) (W.listOf (ra.map Value.ref).toArray kr) (hdO dh) (dictOf (hdE hs2 tt2 l) hn) (W.listOf us.toArray k) (dictOf (accE hs tt ti) en) (accO dx vs.toArray np) oC o69 o62 o48 (tabObj ps) rv))
  Nt : News g L h (own ++ cods)
  nd : (lA I DU RW H dh l dx P (L + 1) ra).Nodup
  imm : ∀ q ∈ own ++ cods, Imm q.2
  ral : ra.length = rv.length
  rows : RowsHold rv lo
  vsR : RowsIn own vs (pTab lo)
  usR : RowsIn own us (tabOf bk)
  due : StrsAre dus (bk.map fun q => sp q.1 q.2)
  hC : oC.data = .cell cv
  tab : StrTab ps
  C : Cods g g o48 o69 o62 cods
theorem news_off {g h : Heap} {L P : Addr} {ns : List (Addr × Obj)} (N : News g L h ns) (hP : h.get? P = none) : ∀ q ∈ ns, q.1 ≠ P := fun q hq e => by
  have := (N q hq).1
  rw [e, hP] at this
  cases this
theorem nd_push {as : List Addr} {ns : List (Addr × Obj)} {a : Addr} (nd : as.Nodup) (e : ns.map (·.1) = as) (h : ∀ q ∈ ns, q.1 ≠ a) : (a :: as).Nodup :=
  List.nodup_cons.mpr ⟨fun hm => by
    rw [← e] at hm
    obtain ⟨q, hq, e⟩ := List.mem_map.mp hm
    exact h q hq e, nd⟩
theorem news_lt {g h : Heap} {L : Addr} {ns : List (Addr × Obj)} {as : List Addr} (N : News g L h ns) (e : ns.map (·.1) = as) : ∀ b ∈ as, b < h.objs.size := fun b hb => by
  rw [← e] at hb
  obtain ⟨q, hq, rfl⟩ := List.mem_map.mp hb
  exact Heap.lt_size (N q hq).1
theorem news_rot {g h : Heap} {L : Addr} {a b c r : Addr × Obj} {ns : List (Addr × Obj)} (N : News g L h (a :: b :: c :: r :: ns)) : News g L h (a :: b :: c :: (ns ++ [r])) := fun q hq => N q (by
  simp only [List.mem_cons, List.mem_append, List.not_mem_nil, or_false] at hq ⊢
  rcases hq with h | h | h | h | h <;> simp [h])
theorem cell_imm {o : Obj} {v : Option Value} (h : o.data = .cell v) : ¬ Imm o := by
  rintro (⟨u, v, rfl⟩ | ⟨vs, _, _, e, _⟩)
  · cases h
  · rw [h] at e; cases e
theorem riter_imm {i n : Nat} : ¬ Imm (rIter i n) := by
  rintro (⟨u, v, e⟩ | ⟨vs, q, t, e, e2⟩)
  · exact absurd (congrArg Obj.cls e) (by simp [pairO])
  · cases e; simp [rawInt] at e2
theorem nd_snoc {as : List Addr} {a : Addr} (nd : as.Nodup) (h : ∀ b ∈ as, b ≠ a) : (as ++ [a]).Nodup :=
  List.nodup_append.mpr ⟨nd, List.nodup_cons.mpr ⟨List.not_mem_nil, List.nodup_nil⟩, fun b hb c hc => by rw [List.mem_singleton.mp hc]; exact h b hb⟩
theorem item_at {l : List Nat} {i c : Nat} (h : l[i]? = some c) : Txt.item (sS l) (i : Int) = sS [c] := by
  have hi : i < l.length := (List.getElem?_eq_some_iff.mp h).1
  have e1 : seqIndex? (i : Int) (sS l).length = some i := by
    unfold seqIndex?
    rw [sS_len]
    have h0 : ¬ ((i : Int) < 0) := by omega
    simp [h0, hi]
  unfold Txt.item Txt.charAt
  rw [e1]
  simp [sS, h]
theorem drop_at {l : List Nat} {i : Nat} (h : i < l.length) : ∃ c, l[i]? = some c ∧ l.drop i = c :: l.drop (i + 1) :=
  ⟨l[i], List.getElem?_eq_getElem h, List.drop_eq_getElem_cons h⟩
theorem Ok.up' {d : Nat} {l : List Nat} (h : Ok d (98 :: l)) : d < 5 ∧ Ok (d + 1) l := by cases h; exact ⟨by assumption, by assumption⟩
theorem Ok.down' {d : Nat} {l : List Nat} (h : Ok d (97 :: l)) : ∃ e, d = e + 1 ∧ e < 5 ∧ Ok e l := by cases h; exact ⟨_, rfl, by assumption, by assumption⟩
theorem Ok.or' {d c : Nat} {l : List Nat} (h : Ok d (c :: l)) : c = 98 ∨ c = 97 := by cases h <;> simp
theorem execs_keep {M : Model} {A : Around} {E : Value → Shared → Prop} {s : Shared} {env : Env} {st : Stmt} {rest : List Stmt} {J : Shared → Prop} (h1 : wpAny M A (exec st env) (FPost J) E s) (h2 : ∀ s', J s' → wpAny M A (execs rest env) (FPost J) E s') : wpAny M A (execs (st :: rest) env) (FPost J) E s := by
  refine wpAny_execs_cons (wpAny_mono h1 (fun f s' h => ?_) fun _ _ e => e)
  obtain ⟨rfl, hj⟩ := h
  exact h2 s' hj
/-- rows more -/
theorem zip_snoc {g h : Heap} {L r : Addr} {as ra : List Addr} {os : List Obj} {rv : List (List Value × Nat)} {q : List Value × Nat} (N : News g L h ((as ++ ra).zip (os ++ rv.map rowO))) (hl : as.length = os.length) (hr : ra.length = rv.length) (N1 : News g L h [(r, rowO q)]) :
    News g L h ((as ++ (ra ++ [r])).zip (os ++ (rv ++ [q]).map rowO)) := by
  intro p hp
  rw [List.zip_append hl, List.map_append, List.zip_append (by simpa using hr)] at hp
  rw [List.zip_append hl] at N
  rcases List.mem_append.mp hp with h | h
  · exact N p (List.mem_append_left _ h)
  rcases List.mem_append.mp h with h | h
  · exact N p (List.mem_append_right _ h)
  · exact N1 p (by simpa using h)
theorem zip_init {g h : Heap} {L r : Addr} {as ra : List Addr} {os : List Obj} {rv : List (List Value × Nat)} {q : List Value × Nat} (N : News g L h ((as ++ (ra ++ [r])).zip (os ++ (rv ++ [q]).map rowO))) (hl : as.length = os.length) (hr : ra.length = rv.length) :
    News g L h ((as ++ ra).zip (os ++ rv.map rowO)) ∧ News g L h [(r, rowO q)] := by
  rw [List.zip_append hl, List.map_append, List.zip_append (by simpa using hr)] at N
  rw [List.zip_append hl]
  refine ⟨fun p hp => N p ?_, fun p hp => N p (List.mem_append_right _ (List.mem_append_right _ (by simpa using hp)))⟩
  rcases List.mem_append.mp hp with h | h
  · exact List.mem_append_left _ h
  · exact List.mem_append_right _ (List.mem_append_left _ h)
theorem nd_init {as ra : List Addr} {r : Addr} (nd : (as ++ (ra ++ [r])).Nodup) : (as ++ ra).Nodup := by
  rw [← List.append_assoc] at nd
  exact (List.nodup_append.mp nd).1
theorem news_notin {g h : Heap} {L r : Addr} {as : List Addr} {os : List Obj} (N : News g L h (as.zip os)) (hl : as.length = os.length) (hr : h.get? r = none) : ∀ b ∈ as, b ≠ r := fun b hb e => by
  obtain ⟨j, hj⟩ := List.getElem?_of_mem hb
  have hjl : j < as.length := (List.getElem?_eq_some_iff.mp hj).1
  have z : (b, os[j]'(by omega)) ∈ as.zip os := List.mem_of_getElem? (i := j) (by rw [List.getElem?_zip_eq_some]; exact ⟨hj, by simp⟩)
  have := (N _ z).1
  rw [e, hr] at this
  cases this
theorem allLt_off {r : Addr} {tail : List (Addr × Obj)} : ∀ {as : List Addr} {os : List Obj}, AllLt r (as.zip os ++ tail) → as.length = os.length → ∀ b ∈ as, b ≠ r
  | [], _, _, _, _, h => nomatch h
  | a :: as, [], _, e, _, _ => by cases e
  | a :: as, o :: os, x, e, b, h => by
    rcases List.mem_cons.mp h with rfl | h
    · exact Nat.ne_of_lt x.1
    · exact allLt_off (os := os) x.2 (by simpa using e) b h
theorem opc_eq : opc = (Str.ofString "b", Str.ofString "") := by unfold opc; rw [sB, sE]
theorem last_two {α : Type} {l : List α} {n : Nat} (h : l.length = n + 2) : ∃ a b c, l = a ++ [b] ++ [c] ∧ a.length = n := by
  have h1 : l ≠ [] := fun e => by rw [e] at h; simp at h
  obtain ⟨a, c, rfl⟩ : ∃ a c, l = a ++ [c] := ⟨l.dropLast, l.getLast h1, (List.dropLast_concat_getLast h1).symm⟩
  have hl : a.length = n + 1 := by simpa using h
  have h2 : a ≠ [] := fun e => by rw [e] at hl; simp at hl
  obtain ⟨a', b, rfl⟩ : ∃ a' b, a = a' ++ [b] := ⟨a.dropLast, a.getLast h2, (List.dropLast_concat_getLast h2).symm⟩
  exact ⟨a', b, c, rfl, by simpa using hl⟩
theorem nd_front {as ra : List Addr} {a b : Addr} (nd : (as ++ (ra ++ [a] ++ [b])).Nodup) : (a :: b :: (as ++ ra)).Nodup := by
  refine List.Perm.nodup ?_ nd
  have e : as ++ (ra ++ [a] ++ [b]) = (as ++ ra) ++ [a, b] := by simp
  rw [e]
  exact List.perm_append_comm
theorem led_up {g h h' : Heap} {L : Addr} {m : Str → Option Value} {as : List Addr} {os : List Obj} {tail : List (Addr × Obj)} (F : Fr g L h m) (N : News g L h (as.zip os ++ tail)) (nd : as.Nodup) (him : ∀ q ∈ tail, Imm q.2) (i : Nat) {a : Addr} {o o' : Obj} (ha : as[i]? = some a) (ho : os[i]? = some o) (hn : ¬ Imm o)
    (k : Keep [a] h h') (e : h'.get? a = some o') : Fr g L h' m ∧ News g L h' (as.zip (os.set i o') ++ tail) := by
  obtain ⟨N1, N2⟩ := news_split N
  have z : (a, o) ∈ as.zip os := List.mem_of_getElem? (i := i) (by rw [List.getElem?_zip_eq_some]; exact ⟨ha, ho⟩)
  refine ⟨Fr.keep1 F N1 z k, News.app (news_set N1 nd ha (List.getElem?_eq_some_iff.mp ho).1 k e) (imm_keep N2 him k fun b hb => ?_)⟩
  rw [List.mem_singleton.mp hb]
  exact ⟨_, (N1 _ z).1, hn⟩
theorem row_le (ini : List (List Nat)) (r : List Nat) : r.length ≤ pcs (ini ++ [r]) := by
  cases ini with
  | nil => simp [pcs, pTab]
  | cons a ini =>
    rw [pcs, List.cons_append, pTab, List.length_append, List.flatMap_append, List.length_append]
    simp
    omega
/-- the names of the table that are spelled so -/
def flt (bk : List (Bool × Nat)) (n j : Nat) : List Str := ((bk.map fun q => sp q.1 q.2).take j).filter fun x => Txt.lower x == sW n
theorem flt_step {bk : List (Bool × Nat)} {n j : Nat} {q : Bool × Nat} (h : bk[j]? = some q) : flt bk n (j + 1) = flt bk n j ++ if (Txt.lower (sp q.1 q.2) == sW n) = true then [sp q.1 q.2] else [] := by
  unfold flt
  rw [List.take_add_one, List.filter_append, List.getElem?_map, h]
  congr 1
  show List.filter _ [sp q.1 q.2] = _
  rw [List.filter_cons]
  rfl
theorem flt_old {bk : List (Bool × Nat)} {n : Nat} (hb : ∀ q ∈ bk, q.2 < 65536) (hn : n < 65536) : (!decide (flt bk n bk.length = [])) = (told (tabOf bk) (sW n)).isSome := by
  rw [told_tab hb hn]
  have e : flt bk n bk.length = [] ↔ n ∉ bk.map (·.2) := by
    unfold flt
    rw [List.take_of_length_le (by simp), List.filter_eq_nil_iff]
    constructor
    · intro h hm
      obtain ⟨q, hq, rfl⟩ := List.mem_map.mp hm
      exact h _ (List.mem_map.mpr ⟨q, hq, rfl⟩) (by rw [sp_low]; exact beq_self_eq_true _)
    · intro h x hx
      obtain ⟨q, hq, rfl⟩ := List.mem_map.mp hx
      rw [sp_low]
      intro e
      exact h (List.mem_map.mpr ⟨q, hq, sW_inj (hb q hq) hn (beq_iff_eq.mp e)⟩)
  by_cases h : n ∈ bk.map (·.2)
  · rw [if_pos h]
    have : ¬ flt bk n bk.length = [] := fun q => e.mp q h
    simp [this]
  · rw [if_neg h]
    simp [e.mpr h]
theorem flt_ab {bk : List (Bool × Nat)} {n j : Nat} : ∀ z ∈ flt bk n j, AB z := fun z hz => by
  have h := List.mem_of_mem_take (List.mem_filter.mp hz).1
  obtain ⟨q, _, rfl⟩ := List.mem_map.mp h
  intro c hc
  have := sp_asc q.1 q.2 c hc
  omega
theorem told_val {bk : List (Bool × Nat)} {n : Nat} (hb : ∀ q ∈ bk, q.2 < 65536) (hn : n < 65536) : ∀ z, told (tabOf bk) (sW n) = some z → z = nmS n := fun z hz => by
  rw [told_tab hb hn] at hz
  split at hz
  · exact (Option.some.inj hz).symm
  · cases hz
theorem old_mem {bk : List (Bool × Nat)} {n : Nat} {old : Bool} (hb : ∀ q ∈ bk, q.2 < 65536) (hn : n < 65536) (h : (told (tabOf bk) (sW n)).isSome = old) : (old = true → n ∈ bk.map (·.2)) ∧ (old = false → n ∉ bk.map (·.2)) := by
  rw [told_tab hb hn] at h
  constructor
  · rintro rfl
    by_cases q : n ∈ bk.map (·.2)
    · exact q
    · rw [if_neg q] at h; cases h
  · rintro rfl q
    rw [if_pos q] at h; cases h
theorem tabOf_len (bk : List (Bool × Nat)) : (tabOf bk).length = bk.length := by unfold tabOf; rw [List.length_map]
theorem spell_eq (i n : Nat) : (if (i : Int) % 2 = 0 then Txt.upper (sS (wl n)) else sS (wl n)) = sp (decide (i % 2 = 0)) n := by
  unfold sp sW
  by_cases h : i % 2 = 0
  · rw [if_pos (by omega), if_pos (by simp [h])]
  · rw [if_neg (by omega), if_neg (by simp [h])]
theorem pick_tail (a : Value) (l : List Value) : slicePick (a :: l).toArray (some 1) none none = l.toArray := by
  have := slicePick_from' (a :: l).toArray 1
  simpa using this
theorem words_sum {f : Nat → Str} {c : Nat} (hf : ∀ k, (f k).length ≤ c) (r : List Nat) : ((r.map f).map (·.length)).sum ≤ r.length * c := by
  rw [List.map_map]
  exact sum_le_of r fun k _ => hf k
theorem sW_len (c : Nat) : (sW c).length ≤ 600 := by rw [sW, sS_len]; exact wl_len c
theorem join_words (r : List Nat) : Txt.join (sS []) (r.map sW) = sS (r.flatMap wl) := by
  have e : r.map sW = (r.map wl).map sS := by rw [List.map_map]; rfl
  rw [e, join_sS]; rfl
theorem rows_le (r : List Nat) (rs : List (List Nat)) : rs.length ≤ pcs (r :: rs) := by
  rw [pcs, pTab, List.length_append]
  have : rs.length ≤ (rs.flatMap fun r => opc :: r.map wpc).length := by
    induction rs with
    | nil => simp
    | cons a rs ih => rw [List.flatMap_cons, List.length_append, List.length_cons, List.length_cons]; omega
  omega
theorem row_in (r : List Nat) (rs : List (List Nat)) : r.length ≤ pcs (r :: rs) ∧ ∀ (j : Nat) (q : List Nat), rs[j]? = some q → q.length ≤ pcs (r :: rs) := by
  rw [pcs, pTab, List.length_append, List.length_map]
  refine ⟨by omega, fun j q h => ?_⟩
  have : q.length ≤ (rs.flatMap fun r => opc :: r.map wpc).length := by
    induction rs generalizing j with
    | nil => simp at h
    | cons a rs ih =>
      rw [List.flatMap_cons, List.length_append, List.length_cons, List.length_map]
      cases j with
      | zero => simp at h; subst h; omega
      | succ j => have := ih j (by simpa using h); omega
  omega
theorem join_row (r : List Nat) : Txt.join (Str.ofString "") (r.map sW) = sS (r.flatMap wl) := by rw [sE]; exact join_words r
theorem b_app (l : List Nat) : Str.ofString "b" ++ sS l = sS (98 :: l) := by rw [sB, sS_app]; rfl
theorem row_w {r : List Nat} (h : r.length ≤ 22) : ((r.map sW).map (·.length)).sum + (r.map sW).length ≤ 1048576 := by
  have := words_sum sW_len r
  rw [List.length_map]
  omega
theorem row_l {r : List Nat} (h : r.length ≤ 22) : (sS (r.flatMap wl)).length ≤ 13200 := by
  have := flat_len (f := wl) (c := 600) (l := r) fun k _ => wl_len k
  rw [sS_len]
  omega
theorem join_shown (r : List Nat) (rs : List (List Nat)) : Txt.join (Str.ofString "") (r.map sW ++ rs.map fun r => sS (98 :: r.flatMap wl)) = sS (pTxt (r :: rs)) := by
  have e : (r.map sW ++ rs.map fun r => sS (98 :: r.flatMap wl)) = (r.map wl ++ rs.map fun r => 98 :: r.flatMap wl).map sS := by
    rw [List.map_append, List.map_map, List.map_map]; rfl
  rw [sE, e, join_sS, List.flatten_append]
  rfl
theorem shown_w {r : List Nat} {rs : List (List Nat)} (h1 : r.length ≤ 22) (h2 : rs.length ≤ 22) (h3 : ∀ q ∈ rs, q.length ≤ 22) : ((r.map sW ++ rs.map fun r => sS (98 :: r.flatMap wl)).map (·.length)).sum + (r.map sW ++ rs.map fun r => sS (98 :: r.flatMap wl)).length ≤ 1048576 := by
  have a := words_sum sW_len r
  have b : ((rs.map fun r => sS (98 :: r.flatMap wl)).map (·.length)).sum ≤ rs.length * 13201 := by
    rw [List.map_map]
    refine sum_le_of rs fun q hq => ?_
    have := row_l (h3 q hq)
    show (sS (98 :: q.flatMap wl)).length ≤ 13201
    rw [sS_len] at this ⊢
    rw [List.length_cons]
    omega
  rw [List.map_append, List.sum_append, List.length_append, List.length_map, List.length_map]
  omega
theorem pTab_small : ∀ (lo : List (List Nat)), ∀ q ∈ pTab lo, q.1.length ≤ 700 ∧ q.2.length ≤ 700 := by
  have hw : ∀ c, (wpc c).1.length ≤ 700 ∧ (wpc c).2.length ≤ 700 := fun c => ⟨by show (sS []).length ≤ 700; decide, Nat.le_trans (sW_len c) (by decide)⟩
  have ho : opc.1.length ≤ 700 ∧ opc.2.length ≤ 700 := by decide
  intro lo q hq
  cases lo with
  | nil => cases hq
  | cons r rs =>
    rw [pTab] at hq
    rcases List.mem_append.mp hq with h | h
    · obtain ⟨c, _, rfl⟩ := List.mem_map.mp h
      exact hw c
    · obtain ⟨r', _, h⟩ := List.mem_flatMap.mp h
      rcases List.mem_cons.mp h with rfl | h
      · exact ho
      · obtain ⟨c, _, rfl⟩ := List.mem_map.mp h
        exact hw c
theorem tab_fst (bk : List (Bool × Nat)) : (tabOf bk).map (·.1) = bk.map fun q => sp q.1 q.2 := by unfold tabOf; rw [List.map_map]; rfl
theorem sp_abs {bk : List (Bool × Nat)} : ∀ z ∈ bk.map fun q => sp q.1 q.2, AB z := fun z hz => by
  obtain ⟨q, _, rfl⟩ := List.mem_map.mp hz
  intro c hc
  have := sp_asc q.1 q.2 c hc
  omega
theorem tab_grown {B h : Heap} {P : Addr} {pos : Pos} {qual : Str} (x : TabSt B P pos qual h) : GrownAt P h := by
  rcases x with x | ⟨_, _, _, _, x, _⟩ <;> exact ⟨_, x⟩
theorem tab_at' {bk : List (Bool × Nat)} {i : Nat} {k y : Str} (h : (tabOf bk)[i]? = some (k, y)) : ∃ q, bk[i]? = some q ∧ k = sp q.1 q.2 ∧ y = nmS q.2 := by
  unfold tabOf at h
  rw [List.getElem?_map] at h
  cases e : bk[i]? with
  | none => rw [e] at h; cases h
  | some q => rw [e] at h; cases h; exact ⟨q, rfl, rfl, rfl⟩
end Mine
namespace Mine
/-- how the law ends -/
structure LawEnd (s₁ : Shared) (tabs : List (Addr × Addr)) (r : Result) (s' : Shared) : Prop where
  res : r = .ok (.ret (.bool true))
  keep : (ghostOf s₁.heap tabs).StaysIn s'.heap
  os : s'.os = s₁.os
  gens : AllBare s'.gens
  grown : GrownAll tabs s'.heap
theorem my_post {M : Model} {A : Around} {cd : Code} {s s₁ : Shared} {cw : ClaimW} {cl : Str → Option Addr} {mean : ExcName → Option Value} {args : List WData} {tabs : List (Addr × Addr)} (hT : TabsAt tabs s₁.heap) (hr : ∀ a x, cw.raises a x = false)
    (hp : cw.post args (.bool true) args = true) (h : codeAny M A cd (LawEnd s₁ tabs) s) : codeAny M A cd (GoodWG cw cl mean args s₁) s := by
  refine codeAny_mono h fun r s' e => ?_
  have grown : ∀ b o, b ∈ tabs.map (·.2) → s₁.heap.get? b = some o → isCodeTable s₁.heap b ∧ o = tabObj #[] ∧ ∃ ps, s'.heap.get? b = some (tabObj ps) := by
    intro b o hb eb
    obtain ⟨q, hq, rfl⟩ := List.mem_map.mp hb
    obtain ⟨h1, h2⟩ := hT q hq
    rw [eb] at h2
    exact ⟨(h1.tab (hT q hq).2).isCodeTable, Option.some.inj h2, e.grown.get q hq⟩
  have keep : ∀ b o, b ∉ tabs.map (·.2) → s₁.heap.get? b = some o → s'.heap.get? b = some o := fun b o hb eb => e.keep b o (ghost_ne eb hb)
  refine ⟨.inl ⟨.bool true, .bool true, [], e.res, fun cls => hr _ _, .bool _, hp, fun _ => ⟨List.nodup_nil, fun _ h => absurd h List.not_mem_nil⟩⟩, ⟨fun b o eb => ?_, fun b o eb => ?_⟩, e.os, e.gens⟩
  · by_cases hb : b ∈ tabs.map (·.2)
    · obtain ⟨h1, rfl, ps, h3⟩ := grown b o hb eb
      exact .inr (.inl ⟨h1, rfl, #[], ps, rfl, by rw [Array.empty_append]; exact h3⟩)
    · exact .inl (keep b o hb eb)
  · by_cases hb : b ∈ tabs.map (·.2)
    · obtain ⟨_, _, ps, h3⟩ := grown b o hb eb
      exact ⟨_, h3⟩
    · exact ⟨o, keep b o hb eb⟩
theorem roomA (env : Env) : Room (callerA.deeper env) 60 := ⟨rfl, by show callerA.depth + 1 + 60 < recursionLimit; decide, by show callerA.units + 3 + 10 * 60 < cLine; decide⟩
theorem law_says (args : List WData) : PySem.Challenge.rw_un0043_01.row.toRowW.claim.post args (.bool true) args = true := by kernel_rfl
theorem room_u {A : Around} (hA : Room A 60) : A.units + 64 < cLine := Nat.lt_of_le_of_lt (Nat.add_le_add_left (by decide : 64 ≤ 10 * 60) _) hA.hu
end Mine
namespace Mine
end Mine
--LINES
local macro_rules | `(tactic| walk_at "call ref") => `(tactic| (k_here; (with_reducible show wpAny _ _ (call (Value.ref 302) _ _) _ _ _); k_dflt (refine Mine.halt_of ?_)))
local macro_rules | `(tactic| walk_at "call ref") => `(tactic| (k_here; (with_reducible show wpAny _ _ (call (Value.ref 321) _ _) _ _ _); k_dflt (refine Mine.halt_of ?_)))
local macro_rules | `(tactic| walk_at "call ref") => `(tactic| (k_here; (with_reducible show wpAny _ _ (call (Value.ref 314) _ _) _ _ _); k_dflt (refine Mine.halt_of ?_)))
local macro_rules | `(tactic| walk_at "call ref") => `(tactic| (k_here; (with_reducible show wpAny _ _ (call (Value.ref 328) _ _) _ _ _); k_dflt (refine Mine.halt_of ?_)))
local macro_rules | `(tactic| walk_at "call ref") => `(tactic| (k_here; (with_reducible show wpAny _ _ (call (Value.ref 154) _ _) _ _ _); k_dflt (refine Mine.halt_of ?_)))
local macro_rules | `(tactic| walk_at "call ref") => `(tactic| (k_here; (with_reducible show wpAny _ _ (call (Value.ref 291) _ _) _ _ _); k_dflt (refine Mine.halt_of ?_)))
local macro_rules | `(tactic| walk_at "call ref") => `(tactic| (k_here; (with_reducible show wpAny _ _ (call (Value.ref 243) _ _) _ _ _); k_dflt (refine Mine.halt_of ?_)))
local macro_rules | `(tactic| walk_at "call ref") => `(tactic| (k_here; (with_reducible show wpAny _ _ (call (Value.ref 255) _ _) _ _ _); k_dflt (refine Mine.halt_of ?_)))
local macro_rules | `(tactic| walk_at "call type:str") => `(tactic| (k_here; (with_reducible show wpAny _ _ (call (Value.type "str") [Value.ref _] _) _ _ _); k_dflt (refine Mine.halt_of ?_)))
local macro_rules | `(tactic| walk_at "callWith ref") => `(tactic| (k_here; (with_reducible show wpAny _ _ (callWith _ (Value.ref 243) _ _ _) _ _ _); k_dflt (refine Mine.halt_of ?_)))
local macro_rules | `(tactic| walk_at "callWith ref") => `(tactic| (k_here; (with_reducible show wpAny _ _ (callWith _ (Value.ref 255) _ _ _) _ _ _); k_dflt (refine Mine.halt_of ?_)))
local macro_rules | `(tactic| walk_at "callWith ref") => `(tactic| (k_here; (with_reducible show wpAny _ _ (callWith _ (Value.ref 291) _ _ _) _ _ _); k_dflt (refine Mine.halt_of ?_)))
local macro_rules | `(tactic| walk_at "callWith ref") => `(tactic| (k_here; (with_reducible show wpAny _ _ (callWith _ (Value.ref 154) _ _ _) _ _ _); k_dflt (refine Mine.halt_of ?_)))
local macro_rules | `(tactic| walk_at "call builtin:list.append") => `(tactic| (k_here; k_dflt (refine Mine.halt_of ?_)))
local macro_rules | `(tactic| walk_at "call builtin:list.pop") => `(tactic| (k_here; k_dflt (refine Mine.halt_of ?_)))
local macro_rules | `(tactic| walk_at "storeName") => `(tactic| (k_here; (with_reducible show wpAny _ _ (storeName _ (PySem.Str.ofString "word") _) _ _ _); k_dflt (refine Mine.halt_of ?_)))
local macro_rules | `(tactic| walk_at "subscriptTail Name UnaryOp ref int") => `(tactic| (k_here; k_dflt (refine Mine.halt_of ?_)))
local macro_rules | `(tactic| walk_at "subscriptTail Name Constant ref int") => `(tactic| (k_here; k_dflt (refine Mine.halt_of ?_)))
local macro_rules | `(tactic| walk_at "CompSrcT") => `(tactic| (k_here; k_dflt (refine Mine.halt_of ?_)))
local macro_rules | `(tactic| walk_at "compareOp Eq ref ref") => `(tactic| (k_here; k_dflt (refine Mine.halt_of ?_)))
local macro_rules | `(tactic| walk_at "exec For Tuple Call cons nil") => `(tactic| (k_here; k_dflt (refine Mine.halt_of ?_)))
local macro_rules | `(tactic| walk_at "pyIter ref") => `(tactic| (k_here; k_dflt (refine Mine.halt_of ?_)))
local macro_rules | `(tactic| walk_at "exec For Name Call cons nil") => `(tactic| (k_here; (with_reducible show wpAny _ _ (exec (Stmt.For (Expr.Name (PySem.Str.ofString "place") _) _ _ _ _) _) _ _ _); k_dflt (refine Mine.halt_of ?_)))
local macro_rules | `(tactic| kn_posts) => `(tactic| refine Mine.my_post (by assumption) (fun _ _ => rfl) (Mine.law_says _) ?_)
--END
theorem PySem.Challenge.cw_un0043_01_holds : PySem.Challenge.rw_un0043_01.Holds := by
  refine Mine.hd ?_
  w_on
  k_fill
  intro w s₀ s₁ mg mb G Y fa o pm cd doc dV kV ho hd9 hcd hD hmg hg args vals as hpre hlay hrd hwl hlo
  have KX := km_in_of Y
  have hT8 := km_tabs_of Y
  have X := (Ground.X G).1
  have V := (Ground.X G).2
  refine Ground.open G ?_
  intro T B D TE TW
  try (refine guard_noD D (by decide +kernel) ?_; clear D)
  have hT9 : TabsAt [(73, 69), (66, 62), (52, 48), (127, 123)] s₁.heap := by
    intro q hq
    simp only [List.mem_cons, List.not_mem_nil, or_false] at hq
    rcases hq with rfl | rfl | rfl | rfl
    · exact ⟨codeHd_of_K KX (by kernel_rfl), hT8 69 (by decide)⟩
    · exact ⟨codeHd_of_K KX (by kernel_rfl), hT8 62 (by decide)⟩
    · exact ⟨codeHd_of_K KX (by kernel_rfl), hT8 48 (by decide)⟩
    · exact ⟨codeHd_of_K KX (by kernel_rfl), hT8 123 (by decide)⟩
  clear hmg
  have hGens := AllBare.of_eq hg
  wrow_args hpre hlay hrd hwl hlo
  all_goals (
    first | refine callC_kw (enter_call ?_) | refine enter_call ?_
    w_top on
    refine Mine.my_post (by assumption) (fun _ _ => rfl) (Mine.law_says _) ?_
    w_call any ho hd9 hcd hD T F
    clear hd9
    kn_ghosts F T
    k_drop
    skip)
  rename Fr _ _ _ _ => F0
  rename Top _ _ _ _ _ _ => T0
  rename _ = Data.cell _ => hc0
  replace hc0 := hc0.trans (show _ = Data.cell none from rfl)
  rename IntsAre _ _ => hI0
  rename Heap.IsList _ _ _ => hLs
  rename ¬ ((63 : Nat) : Int) < _ => hlen0
  replace F0 := Mine.fr_same F0 (m' := fun y => if y = PySem.Str.ofString "script" then some (Value.ref _) else none) (fun y => by rfl)
  have mk9 : True := trivial
  show wpAny _ _ _ _ _ _
  k_fold
  k_steps
  show wpAny _ _ (call _ _) _ _ _
  rename Frag.In _ _ => Xg
  rename Fr _ _ _ _ => F1
  rename News _ _ _ _ => N1
  refine Mine.text_c Xg T0 ((Mine.roomA _).mono (by decide)) (fun b o e => F1.keep b o e) (Heap.IsList.at hLs fun o e => F1.keep _ _ e) hI0 (by omega) ?_
  intro h2 tk2 t2 ltx dtx st2 hPre hl17
  have hOk := hPre.ok _ (Mine.Ok.tail dtx hPre.le.2)
  have hlt : (Mine.sS (ltx ++ List.replicate dtx 97)).length ≤ 22 := by
    rw [Mine.sS_len, List.length_append, List.length_replicate, hl17]
    have := hPre.le
    omega
  clear hPre hl17
  generalize ltx ++ List.replicate dtx 97 = tx at hOk hlt ⊢
  have F2 := F1.keeps st2
  have N2 := Mine.News.st N1 st2
  clear F1 N1
  k_steps
  show wpAny _ _ _ _ _ _
  rename Fr _ _ _ _ => F3
  rename News _ _ _ _ => N3
  refine callWith_K0 (K := Mine.hd.heap_1 w.params) (Frag.In.keeps Xg F3.keep) (by k_is) ?_
  show wpAny _ _ (call _ []) _ _ _
  refine Mine.acc_c Xg T0 ((Mine.roomA _).mono (by decide)) (fun b o e => F3.keep b o e) ?_
  intro h4 tk4 P dx hs tt ti en np hP hdx hP0 hdx0 st4
  have F4 := F3.keeps st4
  have N4 := Mine.news_fresh F3 (Mine.News.st N3 st4) hP0 hP
  replace N4 := Mine.news_fresh F3 N4 hdx0 hdx
  have offP := Mine.news_off N3 hP0
  have offx := Mine.news_off N3 hdx0
  have nePx : P ≠ dx := Mine.ne_obj hP hdx (by simp [Mine.accO])
  have lt9 : ∀ q ∈ [(73, 69), (66, 62), (52, 48), (127, 123)], @LT.lt Nat _ q.2 s₁.heap.objs.size := fun q hq => Heap.lt_size (hT9 q hq).2
  clear F3 N3
  k_steps
  show wpAny _ _ _ _ _ _
  rename Fr _ _ _ _ => F5
  rename News _ _ _ _ => N5
  refine callWith_K0 (K := Mine.hd.heap_1 w.params) (Frag.In.keeps Xg F5.keep) (by k_is) ?_
  show wpAny _ _ (call _ []) _ _ _
  refine Mine.headers_c Xg T0 ((Mine.roomA _).mono (by decide)) F5 N5 ?_
  intro h6 tk6 H dh l hs2 tt2 hn kl F6 N6 off6 ne6
  clear F5 N5
  k_steps
  show wpAny _ _ (exec _ _) _ _ _
  refine wpAny_For ?_
  k_steps
  show wpAny _ _ (pyIter _) _ _ _
  rename Fr _ _ _ _ => F7
  rename News _ _ _ _ => N7
  rename IsRange _ _ _ _ _ _ _ _ => R7
  refine Mine.with_first N7 fun DU hE => ?_
  subst hE
  refine Mine.with_first (Mine.news_tl N7) fun RW hE => ?_
  subst hE
  refine Mine.with_first (Mine.news_tl (Mine.news_tl N7)) fun r0 hE => ?_
  subst hE
  refine Mine.with_heap N7 fun h7 hE => ?_
  subst hE
  have nd0 : (Mine.lA h7.objs.size DU RW H dh l dx P (s₁.heap.objs.size + 1) [r0]).Nodup := by
    have b5 : ([s₁.heap.objs.size + 1, 69, 62, 48, 123] : List Addr).Nodup := by
      have a1 := lt9 (73, 69) (by simp)
      have a2 := lt9 (66, 62) (by simp)
      have a3 := lt9 (52, 48) (by simp)
      have a4 := lt9 (127, 123) (by simp)
      clear lt9
      simp only [List.nodup_cons, List.mem_cons, List.not_mem_nil, or_false, not_or, not_false_eq_true, List.nodup_nil, and_true]
      exact ⟨⟨Nat.ne_of_gt (Nat.lt_succ_of_lt a1), Nat.ne_of_gt (Nat.lt_succ_of_lt a2), Nat.ne_of_gt (Nat.lt_succ_of_lt a3), Nat.ne_of_gt (Nat.lt_succ_of_lt a4)⟩, by decide, by decide, by decide⟩
    have bP := Mine.nd_push b5 rfl offP
    have bx := Mine.nd_push (ns := (P, tabObj #[]) :: _) bP rfl (fun q hq => by rcases List.mem_cons.mp hq with rfl | hq; exact nePx; exact offx q hq)
    have bl := Mine.nd_push bx rfl (fun q hq => (off6 q hq).2.2)
    have bd := Mine.nd_push (ns := (l, tabObj #[]) :: _) bl rfl (fun q hq => by rcases List.mem_cons.mp hq with rfl | hq; exact ne6.2.2.symm; exact (off6 q hq).2.1)
    have bH := Mine.nd_push (ns := (dh, tabObj #[]) :: (l, tabObj #[]) :: _) bd rfl (fun q hq => by rcases List.mem_cons.mp hq with rfl | hq; exact ne6.1.symm; rcases List.mem_cons.mp hq with rfl | hq; exact ne6.2.1.symm; exact (off6 q hq).1)
    have b0 : ∀ b ∈ [H, dh, l, dx, P, s₁.heap.objs.size + 1, 69, 62, 48, 123], @LT.lt Nat _ b r0 := by
      intro b hb
      simp only [List.mem_cons, List.not_mem_nil, or_false] at hb
      rcases hb with rfl | rfl | rfl | rfl | rfl | rfl | rfl | rfl | rfl | rfl
      · omega
      · omega
      · omega
      · omega
      · omega
      · omega
      · exact (show (69 : Nat) < r0 by omega)
      · exact (show (62 : Nat) < r0 by omega)
      · exact (show (48 : Nat) < r0 by omega)
      · exact (show (123 : Nat) < r0 by omega)
    have lRW : @LT.lt Nat _ r0 RW := by omega
    have lDU : @LT.lt Nat _ RW DU := by omega
    have bR := List.nodup_cons.mpr ⟨fun hm => Nat.lt_irrefl _ (Nat.lt_trans (b0 RW hm) lRW), bH⟩
    have bD := List.nodup_cons.mpr ⟨fun hm => by
      rcases List.mem_cons.mp hm with e | hm
      · exact Nat.lt_irrefl _ (e ▸ lDU)
      · exact Nat.lt_irrefl _ (Nat.lt_trans (b0 DU hm) (Nat.lt_trans lRW lDU)), bR⟩
    have bn := Mine.nd_snoc bD (fun b hb => by
      rcases List.mem_cons.mp hb with rfl | hb
      · exact Nat.ne_of_gt (Nat.lt_trans lRW lDU)
      rcases List.mem_cons.mp hb with rfl | hb
      · exact Nat.ne_of_gt lRW
      exact Nat.ne_of_lt (b0 b hb))
    refine List.nodup_cons.mpr ⟨fun hm => ?_, bn⟩
    have up : ∀ b ∈ [DU, RW, H, dh, l, dx, P, s₁.heap.objs.size + 1, 69, 62, 48, 123] ++ [r0], b < h7.objs.size := fun b hb => by
      have hb2 : b ∈ [DU, RW, r0, H, dh, l, dx, P, s₁.heap.objs.size + 1, 69, 62, 48, 123] := by
        simp only [List.mem_append, List.mem_cons, List.not_mem_nil, or_false] at hb ⊢
        rcases hb with (h | h | h | h | h | h | h | h | h | h | h | h) | h <;> simp [h]
      exact Mine.news_lt N7 rfl b hb2
    exact Nat.lt_irrefl _ (up _ hm)
  have NP := Mine.news_rot (News.push F7 N7 (Mine.rIter 0 (Mine.sS tx).length))
  have n48 := (NP (48, tabObj #[]) (by simp)).2.2
  have n69 := (NP (69, tabObj #[]) (by simp)).2.2
  have n62 := (NP (62, tabObj #[]) (by simp)).2.2
  have n123 := (NP (123, tabObj #[]) (by simp)).2.2
  have c48 : CodeHd (ghostOf s₁.heap [(73, 69), (66, 62), (52, 48), (127, 123)]) 52 48 := codeHd_of_K Xg (by kernel_rfl)
  have c69 : CodeHd (ghostOf s₁.heap [(73, 69), (66, 62), (52, 48), (127, 123)]) 73 69 := codeHd_of_K Xg (by kernel_rfl)
  have c62 : CodeHd (ghostOf s₁.heap [(73, 69), (66, 62), (52, 48), (127, 123)]) 66 62 := codeHd_of_K Xg (by kernel_rfl)
  have c123 : CodeHd (ghostOf s₁.heap [(73, 69), (66, 62), (52, 48), (127, 123)]) 127 123 := codeHd_of_K Xg (by kernel_rfl)
  refine Mine.for_any (fun i I s' => ∃ lo bk d u h gens dr tk ra rv vs us dus oC o48 o69 o62 cv ps np k kr kd own cods, s' = ⟨h, gens, dr, tk, s₁.os⟩ ∧ AllBare gens ∧ Mine.St lo bk i d ∧ Mine.Ok d (tx.drop i) ∧
      Fr (ghostOf s₁.heap [(73, 69), (66, 62), (52, 48), (127, 123)]) s₁.heap.objs.size h (Mine.mT (.str (Mine.sS tx) t2) P H RW DU u) ∧
      Mine.LS (ghostOf s₁.heap [(73, 69), (66, 62), (52, 48), (127, 123)]) s₁.heap.objs.size P dx H dh l RW DU hs hs2 tt ti tt2 en hn I (Mine.rIter i (Mine.sS tx).length) lo bk h ra rv vs us dus oC o48 o69 o62 cv ps np k kr kd own cods)
    (Mine.roomA _).hh R7 (by omega) ?_ ?_ ?_
  · refine ⟨[[]], [], 0, _, _, _, _, _, [r0], [([], 0)], [], [], [], _, _, _, _, _, #[], np, kl, 0, 0, [], [], rfl, ?_, Mine.St.start, hOk, Mine.fr_same (F7.push _) (Mine.mT_self rfl rfl rfl rfl rfl), ⟨NP, ?_, nd0, ?_, rfl, ?_, ?_, ?_, .nil, hc0, .inl rfl, ?_⟩⟩
    · exact hGens
    · exact fun _ h => nomatch h
    · exact fun _ h => nomatch h
    · exact ⟨rfl, fun j q hq => by
        cases j with
        | zero => cases hq; exact ⟨[], rfl, .nil⟩
        | succ j => simp at hq⟩
    · exact ⟨rfl, fun i v hv => by simp at hv⟩
    · exact ⟨rfl, fun i v hv => by simp at hv⟩
    · exact ⟨n48, c48, n69, c69, n62, c62, (fun _ h => nomatch h), fun _ _ e _ => .inl e, fun _ _ e _ => .inl e, fun _ _ e _ => .inl e⟩
  ·
    --SKIP
    clear F7 N7 R7 NP nd0 n48 n69 n62 n123 c48 c69 c62 hOk offP offx off6 nePx ne6 lt9
    clear hGens st2 hP hdx hP0 hdx0 st4
    intro J9 hJ9 i I s' hi hJ
    obtain ⟨lo, bk, d, u, h, gens, dr, tk, ra, rv, vs, us, dus, oC, o48, o69, o62, cv, ps, np, k, kr, kd, own, cods, rfl, hG, hSt, hD, F, S⟩ := hJ
    refine ⟨(S.N (I, _) (.head _)).1, fun h' t hI' hsb => ?_⟩
    have F2 := Mine.Fr.keep1 F S.N (.head _) (Mine.keep_of hsb)
    have N2 := Mine.News.app (Mine.news_set S.N S.nd (i := 0) rfl (by simp) (Mine.keep_of hsb) hI') (Mine.imm_keep S.Nt S.imm (Mine.keep_of hsb) (fun a ha => by rw [List.mem_singleton.mp ha]; exact ⟨_, (S.N (I, _) (.head _)).1, Mine.riter_imm⟩))
    replace N2 : News _ _ h' ((I, _) :: (DU, _) :: (RW, _) :: (H, _) :: (dh, _) :: (l, _) :: (dx, _) :: (P, _) :: (s₁.heap.objs.size + 1, _) :: (69, _) :: (62, _) :: (48, _) :: (123, _) :: (ra.zip (rv.map Mine.rowO) ++ (own ++ cods))) := N2
    clear F hsb
    have hpl : i < tx.length := by rw [Mine.sS_len] at hi; exact hi
    obtain ⟨c, hc, hdr⟩ := Mine.drop_at hpl
    rw [hdr] at hD
    have hvl : vs.length = Mine.pcs lo := S.vsR.1
    have hfew := hSt.few
    have hi22 : i < 22 := by omega
    walk1
    walk1
    dsimp only
    rename Fr _ _ _ _ => F3
    rename News _ _ _ _ => N3
    refine Mine.execs_keep ?_ ?_
    · k_steps
      · show wpAny _ _ (getMethod _ _ _) _ _ _
        rename (Txt.item _ _ == _) = true => hb
        obtain rfl : c = 98 := by
          rw [Mine.item_at hc, Mine.sB] at hb
          exact (List.cons.inj (Mine.sS_inj (beq_iff_eq.mp hb))).1
        obtain ⟨hd5, hD1⟩ := hD.up'
        refine Mine.method_fv (K := Mine.hd.heap_1 w.params) (ga := "list.__getattribute__") (od := some (dictOf (Mine.accE hs tt ti) en)) (Frag.In.keeps Xg F3.keep) ⟨(Mine.news_at N3 7 rfl).1, rfl, rfl, (Mine.news_at N3 6 rfl).1⟩ (by k_is) (by decide +kernel) (by k_is) (by k_is) (by k_is) (by decide) (by rfl) ?_
        k_steps
        show wpAny _ _ (call _ _) _ _ _
        refine Mine.push_c Xg T0 ((Mine.roomA _).mono (by decide)) (fun b o e => F3.keep _ _ e) (by rw [List.size_toArray]; omega) (Mine.news_at N3 7 rfl).1 (Mine.news_at N3 6 rfl).1 (Mine.news_at N3 7 rfl).2.2 rfl (Mine.news_at N3 6 rfl).2.2 ?_
        intro h4 tk4 D n4 hP4 hD4 hD0 k4
        obtain ⟨t3, t4, hD4⟩ : ∃ t3 t4, h4.get? D = some (Mine.pairO (.str (Str.ofString "b") t3) (.str (Str.ofString "") t4)) := ⟨_, _, hD4⟩
        rw [List.push_toArray] at hP4
        have F4 := Mine.Fr.keep1 F3 N3 (.tail _ (.tail _ (.tail _ (.tail _ (.tail _ (.tail _ (.tail _ (.head _)))))))) k4
        have A3 := Mine.news_split (a := (Mine.lA I DU RW H dh l dx P (s₁.heap.objs.size + 1) ra).zip (Mine.lO _ _ _ _ _ _ _ _ _ _ _ _ _ rv)) (b := own ++ cods) N3
        have N4 := Mine.news_fresh F3 (Mine.News.app (Mine.news_set A3.1 S.nd (i := 7) rfl (by simp) k4 hP4) (Mine.imm_keep A3.2 S.imm k4 (fun a ha => by rw [List.mem_singleton.mp ha]; exact ⟨_, (Mine.news_at N3 7 rfl).1, Mine.acc_imm⟩))) hD0 hD4
        replace N4 : News _ _ h4 ((D, _) :: (I, _) :: (DU, _) :: (RW, _) :: (H, _) :: (dh, _) :: (l, _) :: (dx, _) :: (P, _) :: (s₁.heap.objs.size + 1, _) :: (69, _) :: (62, _) :: (48, _) :: (123, _) :: (ra.zip (rv.map Mine.rowO) ++ (own ++ cods))) := N4
        clear F3 N3 A3
        k_steps
        show wpAny _ _ (getMethod _ _ _) _ _ _
        rename Fr _ _ _ _ => F5
        rename News _ _ _ _ => N5
        refine getMethod_builtin (T := "list") (id := "list.append") ⟨_, (Mine.news_at N5 3 rfl).1, rfl⟩ PySem.F.plainAttrs_list PySem.F.slot_list_append PySem.F.type_list_append (fun a e => ⟨_, by cases e; exact (Mine.news_at N5 3 rfl).1, rfl⟩) ?_
        k_steps
        show wpAny _ _ (call _ _) _ _ _
        rename Fr _ _ _ _ => F6
        rename News _ _ _ _ => N6
        refine Mine.with_first N6 fun r1 hE => ?_
        subst hE
        rename (@LT.lt Nat _ D r1 ∧ _) => l9
        have hr1 : ∀ b ∈ Mine.lA I DU RW H dh l dx P (s₁.heap.objs.size + 1) ra, b ≠ r1 := Mine.allLt_off (os := Mine.lO (Mine.hdO dh) (Mine.hdO dh) (Mine.hdO dh) (Mine.hdO dh) (Mine.hdO dh) (Mine.hdO dh) (Mine.hdO dh) (Mine.hdO dh) (Mine.hdO dh) (Mine.hdO dh) (Mine.hdO dh) (Mine.hdO dh) (Mine.hdO dh) rv) (tail := own ++ cods) l9.2 (by simp [S.ral])
        have hRWs : ra.length ≤ 100 := by
          have := hSt.len
          have := S.ral
          have := S.rows.1
          omega
        refine Mine.list_append (Mine.news_at N6 4 rfl).1 (Nat.le_trans (by simpa using hRWs : _ ≤ 100) (by decide : 100 ≤ sizeLine)) ?_
        intro h8 k8 hR8 hs8
        have F8 := Mine.Fr.keep1 F6 N6 (.tail _ (.tail _ (.tail _ (.tail _ (.head _))))) (Mine.keep_of hs8)
        have A6 := Mine.news_split (a := (Mine.lA I DU RW H dh l dx P (s₁.heap.objs.size + 1) ra).zip (Mine.lO _ _ _ _ _ _ _ _ _ _ _ _ _ rv)) (b := own ++ cods) (Mine.news_drop N6 2)
        rw [show (List.map Value.ref ra).toArray.push (Value.ref r1) = (List.map Value.ref (ra ++ [r1])).toArray by simp] at hR8
        have NA : News _ _ h8 ((Mine.lA I DU RW H dh l dx P (s₁.heap.objs.size + 1) ra).zip (Mine.lO _ _ _ _ _ _ _ _ _ _ _ _ _ rv)) := Mine.news_set A6.1 S.nd (i := 2) rfl (by simp) (Mine.keep_of hs8) hR8
        have NT := Mine.imm_keep A6.2 S.imm (Mine.keep_of hs8) (fun a ha => by rw [List.mem_singleton.mp ha]; exact ⟨_, (Mine.news_at N6 4 rfl).1, Mine.lst_imm⟩)
        have z1 : News _ _ h8 [(r1, Mine.rowO ([], 0))] := fun q hq => by
          rw [List.mem_singleton.mp hq]
          exact ⟨Mine.keep_of hs8 _ _ (by simpa using (hr1 RW (by simp)).symm) (Mine.news_at N6 0 rfl).1, (Mine.news_at N6 0 rfl).2⟩
        have zD : h8.get? D = some _ ∧ _ := ⟨Mine.keep_of hs8 _ _ (by simpa using Mine.ne_obj (Mine.news_at N6 1 rfl).1 (Mine.news_at N6 4 rfl).1 (by simp [Mine.pairO])) (Mine.news_at N6 1 rfl).1, (Mine.news_at N6 1 rfl).2⟩
        clear F6 N6
        k_steps
        have hne : lo ≠ [] := fun e => by have := hSt.len; rw [e] at this; cases this
        refine ⟨rfl, ?_⟩
        rw [hJ9]
        refine ⟨lo ++ [[]], bk, d + 1, _, h8, gens, dr, _, ra ++ [r1], rv ++ [([], 0)], vs ++ [.ref D], us, dus, oC, o48, o69, o62, cv, ps, n4, k, k8, kd, (D, Mine.pairO (.str (Str.ofString "b") t3) (.str (Str.ofString "") t4)) :: own, cods, rfl, hG, hSt.up, hD1, Mine.fr_same F8 (Mine.mT_self rfl rfl rfl rfl rfl), ?_⟩
        refine ⟨Mine.zip_snoc (as := [I, DU, RW, H, dh, l, dx, P, s₁.heap.objs.size + 1, 69, 62, 48, 123]) (os := [_, _, _, _, _, _, _, _, _, _, _, _, _]) NA rfl S.ral z1, fun q hq => ?_, Mine.nd_snoc S.nd hr1, fun q hq => ?_, by simp [S.ral], S.rows.snoc (q := ([], 0)) .nil, ?_, S.usR.mono (fun q hq => .tail _ hq), S.due, S.hC, S.tab, S.C⟩
        · rcases List.mem_cons.mp hq with rfl | hq
          · exact zD
          · exact NT q hq
        · rcases List.mem_cons.mp hq with rfl | hq
          · exact .inl ⟨_, _, rfl⟩
          · exact S.imm q hq
        · rw [Mine.pTab_open hne, Mine.opc_eq]
          exact S.vsR.snoc
      · show wpAny _ _ (getMethod _ _ _) _ _ _
        rename (Txt.item _ _ == _) = false => hb
        obtain rfl : c = 97 := by
          rcases hD.or' with rfl | rfl
          · rw [Mine.item_at hc, Mine.sB] at hb
            exact absurd hb (by simp)
          · rfl
        obtain ⟨e, rfl, hd5, hD1⟩ := hD.down'
        obtain ⟨ini, r, ws, rfl, hini⟩ := hSt.split
        have hrl : rv.length = e + 2 := by rw [S.rows.1]; simp [hini]
        obtain ⟨ra0, ar, aw, rfl, hra0⟩ := Mine.last_two (S.ral.trans hrl)
        obtain ⟨rv0, qr, qw, rfl, hrv0⟩ := Mine.last_two hrl
        have elo : ini ++ [r, ws] = ini ++ [r] ++ [ws] := by simp
        have hrows := S.rows
        rw [elo] at hrows
        obtain ⟨hrows1, hSw⟩ := hrows.init
        obtain ⟨hrows0, hSr⟩ := hrows1.init
        have h0l : ra0.length = rv0.length := hra0.trans hrv0.symm
        have A3 := Mine.news_split (a := (Mine.lA I DU RW H dh l dx P (s₁.heap.objs.size + 1) (ra0 ++ [ar] ++ [aw])).zip (Mine.lO _ _ _ _ _ _ _ _ _ _ _ _ _ (rv0 ++ [qr] ++ [qw]))) (b := own ++ cods) N3
        have B3 := Mine.zip_init (as := [I, DU, RW, H, dh, l, dx, P, s₁.heap.objs.size + 1, 69, 62, 48, 123]) (os := [_, _, _, _, _, _, _, _, _, _, _, _, _]) A3.1 rfl (by simp [h0l])
        have C3 := Mine.zip_init (as := [I, DU, RW, H, dh, l, dx, P, s₁.heap.objs.size + 1, 69, 62, 48, 123]) (os := [_, _, _, _, _, _, _, _, _, _, _, _, _]) B3.1 rfl h0l
        have nd2 := Mine.nd_front (as := [I, DU, RW, H, dh, l, dx, P, s₁.heap.objs.size + 1, 69, 62, 48, 123]) S.nd
        have N4 : News _ _ _ ((ar, Mine.rowO qr) :: (aw, Mine.rowO qw) :: (I, _) :: (DU, _) :: (RW, _) :: (H, _) :: (dh, _) :: (l, _) :: (dx, _) :: (P, _) :: (s₁.heap.objs.size + 1, _) :: (69, _) :: (62, _) :: (48, _) :: (123, _) :: (ra0.zip (rv0.map Mine.rowO) ++ (own ++ cods))) := Mine.News.app C3.2 (Mine.News.app B3.2 (Mine.News.app C3.1 A3.2))
        have T3 := A3.2
        clear N3 A3 B3 C3
        refine getMethod_builtin (T := "list") (id := "list.pop") ⟨_, (Mine.news_at N4 4 rfl).1, rfl⟩ PySem.F.plainAttrs_list PySem.F.slot_list_pop PySem.F.type_list_pop (fun a e => ⟨_, by cases e; exact (Mine.news_at N4 4 rfl).1, rfl⟩) ?_
        k_steps
        show wpAny _ _ (call _ _) _ _ _
        have hw20 : ws.length ≤ 20 := by have := hSt.few2; omega
        have hra9 : (ra0 ++ [ar]).length ≤ 100 := by
          rw [List.length_append, hra0, List.length_singleton]
          omega
        refine Mine.list_pop (vs := (ra0 ++ [ar]).map Value.ref) (v := .ref aw) (k := kr) (by rw [show (ra0 ++ [ar]).map Value.ref ++ [Value.ref aw] = (ra0 ++ [ar] ++ [aw]).map Value.ref by simp]; exact (Mine.news_at N4 4 rfl).1) (by simpa using hra9) ?_
        intro h5 k5 hR5 hs5
        have F5 := Mine.Fr.keep1 F3 N4 (.tail _ (.tail _ (.tail _ (.tail _ (.head _))))) (Mine.keep_of hs5)
        have A4 := Mine.news_split (a := (ar :: aw :: Mine.lA I DU RW H dh l dx P (s₁.heap.objs.size + 1) ra0).zip (Mine.rowO qr :: Mine.rowO qw :: Mine.lO _ _ _ _ _ _ _ _ _ _ _ _ _ rv0)) (b := own ++ cods) N4
        have T5 := Mine.imm_keep A4.2 S.imm (Mine.keep_of hs5) (fun a ha => by rw [List.mem_singleton.mp ha]; exact ⟨_, (Mine.news_at N4 4 rfl).1, Mine.lst_imm⟩)
        have N5 : News _ _ h5 ((ar, Mine.rowO qr) :: (aw, Mine.rowO qw) :: (I, _) :: (DU, _) :: (RW, _) :: (H, _) :: (dh, _) :: (l, _) :: (dx, _) :: (P, _) :: (s₁.heap.objs.size + 1, _) :: (69, _) :: (62, _) :: (48, _) :: (123, _) :: (ra0.zip (rv0.map Mine.rowO) ++ (own ++ cods))) := Mine.News.app (Mine.news_set A4.1 nd2 (i := 4) rfl (by simp) (Mine.keep_of hs5) hR5) T5
        clear F3 N4 A4 T3
        k_steps
        show wpAny _ _ (call _ _) _ _ _
        refine Mine.word_c (t := t2) Xg T0 ((Mine.roomA _).mono (by decide)) (fun b o e => F5.keep _ _ e) ⟨_, (Mine.news_at N5 1 rfl).1, rfl, _, rfl⟩ hSw (hSt.top16 hini) hw20 ?_
        intro h6 tk6' t6 st6
        have F6 := F5.keeps st6
        have N6 := Mine.News.st N5 st6
        clear F5 N5 T5
        k_steps
        show wpAny _ _ (storeName _ _ _) _ _ _
        k_dflt (refine wpAny_storeName_cell rfl rfl rfl ⟨oC, (Mine.news_at N6 10 rfl).1, S.hC⟩ fun h7 hv7 hs7 => ?_)
        obtain ⟨oC7, hC7, hd7⟩ := hv7
        obtain ⟨F7, N7⟩ := Mine.led_up (as := ar :: aw :: Mine.lA I DU RW H dh l dx P (s₁.heap.objs.size + 1) ra0) (os := Mine.rowO qr :: Mine.rowO qw :: Mine.lO _ _ _ _ _ _ _ _ _ _ _ _ _ rv0) (tail := own ++ cods) F6 N6 nd2 S.imm 10 rfl rfl (Mine.cell_imm S.hC) (Mine.keep_of hs7) hC7
        replace N7 : News _ _ h7 ((ar, Mine.rowO qr) :: (aw, Mine.rowO qw) :: (I, _) :: (DU, _) :: (RW, _) :: (H, _) :: (dh, _) :: (l, _) :: (dx, _) :: (P, _) :: (s₁.heap.objs.size + 1, _) :: (69, _) :: (62, _) :: (48, _) :: (123, _) :: (ra0.zip (rv0.map Mine.rowO) ++ (own ++ cods))) := N7
        clear F6 N6
        k_steps
        show wpAny _ _ (subscriptTail _ _ _ _) _ _ _
        k_dflt (refine' Mine.sub_list (vs := (ra0 ++ [ar]).map Value.ref) (x := .ref ar) ⟨_, (Mine.news_at N7 4 rfl).1, rfl, _, rfl⟩ (.inr ⟨rfl, by simp⟩) (by decide) ?s ?t ?_; (case s => with_unfolding_all rfl); (case t => kmk_pure))
        k_steps
        show wpAny _ _ (getMethod _ _ _) _ _ _
        refine getMethod_builtin (T := "list") (id := "list.append") ⟨_, (Mine.news_at N7 0 rfl).1, rfl⟩ PySem.F.plainAttrs_list PySem.F.slot_list_append PySem.F.type_list_append (fun a e => ⟨_, by cases e; exact (Mine.news_at N7 0 rfl).1, rfl⟩) ?_
        k_steps
        show wpAny _ _ (call _ _) _ _ _
        have hr20 : qr.1.length ≤ 20 := by
          have a := hSr.length
          have b := Mine.row_le ini r
          have c := hSt.few2
          rw [List.length_map] at a
          omega
        refine Mine.list_append (l := ar) (vs := qr.1.toArray) (k := qr.2) (Mine.news_at N7 0 rfl).1 (Nat.le_trans (by simpa using hr20 : _ ≤ 20) (by decide : 20 ≤ sizeLine)) ?_
        intro h8 k8 hr8 hs8
        rw [List.push_toArray] at hr8
        obtain ⟨F8, N8⟩ := Mine.led_up (as := ar :: aw :: Mine.lA I DU RW H dh l dx P (s₁.heap.objs.size + 1) ra0) (os := Mine.rowO qr :: Mine.rowO qw :: Mine.lO _ _ _ _ _ _ _ _ _ _ _ _ _ rv0) (tail := own ++ cods) F7 N7 nd2 S.imm 0 rfl rfl Mine.lst_imm (Mine.keep_of hs8) hr8
        replace N8 : News _ _ h8 ((ar, Mine.rowO (qr.1 ++ [Value.str (Mine.sS (Mine.wl (Mine.orAll ws))) t6], k8)) :: (aw, Mine.rowO qw) :: (I, _) :: (DU, _) :: (RW, _) :: (H, _) :: (dh, _) :: (l, _) :: (dx, _) :: (P, _) :: (s₁.heap.objs.size + 1, _) :: (69, _) :: (62, _) :: (48, _) :: (123, _) :: (ra0.zip (rv0.map Mine.rowO) ++ (own ++ cods))) := N8
        clear F7 N7
        k_steps
        show wpAny _ _ (eval _ _) _ _ _
        rename Fr _ _ _ _ => F9
        rename News _ _ _ _ => N9
        k_dflt (refine LCt.ListComp_T (F₀ := F9) (by with_unfolding_all rfl) (by decide) (by rfl) (by decide) (by rfl) ?_)
        k_steps
        show LCt.CompSrcT _ _ _ _ _ _ _ _ _ _ _ _ _ _ _
        have hdl : dus.length = bk.length := by have := S.due.length; simpa using this
        have hn5 := hSt.new16 hini hd5
        have hbl := hSt.bkl
        refine LCt.CompSrcT.ledger (k := kd) (Mine.roomA _).hh F9 N9 (.tail _ (.tail _ (.tail _ (.head _)))) (Nat.le_trans (by simp [hdl]; omega : _ ≤ 22) (by decide : 22 ≤ sizeLine)) ?_
        intro g9
        refine Mine.comp_restT (fun j ys => StrsAre ys (Mine.flt bk (Mine.orAll ws) j)) (.inr ⟨_, .tail _ (.tail _ (.tail _ (.head _))), rfl, _, rfl⟩) .nil ?_ ?_
        · clear F9 N9
          intro j v I9 oI9 C9 oC9 D9 m₂ h9 tk9 E' ys hj hR9 hv9 hC9 hx9 F9 N9 off9 ne9
          obtain ⟨x, t9, hxb, rfl⟩ := Mine.StrsAre_get S.due (show dus[j]? = some v by simpa using hv9)
          obtain ⟨q, hq, rfl⟩ : ∃ q, bk[j]? = some q ∧ x = Mine.sp q.1 q.2 := by
            rw [List.getElem?_map] at hxb
            cases e9 : bk[j]? with
            | none => rw [e9] at hxb; cases hxb
            | some q => rw [e9] at hxb; exact ⟨q, rfl, (Option.some.inj hxb).symm⟩
          have hfs := Mine.flt_step (n := Mine.orAll ws) hq
          have hxl : (Mine.sp q.1 q.2).length ≤ 600 := by rw [Mine.sp_len]; exact Mine.wl_len _
          k_steps
          · rename (Txt.lower _ == _) = true => hq1
            rw [if_pos (show (Txt.lower (Mine.sp q.1 q.2) == Mine.sW (Mine.orAll ws)) = true from hq1)] at hfs
            exact ⟨by rw [hfs]; exact Mine.StrsAre_append hR9 (.cons _ _ .nil), _, _, rfl, F9, N9⟩
          · rename (Txt.lower _ == _) = false => hq1
            rw [if_neg (by rw [show (Txt.lower (Mine.sp q.1 q.2) == Mine.sW (Mine.orAll ws)) = false from hq1]; decide), List.append_nil] at hfs
            exact ⟨by rw [hfs]; exact hR9, _, _, rfl, F9, N9⟩
        · clear F9 N9
          intro ys hR9
          rw [show dus.toArray.size = bk.length by simpa using hdl] at hR9
          intro D10 h10 tk10 F10 N10 off10
          k_steps
          show wpAny _ _ (compareOp _ _ _) _ _ _
          rename Fr _ _ _ _ => F11
          rename News _ _ _ _ => N11
          refine Mine.ne_strs (va := ys) (vb := []) (Mine.news_at N11 1 rfl).1 (Mine.news_at N11 0 rfl).1 hR9 .nil Mine.flt_ab (fun _ h => nomatch h) (Mine.room_u (Mine.roomA _)) ?_
          rw [Mine.flt_old hSt.bks hn5]
          generalize hold : (Mine.told (Mine.tabOf bk) (Mine.sW (Mine.orAll ws))).isSome = old
          k_steps
          show wpAny _ _ (call _ _) _ _ _
          rename Fr _ _ _ _ => F12
          rename News _ _ _ _ => N12
          replace N12 := Mine.news_drop N12 2
          replace N12 : News _ _ _ ((ar, _) :: (aw, _) :: (I, _) :: (DU, _) :: (RW, _) :: (H, _) :: (dh, _) :: (l, _) :: (dx, _) :: (P, _) :: (s₁.heap.objs.size + 1, _) :: (69, _) :: (62, _) :: (48, _) :: (123, _) :: (ra0.zip (rv0.map Mine.rowO) ++ (own ++ cods))) := N12
          have A12 := Mine.news_split (a := (ar :: aw :: Mine.lA I DU RW H dh l dx P (s₁.heap.objs.size + 1) ra0).zip (Mine.rowO (qr.1 ++ [Value.str (Mine.sS (Mine.wl (Mine.orAll ws))) t6], k8) :: Mine.rowO qw :: Mine.lO _ _ _ _ _ _ _ _ _ _ _ _ _ rv0)) (b := own ++ cods) N12
          have T12 := Mine.news_split A12.2
          have V12 := S.vsR.are T12.1
          have U12 := S.usR.are T12.1
          rw [Mine.pTab_top] at V12
          have W12 := S.C.wd F12.keep (Mine.news_at N12 13 rfl).1 (Mine.news_at N12 11 rfl).1 (Mine.news_at N12 12 rfl).1 (fun q hq => (T12.2 q hq).1)
          refine Mine.close_c Xg T0 ((Mine.roomA _).mono (by decide)) (fun b o e => F12.keep _ _ e) W12 (Mine.news_at N12 9 rfl).1 (Mine.news_at N12 8 rfl).1 (Mine.news_at N12 5 rfl).1 (Mine.news_at N12 6 rfl).1 (Mine.news_at N12 7 rfl).1
            (Mine.news_at N12 9 rfl).2.2 (Mine.news_at N12 8 rfl).2.2 (Mine.news_at N12 5 rfl).2.2 (Mine.news_at N12 6 rfl).2.2 (Mine.news_at N12 7 rfl).2.2 V12.1 V12.2 U12.2 (by omega) (hSt.top16 hini) hw20 U12.1 (by rw [U12.1.1, Mine.tabOf_len]; omega) Mine.tab_len hSt.told (by omega) hold.symm (Mine.told_val hSt.bks hn5) ?_
          intro h13 d13 tk13 vs13 n13 us13 k13 W13 kp13 hP13 hvs13 hl13 hus13 hvf13 huf13
          replace hus13 : Mine.RowsAre h13 us13 (Mine.tabOf (Mine.bkNext bk (decide (i % 2 = 0)) (Mine.orAll ws))) := (congrArg (Mine.RowsAre h13 us13) (Mine.tabOf_next hSt.bks hn5 (decide (i % 2 = 0)))).mp hus13
          rw [← Mine.pTab_put] at hvs13
          have F13 := Mine.Fr.keepS F12 kp13 (fun a ha => by
            simp only [List.mem_cons, List.not_mem_nil, or_false] at ha
            rcases ha with rfl | rfl | rfl | rfl | rfl
            · exact (Mine.news_at N12 9 rfl).2.2
            · exact (Mine.news_at N12 7 rfl).2.2
            · exact (Mine.news_at N12 13 rfl).2.2
            · exact (Mine.news_at N12 11 rfl).2.2
            · exact (Mine.news_at N12 12 rfl).2.2) (by
            simp only [List.mem_cons, List.not_mem_nil, or_false, not_or]
            exact ⟨(Mine.news_at N12 9 rfl).2.1.symm, (Mine.news_at N12 7 rfl).2.1.symm, (Mine.news_at N12 13 rfl).2.1.symm, (Mine.news_at N12 11 rfl).2.1.symm, (Mine.news_at N12 12 rfl).2.1.symm⟩)
          have Nc := Mine.imm_keep T12.2 (fun q hq => S.imm q (List.mem_append_right _ hq)) kp13 (fun a ha => by
            simp only [List.mem_cons, List.not_mem_nil, or_false] at ha
            rcases ha with rfl | rfl | rfl | rfl | rfl
            · exact ⟨_, (Mine.news_at N12 9 rfl).1, Mine.acc_imm⟩
            · exact ⟨_, (Mine.news_at N12 7 rfl).1, Mine.lst_imm⟩
            · exact ⟨_, (Mine.news_at N12 13 rfl).1, Mine.tab_imm W12.t48 (Mine.news_at N12 13 rfl).1⟩
            · exact ⟨_, (Mine.news_at N12 11 rfl).1, Mine.tab_imm W12.t69 (Mine.news_at N12 11 rfl).1⟩
            · exact ⟨_, (Mine.news_at N12 12 rfl).1, Mine.tab_imm W12.t62 (Mine.news_at N12 12 rfl).1⟩)
          obtain ⟨p48, c1, e48, Nc1, C1⟩ := S.C.up48 F13 Nc W13.t48
          obtain ⟨p69, c2, e69, Nc2, C2⟩ := C1.up69 F13 Nc1 W13.t69
          obtain ⟨p62, c3, e62, Nc3, C3⟩ := C2.up62 F13 Nc2 W13.t62
          obtain ⟨No1, R1, I1⟩ := Mine.rows_in F13 hvs13 hvf13
          obtain ⟨No2, R2, I2⟩ := Mine.rows_in F13 hus13 huf13
          have No := Mine.News.app No1 No2
          replace R1 := R1.mono (own' := Mine.ownOf h13 vs13 ++ Mine.ownOf h13 us13) (fun q hq => List.mem_append_left _ hq)
          replace R2 := R2.mono (own' := Mine.ownOf h13 vs13 ++ Mine.ownOf h13 us13) (fun q hq => List.mem_append_right _ hq)
          have I13 : ∀ q ∈ (Mine.ownOf h13 vs13 ++ Mine.ownOf h13 us13) ++ c3, Mine.Imm q.2 := fun q hq => by
            rcases List.mem_append.mp hq with hq | hq
            · rcases List.mem_append.mp hq with hq | hq
              · exact I1 q hq
              · exact I2 q hq
            · exact .inr (C3.code q hq)
          generalize Mine.ownOf h13 vs13 ++ Mine.ownOf h13 us13 = own13 at No R1 R2 I13
          have L13 := Mine.led_sets (os' := Mine.rowO (qr.1 ++ [Value.str (Mine.sS (Mine.wl (Mine.orAll ws))) t6], k8) :: Mine.rowO qw :: Mine.lO (Mine.rIter (i + 1) (Mine.sS tx).length) (W.listOf dus.toArray kd) (W.listOf (List.map Value.ref (ra0 ++ [ar])).toArray k5) (Mine.hdO dh) (dictOf (Mine.hdE hs2 tt2 l) hn) (W.listOf us13.toArray k13) (dictOf (Mine.accE hs tt ti) en) (Mine.accO dx vs13.toArray n13) oC7 p69 p62 p48 (tabObj ps) rv0) A12.1 nd2 [9, 7, 13, 11, 12] rfl kp13 rfl (fun j hj => by
              rcases j with _ | _ | _ | _ | _ | _ | _ | _ | _ | _ | _ | _ | _ | _ | _ | j <;> first | rfl | exact absurd hj (by decide)) (fun j hj a o' ha ho => by
              simp only [List.mem_cons, List.not_mem_nil, or_false] at hj
              rcases hj with rfl | rfl | rfl | rfl | rfl
              · obtain rfl : P = a := Option.some.inj ha
                obtain rfl := Option.some.inj ho
                exact hP13
              · obtain rfl : l = a := Option.some.inj ha
                obtain rfl := Option.some.inj ho
                exact hl13
              · obtain rfl : 48 = a := Option.some.inj ha
                obtain rfl := Option.some.inj ho
                exact e48
              · obtain rfl : 69 = a := Option.some.inj ha
                obtain rfl := Option.some.inj ho
                exact e69
              · obtain rfl : 62 = a := Option.some.inj ha
                obtain rfl := Option.some.inj ho
                exact e62)
          have N13 : News _ _ h13 ((ar, _) :: (aw, _) :: (I, _) :: (DU, _) :: (RW, _) :: (H, _) :: (dh, _) :: (l, _) :: (dx, _) :: (P, _) :: (s₁.heap.objs.size + 1, _) :: (69, _) :: (62, _) :: (48, _) :: (123, _) :: (ra0.zip (rv0.map Mine.rowO) ++ (own13 ++ c3))) := Mine.News.app L13 (Mine.News.app No Nc3)
          clear F12 N12 A12 T12 V12 U12 W12 L13 No No1 No2 Nc Nc1 Nc2 Nc3 C1 C2 I1 I2 e48 e69 e62 W13
          k_steps
          · rename old = true => ho
            have hm := (Mine.old_mem hSt.bks hn5 hold).1 ho
            have ebk : Mine.bkNext bk (decide (i % 2 = 0)) (Mine.orAll ws) = bk := by unfold Mine.bkNext; rw [if_pos hm]
            rename Fr _ _ _ _ => F14
            rename News _ _ _ _ => N14
            have A14 := Mine.news_split (a := (ar :: aw :: Mine.lA I DU RW H dh l dx P (s₁.heap.objs.size + 1) ra0).zip (Mine.rowO (qr.1 ++ [Value.str (Mine.sS (Mine.wl (Mine.orAll ws))) t6], k8) :: Mine.rowO qw :: Mine.lO _ _ _ _ _ _ _ _ _ _ _ _ _ rv0)) (b := own13 ++ c3) N14
            have z1 : News _ _ _ [(ar, Mine.rowO (qr.1 ++ [Value.str (Mine.sS (Mine.wl (Mine.orAll ws))) t6], k8))] := fun q hq => by rw [List.mem_singleton.mp hq]; exact Mine.news_at N14 0 rfl
            have st9 := hSt.down hini hd5 (decide (i % 2 = 0))
            rw [ebk] at st9 R2
            refine ⟨rfl, ?_⟩
            rw [hJ9]
            refine ⟨ini ++ [r ++ [Mine.orAll ws]], bk, e, _, _, gens, d13, _, ra0 ++ [ar], rv0 ++ [(qr.1 ++ [Value.str (Mine.sS (Mine.wl (Mine.orAll ws))) t6], k8)], vs13, us13, dus, oC7, p48, p69, p62, some (.str (Mine.sS (Mine.wl (Mine.orAll ws))) t6), ps, n13, k13, k5, kd, own13, c3, rfl, hG, st9, hD1, Mine.fr_same F14 (Mine.mT_self rfl rfl rfl rfl rfl), ?_⟩
            exact ⟨Mine.zip_snoc (as := [I, DU, RW, H, dh, l, dx, P, s₁.heap.objs.size + 1, 69, 62, 48, 123]) (os := [_, _, _, _, _, _, _, _, _, _, _, _, _]) (Mine.news_drop A14.1 2) rfl h0l z1, A14.2, Mine.nd_init (as := [I, DU, RW, H, dh, l, dx, P, s₁.heap.objs.size + 1, 69, 62, 48, 123]) (ra := ra0 ++ [ar]) S.nd, I13, by simp [h0l], hrows0.snoc (q := (qr.1 ++ [Value.str (Mine.sS (Mine.wl (Mine.orAll ws))) t6], k8)) (by rw [List.map_append]; exact Mine.StrsAre_append hSr (.cons _ _ .nil)), R1, R2, S.due, hd7, S.tab, C3⟩
          · show wpAny _ _ (getMethod _ _ _) _ _ _
            rename old = false => ho
            have hm := (Mine.old_mem hSt.bks hn5 hold).2 ho
            have ebk : Mine.bkNext bk (decide (i % 2 = 0)) (Mine.orAll ws) = bk ++ [(decide (i % 2 = 0), Mine.orAll ws)] := by unfold Mine.bkNext; rw [if_neg hm]
            rename Fr _ _ _ _ => F14
            rename News _ _ _ _ => N14
            refine getMethod_builtin (T := "list") (id := "list.append") ⟨_, (Mine.news_at N14 3 rfl).1, rfl⟩ PySem.F.plainAttrs_list PySem.F.slot_list_append PySem.F.type_list_append (fun a e => ⟨_, by cases e; exact (Mine.news_at N14 3 rfl).1, rfl⟩) ?_
            k_steps
            show wpAny _ _ (call _ _) _ _ _
            rename Fr _ _ _ _ => F15
            rename News _ _ _ _ => N15
            have hwl7 : (Mine.sS (Mine.wl (Mine.orAll ws))).length ≤ 700 := by rw [Mine.sS_len]; exact Nat.le_trans (Mine.wl_len _) (by decide)
            refine Mine.spelled_c Xg T0 ((Mine.roomA _).mono (by decide)) (fun b o e => F15.keep _ _ e) hwl7 (Int.natCast_nonneg _) (by omega) ?_
            intro h16 tk16 t16 st16
            rw [Mine.spell_eq]
            have F16 := F15.keeps st16
            have N16 := Mine.News.st N15 st16
            clear F15 N15
            k_steps
            show wpAny _ _ (call _ _) _ _ _
            refine Mine.list_append (Mine.news_at N16 3 rfl).1 (Nat.le_trans (by simp [hdl]; omega : _ ≤ 22) (by decide : 22 ≤ sizeLine)) ?_
            intro h17 k17 hD17 hs17
            rw [List.push_toArray] at hD17
            obtain ⟨F17, N17⟩ := Mine.led_up (as := ar :: aw :: Mine.lA I DU RW H dh l dx P (s₁.heap.objs.size + 1) ra0) (os := Mine.rowO (qr.1 ++ [Value.str (Mine.sS (Mine.wl (Mine.orAll ws))) t6], k8) :: Mine.rowO qw :: Mine.lO _ _ _ _ _ _ _ _ _ _ _ _ _ rv0) (tail := own13 ++ c3) F16 N16 nd2 I13 3 rfl rfl Mine.lst_imm (Mine.keep_of hs17) hD17
            clear F16 N16
            k_steps
            have A14 := Mine.news_split N17
            have z1 : News _ _ _ [(ar, Mine.rowO (qr.1 ++ [Value.str (Mine.sS (Mine.wl (Mine.orAll ws))) t6], k8))] := fun q hq => by rw [List.mem_singleton.mp hq]; exact Mine.news_at N17 0 rfl
            have st9 := hSt.down hini hd5 (decide (i % 2 = 0))
            rw [ebk] at st9 R2
            refine ⟨rfl, ?_⟩
            rw [hJ9]
            refine ⟨ini ++ [r ++ [Mine.orAll ws]], bk ++ [(decide (i % 2 = 0), Mine.orAll ws)], e, _, _, gens, d13, _, ra0 ++ [ar], rv0 ++ [(qr.1 ++ [Value.str (Mine.sS (Mine.wl (Mine.orAll ws))) t6], k8)], vs13, us13, dus ++ [.str (Mine.sp (decide (i % 2 = 0)) (Mine.orAll ws)) t16], oC7, p48, p69, p62, some (.str (Mine.sS (Mine.wl (Mine.orAll ws))) t6), ps, n13, k13, k5, k17, own13, c3, rfl, hG, st9, hD1, Mine.fr_same F17 (Mine.mT_self rfl rfl rfl rfl rfl), ?_⟩
            exact ⟨Mine.zip_snoc (as := [I, DU, RW, H, dh, l, dx, P, s₁.heap.objs.size + 1, 69, 62, 48, 123]) (os := [_, _, _, _, _, _, _, _, _, _, _, _, _]) (Mine.news_drop A14.1 2) rfl h0l z1, A14.2, Mine.nd_init (as := [I, DU, RW, H, dh, l, dx, P, s₁.heap.objs.size + 1, 69, 62, 48, 123]) (ra := ra0 ++ [ar]) S.nd, I13, by simp [h0l], hrows0.snoc (q := (qr.1 ++ [Value.str (Mine.sS (Mine.wl (Mine.orAll ws))) t6], k8)) (by rw [List.map_append]; exact Mine.StrsAre_append hSr (.cons _ _ .nil)), R1, R2, by rw [List.map_append]; exact Mine.StrsAre_append S.due (.cons _ _ .nil), hd7, S.tab, C3⟩
    · clear F3 N3 S hSt hD hG hvl hfew hc hdr hpl hI'
      intro s' hj9
      rw [hJ9] at hj9
      obtain ⟨lo, bk, d, u, h, gens, dr, tk, ra, rv, vs, us, dus, oC, o48, o69, o62, cv, ps, np, k, kr, kd, own, cods, rfl, hG, hSt, hD, F, S⟩ := hj9
      have hvl : vs.length = Mine.pcs lo := S.vsR.1
      have hfew := hSt.few
      have hlen := hSt.len
      obtain ⟨r, rs, rfl⟩ : ∃ r rs, lo = r :: rs := by
        cases lo with
        | nil => simp at hlen
        | cons r rs => exact ⟨r, rs, rfl⟩
      have hrl := S.rows.1
      obtain ⟨q0, rvs, rfl⟩ : ∃ q rvs, rv = q :: rvs := by
        cases rv with
        | nil => simp at hrl
        | cons q rvs => exact ⟨q, rvs, rfl⟩
      have hal := S.ral
      obtain ⟨a0, ras, rfl⟩ : ∃ a ras, ra = a :: ras := by
        cases ra with
        | nil => simp at hal
        | cons a ras => exact ⟨a, ras, rfl⟩
      have N : News _ _ h ((I, _) :: (DU, _) :: (RW, _) :: (H, _) :: (dh, _) :: (l, _) :: (dx, _) :: (P, _) :: (s₁.heap.objs.size + 1, _) :: (69, _) :: (62, _) :: (48, _) :: (123, _) :: (a0, Mine.rowO q0) :: (ras.zip (rvs.map Mine.rowO) ++ (own ++ cods))) := Mine.News.app S.N S.Nt
      have gm9 := Mine.GenMark.mk
      k_steps
      show wpAny _ _ (subscriptTail _ _ _ _) _ _ _
      rename Fr _ _ _ _ => F2
      rename News _ _ _ _ => N2
      k_dflt (refine' Mine.sub_list (vs := (a0 :: ras).map Value.ref) (x := .ref a0) ⟨_, (Mine.news_at N2 2 rfl).1, rfl, _, rfl⟩ (.inl ⟨by decide, rfl⟩) (by decide) ?s ?t ?_; (case s => with_unfolding_all rfl); (case t => kmk_pure))
      k_steps
      show wpAny _ _ (eval _ _) _ _ _
      rename Fr _ _ _ _ => F3
      rename News _ _ _ _ => N3
      k_dflt (refine LCg.ListComp_U (F₀ := F3) (by with_unfolding_all rfl) (by decide) (by rfl) (by decide) (by rfl) ?_)
      k_steps
      show wpAny _ _ (subscriptTail _ _ _ _) _ _ ⟨_, _, _, _, _⟩
      have hln : ras.length ≤ 22 := by
        have : (a0 :: ras).length = (r :: rs).length := hal.trans hrl
        have h9 := Mine.rows_le r rs
        simp at this
        omega
      refine slice_list3 (s := ⟨h, _, _, _, _⟩) F3 N3 ⟨_, (Mine.news_at N3 2 rfl).1, rfl, _, rfl⟩ (.int _ _) .none .none (by decide) ?_ (by with_unfolding_all rfl) (by kmk_pure) ?_
      rotate_left
      · exact Nat.le_trans (by simp; omega : _ ≤ 23) (by decide : 23 ≤ sizeLine)
      intro h4 F4 N4
      rw [show List.map Value.ref (a0 :: ras) = Value.ref a0 :: List.map Value.ref ras from rfl, Mine.pick_tail] at N4
      clear F3 N3
      have hr0 := Mine.row_in r rs
      have hrows : Mine.RowsHold rvs rs := ⟨by simpa using hrl, fun j q hq => S.rows.2 (j + 1) q hq⟩
      have hS0 : StrsAre q0.1 (r.map Mine.sW) := by
        obtain ⟨r', e, h⟩ := S.rows.2 0 q0 rfl
        rw [← Option.some.inj e] at h; exact h
      refine LCg.CompSrc.ledger (k := 0) (Mine.roomA _).hh F4 N4 (.head _) (Nat.le_trans (by simp; omega : _ ≤ 22) (by decide : 22 ≤ sizeLine)) ?_
      intro g5
      refine Mine.comp_rest (fun j y => ∃ x t, (rs.map fun r => Mine.sS (98 :: r.flatMap Mine.wl))[j]? = some x ∧ y = Value.str x t) (.inr ⟨_, .head _, rfl, _, rfl⟩) ?_ ?_
      · clear F4 N4
        intro j v I9 oI9 C9 oC9 D9 m₂ h9 tk9 E' ys hj hv9 hC9 hx9 F9 N9 off9 ne9
        have hjr : j < ras.length := by simpa using hj
        obtain ⟨rj, hrj⟩ : ∃ rj, rs[j]? = some rj := ⟨rs[j]'(by have := hal.trans hrl; simp at this; omega), by simp⟩
        obtain ⟨qj, hqj⟩ : ∃ qj, rvs[j]? = some qj := ⟨rvs[j]'(by simp at hal; omega), by simp⟩
        obtain ⟨aj, haj⟩ : ∃ aj, ras[j]? = some aj := ⟨ras[j], by simp⟩
        obtain rfl : Value.ref aj = v := by
          have e : (List.map Value.ref ras)[j]? = some v := by simpa using hv9
          rw [List.getElem?_map, haj] at e
          exact Option.some.inj e
        have hSj : StrsAre qj.1 (rj.map Mine.sW) := by
          obtain ⟨r', e, h⟩ := hrows.2 j qj hqj
          rw [hrj] at e
          rw [Option.some.inj e]; exact h
        have hlj := hr0.2 j rj hrj
        have hz : (aj, Mine.rowO qj) ∈ ras.zip (rvs.map Mine.rowO) := List.mem_of_getElem? (i := j) (by rw [List.getElem?_zip_eq_some]; exact ⟨haj, by rw [List.getElem?_map, hqj]; rfl⟩)
        k_steps
        show wpAny _ _ (call _ _) _ _ _
        rename Fr _ _ _ _ => F10
        rename News _ _ _ _ => N10
        have hNj := N10 (aj, Mine.rowO qj) (by repeat (first | exact List.mem_append_left _ hz | refine List.mem_cons_of_mem _ ?_))
        refine join_listW (D := aj) (items := qj.1.toArray) (ys := rj.map Mine.sW) ⟨_, hNj.1, rfl, _, rfl⟩ (by simpa using hSj) (by decide) (Mine.row_w (by omega)) fun t11 k11 => ?_
        rw [Mine.join_row]
        have hlw := Mine.row_l (r := rj) (by omega)
        k_steps
        rename Fr _ _ _ _ => F11
        rename News _ _ _ _ => N11
        exact ⟨⟨_, _, by rw [List.getElem?_map, hrj, Mine.b_app]; rfl, rfl⟩, _, _, rfl, F11, N11⟩
      · clear F4 N4
        intro ys hl9 hy9
        have hS9 := Mine.strs_from (ss := rs.map fun r => Mine.sS (98 :: r.flatMap Mine.wl)) (by rw [hl9]; have := hal.trans hrl; simp at this ⊢; omega) hy9
        intro D7 h7 tk7 F7 N7 off7
        k_steps
        show wpAny _ _ (binaryOp _ _ _) _ _ _
        have hq0 : q0.1.length = r.length := by have := hS0.length; simpa using this
        have hysl : ys.length ≤ 22 := by rw [hl9]; simpa using hln
        refine PySem.W.kmk_add_lit (its := q0.1.toArray) (its2 := ys.toArray) (zs := q0.1 ++ ys) F7 N7 ⟨_, (Mine.news_at N7 15 rfl).1, rfl, _, rfl⟩ ⟨_, (Mine.news_at N7 0 rfl).1, rfl, _, rfl⟩ (by simp) ?_ (Nat.le_trans (by simp; omega : _ ≤ 44) (by decide : 44 ≤ sizeLine))
        intro Z h10 F10 N10 l10
        have N11 : News _ _ h10 ((Z, _) :: (I, _) :: (DU, _) :: (RW, _) :: (H, _) :: (dh, _) :: (l, _) :: (dx, _) :: (P, _) :: (s₁.heap.objs.size + 1, _) :: (69, _) :: (62, _) :: (48, _) :: (123, _) :: (a0, Mine.rowO q0) :: (ras.zip (rvs.map Mine.rowO) ++ (own ++ cods))) := Mine.News.app (Mine.news_take N10 1) (Mine.news_drop N10 3)
        clear F7 N7 N10 l10 off7
        refine Mine.wp_tok (h := h10) (g := gens) (d := dr) (o := s₁.os) fun tk10 => ?_
        k_steps
        show wpAny _ _ (call _ _) _ _ _
        rename Fr _ _ _ _ => F12
        rename News _ _ _ _ => N12
        have A12 := Mine.news_split (a := (Mine.lA I DU RW H dh l dx P (s₁.heap.objs.size + 1) (a0 :: ras)).zip (Mine.lO _ _ _ _ _ _ _ _ _ _ _ _ _ (q0 :: rvs))) (b := own ++ cods) (Mine.news_drop N12 1)
        have z12 := Mine.news_at N12 0 rfl
        refine Mine.strcall_c Xg T0 ((Mine.roomA _).mono (by decide)) (fun b o e => F12.keep _ _ e) (Mine.news_at N12 8 rfl).1 (Mine.news_at N12 7 rfl).1 (Mine.news_at N12 8 rfl).2.2 (Mine.news_at N12 7 rfl).2.2 (Mine.news_at N12 13 rfl).1 (Mine.news_at N12 13 rfl).2.2 S.tab c123 hG (S.vsR.are (Mine.news_split A12.2).1).1 (by omega) (Mine.pTab_small _) ?_
        intro h13 tk13 gens13 t13 ps13 kp13 e13 hps13 G13
        rw [Mine.pile_join]
        obtain ⟨F13, N13⟩ := Mine.led_up (as := Mine.lA I DU RW H dh l dx P (s₁.heap.objs.size + 1) (a0 :: ras)) (os := Mine.lO _ _ _ _ _ _ _ _ _ _ _ _ _ (q0 :: rvs)) (tail := own ++ cods) F12 (Mine.news_drop N12 1) S.nd S.imm 12 rfl rfl (Mine.tabO_imm S.tab) kp13 e13
        have Nz : News _ _ h13 [(Z, W.listOf (q0.1 ++ ys).toArray 0)] := fun q hq => by
          rw [List.mem_singleton.mp hq]
          exact ⟨kp13 _ _ (by simpa using Mine.ne_obj z12.1 (Mine.news_at N12 13 rfl).1 (by simp [tabObj])) z12.1, z12.2⟩
        replace N13 : News _ _ h13 ((Z, _) :: (I, _) :: (DU, _) :: (RW, _) :: (H, _) :: (dh, _) :: (l, _) :: (dx, _) :: (P, _) :: (s₁.heap.objs.size + 1, _) :: (69, _) :: (62, _) :: (48, _) :: (123, _) :: (a0, Mine.rowO q0) :: (ras.zip (rvs.map Mine.rowO) ++ (own ++ cods))) := Mine.News.app Nz N13
        clear F12 N12 A12 z12 Nz
        k_steps
        show wpAny _ _ (call _ _) _ _ _
        rename Fr _ _ _ _ => F14
        rename News _ _ _ _ => N14
        refine join_listW (D := Z) (items := (q0.1 ++ ys).toArray) (ys := r.map Mine.sW ++ rs.map fun r => Mine.sS (98 :: r.flatMap Mine.wl)) ⟨_, (Mine.news_at N14 0 rfl).1, rfl, _, rfl⟩ (by simpa using Mine.StrsAre_append hS0 hS9) (by decide) (Mine.shown_w (by omega) (by have := Mine.rows_le r rs; omega) (fun q hq => by obtain ⟨j, hj⟩ := List.getElem?_of_mem hq; have := hr0.2 j q hj; omega)) fun t15 k15 => ?_
        rw [Mine.join_shown]
        generalize Mine.sS (Mine.pTxt (r :: rs)) = X9
        k_steps
        · rename (X9 != X9) = true => hx9
          exact absurd hx9 (by simp)
        · rename Fr _ _ _ _ => F16
          rename News _ _ _ _ => N16
          have A16 := Mine.news_split (a := (Mine.lA I DU RW H dh l dx P (s₁.heap.objs.size + 1) (a0 :: ras)).zip (Mine.lO _ _ _ _ _ _ _ _ _ _ _ _ _ (q0 :: rvs))) (b := own ++ cods) (Mine.news_drop N16 1)
          refine ⟨rfl, ?_⟩
          rw [hJ9]
          exact ⟨r :: rs, bk, d, _, h13, gens13, dr, k15, a0 :: ras, q0 :: rvs, vs, us, dus, oC, o48, o69, o62, cv, ps13, np, k, kr, kd, own, cods, rfl, G13, hSt, hD, Mine.fr_same F16 (Mine.mT_self rfl rfl rfl rfl rfl), ⟨A16.1, A16.2, S.nd, S.imm, S.ral, S.rows, S.vsR, S.usR, S.due, S.hC, hps13, S.C⟩⟩
    --ENDSKIP
  · clear F7 N7 R7 NP nd0 n48 n69 n62 n123 c48 c69 c62 hOk offP offx off6 nePx ne6 lt9
    clear hGens st2 hP hdx hP0 hdx0 st4
    rintro I s' ⟨lo, bk, d, u, h, gens, dr, tk, ra, rv, vs, us, dus, oC, o48, o69, o62, cv, ps, np, k, kr, kd, own, cods, rfl, hG, hSt, hD, F, S⟩
    refine ⟨(S.N (I, _) (.head _)).1, fun h' he' => ?_⟩
    have kI : Mine.Keep [I] h h' := fun b o hb e => he' b o (by simpa using hb) e
    have F2 := Mine.Fr.keep1 F S.N (.head _) kI
    have T2 := Mine.imm_keep S.Nt S.imm kI (fun a ha => by rw [List.mem_singleton.mp ha]; exact ⟨_, (S.N (I, _) (.head _)).1, Mine.riter_imm⟩)
    have N1 := Mine.News.keepS (Mine.news_tl S.N) kI (fun q hq hm => by
      rw [List.mem_singleton] at hm
      have nd := S.nd
      exact (List.nodup_cons.mp nd).1 (hm ▸ (List.of_mem_zip hq).1))
    have N2 : News _ _ h' ((DU, _) :: (RW, _) :: (H, _) :: (dh, _) :: (l, _) :: (dx, _) :: (P, _) :: (s₁.heap.objs.size + 1, _) :: (69, _) :: (62, _) :: (48, _) :: (123, _) :: (own ++ cods)) := Mine.News.app (Mine.news_take N1 12) T2
    clear F he' kI N1 T2
    have hbl := hSt.bkl
    k_steps
    show wpAny _ _ (callWith _ _ _ _ _) _ _ _
    rename Fr _ _ _ _ => F3
    rename News _ _ _ _ => N3
    refine callWith_K0 (K := Mine.hd.heap_1 w.params) (Frag.In.keeps Xg F3.keep) (by k_is) ?_
    show wpAny _ _ (call _ [_]) _ _ _
    have A3 := Mine.news_split (a := [(DU, _), (RW, _), (H, _), (dh, _), (l, _), (dx, _), (P, _), (s₁.heap.objs.size + 1, _), (69, _), (62, _), (48, _), (123, _)]) (b := own ++ cods) N3
    have U3 := S.usR.are (Mine.news_split A3.2).1
    have hul : us.length ≤ 100 := by rw [U3.1.1, Mine.tabOf_len]; omega
    refine Mine.keys_c Xg T0 ((Mine.roomA _).mono (by decide)) (fun b o e => F3.keep _ _ e) (Mine.news_at N3 2 rfl).1 (Mine.news_at N3 3 rfl).1 (Mine.news_at N3 2 rfl).2.2 (Mine.news_at N3 3 rfl).2.2 (Mine.news_at N3 4 rfl).2.2 (Mine.news_at N3 4 rfl).1 hul U3.1 U3.2 ?_
    intro h4 tk4 D k4 ys hD0 hD4 hS4 st4
    rw [Mine.tab_fst] at hS4
    have F4 := F3.keeps st4
    have N4 := Mine.news_fresh F3 (Mine.News.st N3 st4) hD0 hD4
    clear F3 N3 A3 U3
    k_steps
    show wpAny _ _ (compareOp _ _ _) _ _ _
    rename Fr _ _ _ _ => F5
    rename News _ _ _ _ => N5
    refine Mine.ne_strs (Mine.news_at N5 0 rfl).1 (Mine.news_at N5 1 rfl).1 hS4 S.due Mine.sp_abs Mine.sp_abs (Mine.room_u (Mine.roomA _)) ?_
    rw [decide_eq_true rfl, Bool.not_true]
    replace N5 := Mine.news_tl N5
    k_steps
    show wpAny _ _ (exec _ _) _ _ _
    with_unfolding_all refine' For_turns F5 ?_
    k_steps
    show wpAny _ _ (callWith _ _ _ _ _) _ _ _
    rename Fr _ _ _ _ => F6
    rename News _ _ _ _ => N6
    refine callWith_K0 (K := Mine.hd.heap_1 w.params) (Frag.In.keeps Xg F6.keep) (by k_is) ?_
    show wpAny _ _ (call _ [_]) _ _ _
    refine Mine.items_c Xg T0 ((Mine.roomA _).mono (by decide)) (fun b o e => F6.keep _ _ e) (Mine.news_at N6 2 rfl).1 (Mine.news_at N6 3 rfl).1 (Mine.news_at N6 2 rfl).2.2 (Mine.news_at N6 3 rfl).2.2 (Mine.news_at N6 4 rfl).2.2 (Mine.news_at N6 4 rfl).1 hul ?_
    intro h7 tk7 D7 k7 hD70 hD7 st7
    have F7 := F6.keeps st7
    have N7 := Mine.news_fresh F6 (Mine.News.st N6 st7) hD70 hD7
    clear F6 N6
    have T7 := Mine.news_drop N7 13
    replace T7 : News _ _ h7 (own ++ cods) := T7
    have U7 := (S.usR.are (Mine.news_split T7).1).1
    k_steps
    show wpAny _ _ (pyIter _) _ _ _
    refine Mine.for_pairs (vs := us) [Str.ofString "name", Str.ofString "numeral"] (fun _ => True) (Mine.roomA _).hh ⟨_, (Mine.news_at N7 0 rfl).1, rfl, _, rfl⟩ (fun e => (Mine.news_at N7 0 rfl).2.1 e.symm) U7.refs F7 N7 trivial ?_ ?_
    · clear F7 N7 T7 U7
      intro j v u8 h8 tk8 own8 hv _ F8 N8
      obtain ⟨rj, kj, yj, tkj, tyj, rfl, htb, hmj⟩ := S.usR.2 j v hv
      obtain ⟨q, hq, rfl, rfl⟩ := Mine.tab_at' htb
      have hq6 := hSt.bks q (List.mem_of_getElem? hq)
      have hrj := N8 (rj, _) (by
        refine List.mem_append_right _ ?_
        repeat (first | exact List.mem_append_left _ hmj | refine List.mem_cons_of_mem _ ?_))
      have hT4 : IsTup h8 rj #[.str (Mine.sp q.1 q.2) tkj, .str (Mine.nmS q.2) tyj] := ⟨_, hrj.1, rfl, _, rfl⟩
      replace F8 : Fr _ _ h8 _ := F8
      replace N8 : News _ _ h8 _ := N8
      show wpAny _ _ _ _ _ ⟨h8, gens, dr, tk8, s₁.os⟩
      refine unpackN_ F8 N8 hT4 (Mine.roomA _).hh rfl rfl ?_
      intro h9 F9 N9
      clear F8 N8
      have hkl : (Mine.sp q.1 q.2).length ≤ 600 := by rw [Mine.sp_len]; exact Mine.wl_len _
      k_steps
      show wpAny _ _ (call _ _) _ _ _
      refine KIN.call_text (Mine.nm_val hq6) (Mine.nm_len hq6) ?_
      k_steps
      show wpAny _ _ (call _ _) _ _ _
      rename Fr _ _ _ _ => F10
      rename News _ _ _ _ => N10
      refine Mine.unfold_c (d := 4) Xg T0 ((Mine.roomA _).mono (by decide)) (fun b o e => F10.keep _ _ e) hq6 (by decide) ?_
      intro h11 tk11 t11 st11
      have F11 := F10.keeps st11
      have N11 := Mine.News.st N10 st11
      clear F10 N10
      k_steps
      · rename (_ != Txt.lower _) = true => hx9
        rw [Mine.sp_low, Mine.sW] at hx9
        exact absurd hx9 (by simp)
      · rename Fr _ _ _ _ => F12
        rename News _ _ _ _ => N12
        refine ⟨_, _, _, rfl, F12, ?_, N12, trivial⟩
        intro z hz
        have h1 : z ≠ Str.ofString "name" := fun e => by rw [e] at hz; exact absurd hz (by decide)
        have h2 : z ≠ Str.ofString "numeral" := fun e => by rw [e] at hz; exact absurd hz (by decide)
        show (if z = Str.ofString "numeral" then _ else if z = Str.ofString "name" then _ else if [Str.ofString "name", Str.ofString "numeral"].contains z = true then u8 z else _) = _
        rw [if_neg h2, if_neg h1, if_neg (by rw [hz]; decide)]
    · intro h8 tk8 u8 F8 N8 _
      clear F7 N7 T7 U7
      replace F8 : Fr _ _ h8 _ := F8
      replace N8 : News _ _ h8 _ := N8
      show wpAny _ _ _ _ _ ⟨h8, gens, dr, tk8, s₁.os⟩
      k_steps
      show wpAny _ _ (eval _ _) _ _ _
      rename Fr _ _ _ _ => F9
      rename News _ _ _ _ => N9
      k_dflt (refine LCg.ListComp_U (F₀ := F9) (by with_unfolding_all rfl) (by decide) (by rfl) (by decide) (by rfl) ?_)
      k_steps
      show wpAny _ _ (callWith _ _ _ _ _) _ _ _
      rename Fr _ _ _ _ => F10
      rename News _ _ _ _ => N10
      refine callWith_K0 (K := Mine.hd.heap_1 w.params) (Frag.In.keeps Xg F10.keep) (by k_is) ?_
      show wpAny _ _ (call _ [_]) _ _ _
      refine Mine.items_c Xg T0 ((Mine.roomA _).mono (by decide)) (fun b o e => F10.keep _ _ e) (Mine.news_at N10 3 rfl).1 (Mine.news_at N10 4 rfl).1 (Mine.news_at N10 3 rfl).2.2 (Mine.news_at N10 4 rfl).2.2 (Mine.news_at N10 5 rfl).2.2 (Mine.news_at N10 5 rfl).1 hul ?_
      intro h12 tk12 D12 k12 hD120 hD12 st12
      have F12 := F10.keeps st12
      have N12 := Mine.news_fresh F10 (Mine.News.st N10 st12) hD120 hD12
      clear F10 N10
      k_steps
      show LCg.CompSrc _ _ _ _ _ _ _ _ _ _ _ _ _ _
      rename Fr _ _ _ _ => F13
      rename News _ _ _ _ => N13
      refine LCg.CompSrc.ledger (k := k12) (Mine.roomA _).hh F13 N13 (.head _) (Nat.le_trans (by simpa using hul : _ ≤ 100) (by decide : 100 ≤ sizeLine)) ?_
      intro g14
      refine Mine.comp_rest (fun j y => ∃ x t, (bk.map fun q => Mine.sp q.1 q.2)[j]? = some x ∧ y = Value.str x t) (.inr ⟨_, .head _, rfl, _, rfl⟩) ?_ ?_
      · clear F13 N13
        intro j v I9 oI9 C9 oC9 D9 m₂ h9 tk9 E' ys hj hv9 hC9 hx9 F9 N9 off9 ne9
        obtain ⟨rj, kj, yj, tkj, tyj, rfl, htb, hmj⟩ := S.usR.2 j v (by simpa using hv9)
        obtain ⟨q, hq, rfl, rfl⟩ := Mine.tab_at' htb
        k_steps
        show wpAny _ _ (subscriptTail _ _ _ _) _ _ _
        rename Fr _ _ _ _ => F15
        rename News _ _ _ _ => N15
        have hrj := N15 (rj, _) (by repeat (first | exact List.mem_append_left _ hmj | refine List.mem_cons_of_mem _ ?_))
        refine item_tuple (t := rj) (items := #[.str (Mine.sp q.1 q.2) tkj, .str (Mine.nmS q.2) tyj]) (j := 0) (x := .str (Mine.sp q.1 q.2) tkj) ⟨_, hrj.1, rfl, _, rfl⟩ (by decide) (by decide) rfl rfl ?_
        exact ⟨⟨_, _, by rw [List.getElem?_map, hq]; rfl, rfl⟩, _, _, rfl, F15, N15⟩
      · intro ys hl9 hy9
        have hS9 := Mine.strs_from (ss := bk.map fun q => Mine.sp q.1 q.2) (by rw [hl9]; have := S.usR.1; rw [Mine.tabOf_len] at this; simp [this]) hy9
        intro D15 h15 tk15 F15 N15 off15
        clear F13 N13
        k_steps
        show wpAny _ _ (compareOp _ _ _) _ _ _
        rename Fr _ _ _ _ => F16
        rename News _ _ _ _ => N16
        refine Mine.eq_strs (Mine.news_at N16 0 rfl).1 (Mine.news_at N16 3 rfl).1 hS9 S.due Mine.sp_abs Mine.sp_abs (Mine.room_u (Mine.roomA _)) ?_
        rw [decide_eq_true rfl]
        k_steps
        rename Fr _ _ _ _ => F17
        rename News _ _ _ _ => N17
        have T17 := Mine.news_drop N17 15
        replace T17 : News _ _ h15 (own ++ cods) := T17
        have W17 := S.C.wd F17.keep (Mine.news_at N17 13 rfl).1 (Mine.news_at N17 11 rfl).1 (Mine.news_at N17 12 rfl).1 (fun q hq => ((Mine.news_split T17).2 q hq).1)
        exact ⟨rfl, F17.keep, rfl, hG, ⟨Mine.tab_grown W17.t69, Mine.tab_grown W17.t62, Mine.tab_grown W17.t48, ⟨_, (Mine.news_at N17 14 rfl).1⟩, trivial⟩⟩
