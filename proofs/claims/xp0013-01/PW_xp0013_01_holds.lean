import PyProof.Rows.All
import Wide.All
import OpenK.AllK
import Wide.FinOn
import PyProof.WalkLemmas
import KE.KxDecode
import PySem.Challenge.RW_xp0013_01
set_option rowWalk.seconds 0
set_option linter.all false
set_option compiler.extract_closed false
set_option Elab.async false
/- Hg -/
section
open PySem PySem.W PySem.Spec PySem.Calls PyProof.Rows
set_option Elab.async false
set_option maxRecDepth 100000
namespace Mine
theorem reset_Hg {M : PySem.Model} {A : PySem.Around} {Q : PySem.Flow → PySem.Shared → Prop} {E : PySem.Value → PySem.Shared → Prop} {s : PySem.Shared} {env : PySem.Env} (h : Q .next s) : PySem.wpAny M A (PySem.execs [] env) Q E s := by
  w_top off
  first | (walk1; exact h) | exact PySem.wpAny_execs_nil h
open Sem (wp)

/-- a code that Bytes.exported does not look for -/
noncomputable def notDec : Code → Bool
  | .builtin id _ => !(Builtin.Bytes.decodersThatHold.contains id || (["bytearray.__contains__", "bytearray.__mod__", "bytearray.__rmod__", "_struct.pack_into.held", "bytearray.find.held"] : List String).contains id)
  | _ => true
noncomputable def Good (Γ : PySem.Ctx) : Prop := notDec Γ.code = true ∧ ∀ cp ∈ Γ.below, notDec cp.1 = true
theorem Good.enter {Γ : PySem.Ctx} (h : Good Γ) {c : Code} {hd : Option Value} {p : Pos} (hc : notDec c = true) : Good (Γ.enter c hd p) :=
  ⟨hc, List.forall_mem_cons.mpr ⟨h.1, h.2⟩⟩
theorem Good.goto {Γ : PySem.Ctx} (h : Good Γ) {c : Code} (hc : notDec c = true) : Good (Γ.goto c) := ⟨hc, h.2⟩

/-- the run ends well from every good context; it raises in none -/
noncomputable def wpG {α : Type} (M : Model) (A : Around) (t : Sem α) (Q : α → Shared → Prop) (s : Shared) : Prop :=
  ∀ Γ p, Good Γ → Γ.In A → wp M Γ t (fun a _ s' => Q a s') (fun _ _ _ => False) p s

/-- no decoder stands in the stack -/
noncomputable def goodSt (st : List (Code × Pos)) : Bool := st.all fun cp => notDec cp.1
/-- the run behind a look at the stack -/
noncomputable def guarded {α : Type} (t : Sem α) (d : α) : Sem α := stack >>= fun st => if goodSt st = true then t else pure d

theorem good_of {Γ : PySem.Ctx} {p : Pos} (h : goodSt ((Γ.code, p) :: Γ.below) = true) : Good Γ := by
  have h' := List.all_eq_true.mp h
  exact ⟨h' _ (.head _), fun cp hcp => h' cp (.tail _ hcp)⟩
theorem goodSt_pos {c : Code} {p q : Pos} {l : List (Code × Pos)} (h : goodSt ((c, p) :: l) = true) : goodSt ((c, q) :: l) = true := h

theorem guarded_any {α : Type} {M : Model} {A : Around} {t : Sem α} {d : α} {Q : α → Shared → Prop} {E : Value → Shared → Prop} {s : Shared} (h : wpG M A t Q s) (hd : Q d s) : wpAny M A (guarded t d) Q E s := by
  intro Γ p hΓ
  unfold guarded
  rw [Sem.wp_bind']
  show wp M Γ (if goodSt ((Γ.code, p) :: Γ.below) = true then t else pure d) _ _ p s
  by_cases hg : goodSt ((Γ.code, p) :: Γ.below) = true
  · rw [if_pos hg]
    exact Sem.wp_mono M Γ t (fun _ _ _ h' => h') (fun _ _ _ x => x.elim) p s (h Γ p (good_of hg) hΓ)
  · rw [if_neg hg]
    exact hd

/-- the guarded run taken apart: what is ahead of it may not look at the stack -/
theorem guarded_ahead {α β : Type} {M : Model} {A : Around} {m : Sem α} {a : α} {f : α → Sem β} {t : Sem β} {d d' : β} {Q : β → Shared → Prop} {E : Value → Shared → Prop} {s : Shared} (hm : wpAny M A m (fun b s' => b = a ∧ s' = s) E s)
    (h : wpAny M A (guarded t d) Q E s) (hf : f a = t) (hd : Q d s → Q d' s) : wpAny M A (guarded (m >>= f) d') Q E s := by
  intro Γ p hΓ
  have h0 := fun q => h Γ q hΓ
  unfold guarded at h0 ⊢
  rw [Sem.wp_bind']
  show wp M Γ (if goodSt ((Γ.code, p) :: Γ.below) = true then m >>= f else pure d') _ _ p s
  have h1 : ∀ q, wp M Γ (if goodSt ((Γ.code, q) :: Γ.below) = true then t else pure d) (fun a _ s' => Q a s') (fun e _ s' => E e s') q s := fun q => by
    have := h0 q
    rw [Sem.wp_bind'] at this
    exact this
  by_cases hg : goodSt ((Γ.code, p) :: Γ.below) = true
  · rw [if_pos hg, Sem.wp_bind']
    refine Sem.wp_mono M Γ m (fun b q s' hb => ?_) (fun _ _ _ x => x) p s (hm Γ p hΓ)
    obtain ⟨rfl, rfl⟩ := hb
    rw [hf]
    have := h1 q
    rw [if_pos (goodSt_pos hg)] at this
    exact this
  · rw [if_neg hg]
    have := h1 p
    rw [if_neg hg] at this
    exact hd this

theorem sched_guard {prog : Program} {w : World} {s s' : Shared} {t : Sem PySem.Fin} {d : PySem.Fin} {n : Nat} {o : Outcome} (hr : s.asleep)
    (h : schedN (denote table) prog w n (.single s ⟨guarded t d, .builtin "claim.caller" {}, default, []⟩) = .halted o s') : ∃ k, schedN (denote table) prog w k (.single s ⟨t, .builtin "claim.caller" {}, default, []⟩) = .halted o s' := by
  cases n with
  | zero => cases h
  | succ k =>
    refine ⟨k, ?_⟩
    have e1 : step (denote table) prog w s ⟨guarded t d, .builtin "claim.caller" {}, default, []⟩ = .go s ⟨t, .builtin "claim.caller" {}, default, []⟩ := by
      obtain ⟨hp, g, dr, tk, os⟩ := s
      rfl
    rcases sstep_single (denote table) prog w s ⟨guarded t d, .builtin "claim.caller" {}, default, []⟩ rfl hr with e | e
    · simp only [schedN, e, e1] at h
      exact h
    · rw [e1] at e; cases e

theorem holdsBy_guard {c : ClaimW} {tree : List Value → Sem PySem.Fin} {d : PySem.Fin} {defs kps : List Str} {writes : Bool}
    (h : c.HoldsOpenBy (fun vs => ⟨guarded (tree vs) d, .builtin "claim.caller" {}, default, []⟩) defs kps writes) : c.HoldsOpenBy (fun vs => ⟨tree vs, .builtin "claim.caller" {}, default, []⟩) defs kps writes := by
  obtain ⟨h1, h2, h3⟩ := h
  refine ⟨h1, h2, fun w => ⟨(h3 w).1, fun s hs => ?_⟩⟩
  obtain ⟨s₀, hf, hg0, s₁, hT, k1, k2, k3, hC⟩ := (h3 w).2 s hs
  have A : AfterImport (opening c.prog) w s := hs
  have z : s₁.asleep := Shared.asleep_of_life (hT.2.1.trans (fence_lifeW hf)) A.life
  refine ⟨s₀, hf, hg0, s₁, hT, k1, k2, k3, fun args hpre hlay ord hord => ?_⟩
  obtain ⟨vs, s₂, hlaid, n, o, s', hrun, rest⟩ := hC args hpre hlay ord hord
  have hal := layAllW_rest _ _ _ hlaid
  obtain ⟨k, hk⟩ := sched_guard (Shared.asleep_of_life hal.2.2.2 z) hrun
  exact ⟨vs, s₂, hlaid, k, o, s', hk, rest⟩

/-- as the library's WalkO, from good contexts alone; and the answer True is a good one -/
noncomputable abbrev WalkGo (q : Program) (loose : List Str) (XP : (Str → Option Value) → Heap → Prop) (YP : World → Heap → Prop) (r : RowW) (d : DefRec) (kwd : List (Str × Expr)) : Prop :=
  ∀ (w : World) (s₀ s₁ : Shared) (mg mb : Str → Option Value), Ground q loose r.records XP w s₀ mg mb s₁.heap → YP w s₁.heap → ∀ (a : Addr) (o : Obj) (pm cd doc dV kV : Value), s₁.heap.get? a = some o →
    o.data = .func { docDef d.name d.params d.body d.scope pm cd doc with defaults := dV, kwdefaults := kV } → s₁.heap.CodeRec cd d.name → Dflts mg s₁.heap d.params kwd dV kV → mg d.name = some (.ref a) → s₁.gens = #[] →
    ∀ (args : List WData) (vals : List Value) (as : List Addr), r.claim.pre args = true → WData.layableAll args = true → ReadsAllW r.records (classAt s₀.heap) s₁.heap vals args as → WellAll w.params s₁.heap vals args → (∀ a ∈ as, (a == sysModules) = false) →
      GoodWG r.claim (classAt s₀.heap) (ExcName.means s₀.heap) args s₁ (.ok (.ret (.bool true))) s₁ ∧
      wpG (model r.prog w) callerA (PySem.call (.ref a) vals) (fun v s' => GoodWG r.claim (classAt s₀.heap) (ExcName.means s₀.heap) args s₁ (.ok (.ret v)) s') s₁

/-- LeftO under another name: the head is then closed at once, not in pieces -/
noncomputable abbrev LeftOnce (p q : Program) (loose : List Str) (Xt : Shared → Bool) {α : Type} (Yf : Shared → α) (Ya : World → α) (N : Nat) : Prop := LeftO p q loose Xt Yf Ya N

end Mine
namespace Mine.PySem.W
open Sem (wp)
theorem holds_open {r : OpenRow} {q : Program} {loose : List Str} {Xt : Shared → Bool} {XP : (Str → Option Value) → Heap → Prop} {α : Type} {Yf : Shared → α} {Ya : World → α} {YP : World → Heap → Prop} {d : DefRec} {kwd : List (Str × Expr)} {N : Nat}
    (left : LeftOnce r.prog q loose Xt Yf Ya N) (hY : ∀ w s, Yf s = Ya w → YP w s.heap) (hYk : ∀ w h h', YP w h → (∀ b o, h.get? b = some o → h'.get? b = some o) → YP w h')
    (hX : ∀ s, Xt s = true → XP (s.heap.nsMap mainGlobals) s.heap) (hXk : ∀ mg h h', XP mg h → (∀ b o, h.get? b = some o → h'.get? b = some o) → XP mg h')
    (hdef : defOf q r.name = some (d, kwd)) (hp : r.prog.theDef r.name = some (d.params, d.body, d.scope)) (hk : kwWritten? d.params.kwonlyargs d.params.kw_defaults = some kwd) (hRf : ∀ s, Xt s = true → RecFacts r.records s.heap) (hwr : (!r.writes || r.records.isEmpty) = true)
    (_ : True) (ok : (chainsOk q && opensWell r.prog && (frees r.toRowW && r.within.isEmpty)) = true) (hb : r.prog.bare) (hw : r.toRowW.promised)
    (call : r.wellSaid = true ∧ WalkGo q loose XP YP r.toRowW d kwd) : r.Holds := by
  refine ⟨call.1, hw, holdsBy_guard (d := .done (.ret (.bool true))) (open_anyG (r := r.toRowW) (run := fun f vs => guarded (PySem.call f vs) (.bool true)) (tree := fun vs => guarded (do match ← nsGet mainNs r.name with
      | some f => do ret (← PySem.call f vs)
      | none => unsupported "claim.caller:no-such-global") (.done (.ret (.bool true)))) left hY hYk hX hXk hRf hwr ok hb hw
    (fun vs w s mg f Q E hg hf h => ?_)
    (fun w s hg G n hn => ?_) fun w s₀ s₁ mg mb G Y args vs as hpre hlay L low => ?_)⟩
  · have h2 : wpAny (model r.prog w) callerA (guarded (PySem.call f vs >>= fun v => ret v) (.done (.ret (.bool true)))) Q E s := by
      intro Γ p hΓ
      have h0 := h Γ p hΓ
      unfold guarded at h0 ⊢
      rw [Sem.wp_bind'] at h0 ⊢
      have h1 : wp (model r.prog w) Γ (if goodSt ((Γ.code, p) :: Γ.below) = true then PySem.call f vs else pure (.bool true)) (fun v _ s' => Q (.done (.ret v)) s') (fun e _ s' => E e s') p s := h0
      show wp (model r.prog w) Γ (if goodSt ((Γ.code, p) :: Γ.below) = true then (PySem.call f vs >>= fun v => ret v) else pure (.done (.ret (.bool true)))) _ _ p s
      by_cases hg : goodSt ((Γ.code, p) :: Γ.below) = true
      · rw [if_pos hg] at h1 ⊢
        rw [Sem.wp_bind']
        exact Sem.wp_mono _ Γ _ (fun _ _ _ x => x) (fun _ _ _ x => x) p s h1
      · rw [if_neg hg] at h1 ⊢
        exact h1
    exact guarded_ahead (a := some f) (wpAny_nsGet hg (by rw [hf]; exact ⟨rfl, rfl⟩)) h2 rfl fun x => x
  · obtain rfl : n = r.name := by split at hn <;> simp_all
    exact pinned_of_view hg G hdef hp hk
  · obtain ⟨a, o, pm, cd, doc, dV, kV, h1, h2, h3, h4, h5⟩ := G.fn hdef
    have c := call.2 w s₀ s₁ mg mb G Y a o pm cd doc dV kV h2 h3 h4 h5 (defOf_name hdef ▸ h1) L.gens args vs as hpre hlay L.reads L.well (L.low low)
    exact ⟨.ref a, h1, guarded_any c.2 c.1⟩
end Mine.PySem.W
end

/- Head -/
section
open PySem PySem.W PyProof.Rows
set_option Elab.async false
namespace Mine
theorem reset_Head {M : PySem.Model} {A : PySem.Around} {Q : PySem.Flow → PySem.Shared → Prop} {E : PySem.Value → PySem.Shared → Prop} {s : PySem.Shared} {env : PySem.Env} (h : Q .next s) : PySem.wpAny M A (PySem.execs [] env) Q E s := by
  w_top off
  first | (walk1; exact h) | exact PySem.wpAny_execs_nil h
set_option maxRecDepth 100000
set_option maxHeartbeats 8000000
theorem said : PySem.Challenge.rw_xp0013_01.wellSaid = true := by decide +kernel
open_top hd for (PySem.Challenge.rw_xp0013_01).row
end Mine
end

/- Base -/
section
open PySem PySem.W PySem.Spec PySem.Calls PyProof.Rows PyProof.V
set_option Elab.async false
set_option maxRecDepth 100000
namespace Mine
theorem reset_Base {M : PySem.Model} {A : PySem.Around} {Q : PySem.Flow → PySem.Shared → Prop} {E : PySem.Value → PySem.Shared → Prop} {s : PySem.Shared} {env : PySem.Env} (h : Q .next s) : PySem.wpAny M A (PySem.execs [] env) Q E s := by
  w_top off
  first | (walk1; exact h) | exact PySem.wpAny_execs_nil h


/-- what a call that hands back a plain value goes on with -/
noncomputable abbrev Ret (h₀ : Heap) (L : Addr) (m : Str → Option Value) (news : List (Addr × Obj)) (s : Shared) (Q : Value → Shared → Prop) (v : Tok → Value) : Prop :=
  ∀ (t : Tok) (h' : Heap) (tk' : Nat), Fr h₀ L h' m → News h₀ L h' news → Q (v t) { s with heap := h', toks := tk' }

/-- a call of the def at f from a def's frame -/
noncomputable abbrev Claim (w : World) (f : Addr) (news : List (Addr × Obj)) (vs : List Value)
    (ret : Heap → Addr → (Str → Option Value) → Shared → (Value → Shared → Prop) → Prop) : Prop :=
  ∀ (p : Program) (loose : List Str) (mean : ExcName → Option Value) (mg mb : Str → Option Value)
    (dp un : Nat) (gd : Option (List Code)) (cn : Str) (cs : Scope) (a : Addr) (ccd : Value) (cl : List (Str × Addr)) (outer : List Env) (A₀ : Around) (base h₀ : Heap) (L : Addr) (m : Str → Option Value) (s : Shared) (Q E : Value → Shared → Prop),
    Below A₀ base outer h₀ → Fr h₀ L s.heap m → (hd.heap_1 w.params).In h₀ → News h₀ L s.heap news → Top p loose mean mg mb h₀ → cs.kind = .function →
    dp + 20 < recursionLimit → un + 100 < cLine → ret h₀ L m s Q →
      wpAny (model PySem.Challenge.rw_xp0013_01.row.prog w) (ktrTop dp un gd cn cs L a ccd cl outer) (call (.ref f) vs) Q E s
end Mine
end

/- Loop -/
section
open PySem PySem.W PySem.Spec PySem.Calls PyProof.Rows PyProof.V
set_option Elab.async false
set_option maxRecDepth 100000
namespace Mine
theorem reset_Loop {M : PySem.Model} {A : PySem.Around} {Q : PySem.Flow → PySem.Shared → Prop} {E : PySem.Value → PySem.Shared → Prop} {s : PySem.Shared} {env : PySem.Env} (h : Q .next s) : PySem.wpAny M A (PySem.execs [] env) Q E s := by
  w_top off
  first | (walk1; exact h) | exact PySem.wpAny_execs_nil h
theorem le8 : ∀ {n : Nat}, n ≤ 8 → n = 0 ∨ n = 1 ∨ n = 2 ∨ n = 3 ∨ n = 4 ∨ n = 5 ∨ n = 6 ∨ n = 7 ∨ n = 8
  | 0, _ => .inl rfl
  | 1, _ => .inr (.inl rfl)
  | 2, _ => .inr (.inr (.inl rfl))
  | 3, _ => .inr (.inr (.inr (.inl rfl)))
  | 4, _ => .inr (.inr (.inr (.inr (.inl rfl))))
  | 5, _ => .inr (.inr (.inr (.inr (.inr (.inl rfl)))))
  | 6, _ => .inr (.inr (.inr (.inr (.inr (.inr (.inl rfl))))))
  | 7, _ => .inr (.inr (.inr (.inr (.inr (.inr (.inr (.inl rfl)))))))
  | 8, _ => .inr (.inr (.inr (.inr (.inr (.inr (.inr (.inr rfl)))))))
  | n + 9, h => absurd h (Nat.not_le_of_lt (Nat.lt_of_lt_of_le (by decide : 8 < 9) (Nat.le_add_left 9 n)))

/-- what stands between two turns: a state c of my own, the ledger and the frame that it writes, and a word of it -/
noncomputable def LoopS {σ : Type} (Led : σ → List (Addr × Obj)) (ps : σ → List (Str × Value)) (x : Str) (stored : List Str) (m₀ : Str → Option Value) (P : Nat → σ → Prop) (i : Nat) (m : Str → Option Value) (nx : List (Addr × Obj)) : Prop :=
  ∃ c : σ, nx = Led c ∧ (∀ p ∈ ps c, m p.1 = some p.2) ∧ (∀ z, z ≠ x → (∀ p ∈ ps c, z ≠ p.1) → stored.contains z = false → m z = m₀ z) ∧ P i c

section
variable {prog : Program} {w : World} {A : Around} {E : Value → Shared → Prop} {s : Shared} {env : Env} {h₀ : Heap} {x : Str} {body : List Stmt} {Q : Flow → Shared → Prop}

theorem loop_my {σ : Type} {I : Addr} {fp wr : List Addr} {n : Nat} {PV : Nat → Value → Prop} {St : Nat → Heap → Prop} {m₀ : Str → Option Value} (val : Nat → Tok → Value)
    (Led : σ → List (Addr × Obj)) (ps : σ → List (Str × Value)) (stored : List Str) (P : Nat → σ → Prop) {news : List (Addr × Obj)}
    (W : Walks prog w A I fp wr n PV St) (hv : ∀ i v, i < n → PV i v → ∃ t, v = val i t) (hLf : env.locals ∉ fp) (hwr : ∀ b ∈ wr, h₀.get? b = none) (hnw : ∀ p ∈ news, p.1 ∉ wr) (hfp : ∀ q ∈ news, q.1 ∉ fp)
    (hst : St 0 s.heap) (F : Fr h₀ env.locals s.heap m₀) (N : News h₀ env.locals s.heap news) (hj : LoopS Led ps x stored m₀ P 0 m₀ news)
    (turn : ∀ (c : σ) (i : Nat) t (u : Str → Option Value) h tk own, i < n → OwnOff own (news.map (·.1)) → P i c →
      Fr h₀ env.locals h (fun y => if y = x then some (val i t) else kstB (fun z => if stored.contains z then u z else m₀ z) (ps c) y) → News h₀ env.locals h (Led c ++ own) →
      wpAny (model prog w) A (execs body env) (InvPostN h₀ env.locals (LoopS Led ps x stored m₀ P (i + 1)) own (news.map (·.1)) { s with heap := h, toks := tk } Q) E { s with heap := h, toks := tk })
    (done : ∀ (c : σ) (u : Str → Option Value) h tk, P n c → Fr h₀ env.locals h (fun y => if y = x then u y else kstB (fun z => if stored.contains z then u z else m₀ z) (ps c) y) → News h₀ env.locals h (Led c) → Q .next { s with heap := h, toks := tk }) :
    LoopAtV prog w A h₀ env x body Q E (.ref I) s := by
  refine loop_invN (fun i m nx => LoopS Led ps x stored m₀ P i m nx) W hLf hwr hnw hfp hst F N hj ?_ ?_
  · rintro i v m₁ nx h tk own hi hV _ hoff ⟨c, rfl, h1, h2, hp'⟩ F₁ N₁
    obtain ⟨t, rfl⟩ := hv i v hi hV
    exact turn c i t m₁ h tk own hi hoff hp' (kst_fr h1 h2 F₁) N₁
  · rintro m₁ nx h tk ⟨c, rfl, h1, h2, hp'⟩ F₁ N₁
    exact done c m₁ h tk hp' (kst_frOut h1 h2 F₁) N₁

theorem range_my {σ : Type} {r : Addr} {a₀ b₀ c₁ : Int} {t₀ u₀ v₀ : Tok} {n : Nat} {m₀ : Str → Option Value}
    (Led : σ → List (Addr × Obj)) (ps : σ → List (Str × Value)) (stored : List Str) (P : Nat → σ → Prop) {news : List (Addr × Obj)}
    (hh : A.handled = none) (hr : IsRange s.heap r a₀ b₀ c₁ t₀ u₀ v₀) (hsmall : Builtin.Range.small a₀ b₀ c₁ = true) (hn : Builtin.Range.rangeSize a₀ b₀ c₁ = (n : Int)) (F : Fr h₀ env.locals s.heap m₀) (N : News h₀ env.locals s.heap news) (hj : LoopS Led ps x stored m₀ P 0 m₀ news)
    (turn : ∀ (c : σ) (i : Nat) t (u : Str → Option Value) h tk own, i < n → OwnOff own (news.map (·.1)) → P i c →
      Fr h₀ env.locals h (fun y => if y = x then some (.int (a₀ + (i : Int) * c₁) t) else kstB (fun z => if stored.contains z then u z else m₀ z) (ps c) y) → News h₀ env.locals h (Led c ++ own) →
      wpAny (model prog w) A (execs body env) (InvPostN h₀ env.locals (LoopS Led ps x stored m₀ P (i + 1)) own (news.map (·.1)) { s with heap := h, toks := tk } Q) E { s with heap := h, toks := tk })
    (done : ∀ (c : σ) (u : Str → Option Value) h tk, P n c → Fr h₀ env.locals h (fun y => if y = x then u y else kstB (fun z => if stored.contains z then u z else m₀ z) (ps c) y) → News h₀ env.locals h (Led c) → Q .next { s with heap := h, toks := tk }) :
    wpAny (model prog w) A (pyIter (.ref r)) (fun it s₂ => LoopAtV prog w A h₀ env x body Q E it s₂) E s := by
  refine wpAny_pyIter_range hr hsmall ?_
  have W : Walks prog w A s.heap.objs.size [s.heap.objs.size] [s.heap.objs.size] n (fun i v => i < n ∧ ∃ t, v = .int (a₀ + i * c₁) t)
      (fun i h => IsRangeIter h s.heap.objs.size (a₀ + (i : Nat) * c₁) ((n : Int) - (i : Nat)) c₁) := (Walks.range hh _ a₀ c₁ n).bound
  refine loop_my (fun i t => .int (a₀ + (i : Int) * c₁) t) Led ps stored P W (fun i v _ h => h.2) ?_ ?_ ?_ ?_ (by show IsRangeIter _ _ _ _ _; rw [hn]; simpa using Heap.get?_push_size _ rfl) (F.push _) (fun p hp => ⟨Heap.get?_push_of_some _ (N p hp).1, (N p hp).2⟩) hj turn done
  · intro hm
    exact absurd F.ns.lt ((List.mem_singleton.mp hm) ▸ Nat.lt_irrefl _)
  · intro b hb
    rw [List.mem_singleton.mp hb]
    exact next_is_new F
  · intro p hp hI
    exact absurd (Heap.lt_size (N p hp).1) ((List.mem_singleton.mp hI) ▸ Nat.lt_irrefl _)
  · intro p hp hI
    exact absurd (Heap.lt_size (N p hp).1) ((List.mem_singleton.mp hI) ▸ Nat.lt_irrefl _)

theorem start_my {σ : Type} {Led : σ → List (Addr × Obj)} {ps : σ → List (Str × Value)} {stored : List Str} {m₀ : Str → Option Value} {P : Nat → σ → Prop} {news : List (Addr × Obj)} (c : σ) (hn : news = Led c) (hk : ∀ p ∈ ps c, m₀ p.1 = some p.2) (hp : P 0 c) : LoopS Led ps x stored m₀ P 0 m₀ news :=
  ⟨c, hn, hk, fun _ _ _ _ => rfl, hp⟩
theorem end_my {σ : Type} {Led : σ → List (Addr × Obj)} {ps : σ → List (Str × Value)} {stored : List Str} {m₀ : Str → Option Value} {P : Nat → σ → Prop} {i : Nat} (c : σ) {L : Addr} {m' : Str → Option Value} {own news' : List (Addr × Obj)} {adr : List Addr} {s₁ : Shared} {h' : Heap} {tk : Nat}
    (F : Fr h₀ L h' m') (N : News h₀ L h' news') (hn : ∀ p ∈ Led c, p ∈ news') (ho : ∀ p ∈ own, p ∈ news') (ha : (Led c).map (·.1) = adr) (hk : ∀ p ∈ ps c, m' p.1 = some p.2) (hr : ∀ z, z ≠ x → (∀ p ∈ ps c, z ≠ p.1) → stored.contains z = false → m' z = m₀ z) (hp : P i c) :
    InvEndN h₀ L (LoopS Led ps x stored m₀ P i) own adr s₁ { s₁ with heap := h', toks := tk } :=
  InvEndN.intro F N ⟨c, rfl, hk, hr, hp⟩ ha hn ho
end

section
variable {prog : Program} {w : World} {A : Around} {E : Value → Shared → Prop} {s : Shared} {value slice : PySem.Expr} {b : Array UInt8} {t ui : Tok} {i : Int} {Q : Value → Shared → Prop}
theorem item_b (hfit : b.size ≤ 1099511627776) (h0 : 0 ≤ i) (h1 : i < (b.size : Int)) (h : Q (.int (b.toList.getD i.toNat 0).toNat s.toks) { s with toks := s.toks + 1 })
    (hs : subscripted slice false (.bytes b t) (.int i ui) = operate [.bytes b t, .int i ui] (getItem (.bytes b t) (.int i ui)) := by with_unfolding_all rfl)
    (ht : ∀ r, letTemporaryGo value (.bytes b t) r = pure () := by intro _; with_unfolding_all rfl) :
    wpAny (model prog w) A (subscriptTail value slice (.bytes b t) (.int i ui)) Q E s := by
  have e : b = b.toList.toArray := by simp
  generalize hl : b.toList = l at h e
  subst e
  exact KBy.item_N (by simpa using hfit) h0 (by simpa using h1) h hs ht
end

theorem off_my {D : Addr} {news own : List (Addr × Obj)} {adr : List Addr} (l1 : ∀ p ∈ news, p.1 < D) (ho : OwnOff own adr) (hD : D ∈ adr) : ∀ p ∈ news ++ own, p.1 ≠ D := fun p hp =>
  (List.mem_append.mp hp).elim (fun h => Nat.ne_of_lt (l1 p h)) fun h => ho p h D hD

/-- a goal that the walk leaves to me -/
noncomputable def Stop (P : Prop) : Prop := P
theorem nameHead {h₀ h : Heap} {L D : Addr} {o : Obj} {r : List (Addr × Obj)} (_N : News h₀ L h ((D, o) :: r)) : ∃ D', D' = D := ⟨D, rfl⟩
theorem Stop.out {P : Prop} (h : Stop P) : P := h
end Mine
end

/- Rng -/
section
open PySem PySem.W PySem.Spec PySem.Calls PyProof.Rows PyProof.V
set_option Elab.async false
set_option maxRecDepth 100000
namespace Mine
theorem reset_Rng {M : PySem.Model} {A : PySem.Around} {Q : PySem.Flow → PySem.Shared → Prop} {E : PySem.Value → PySem.Shared → Prop} {s : PySem.Shared} {env : PySem.Env} (h : Q .next s) : PySem.wpAny M A (PySem.execs [] env) Q E s := by
  w_top off
  first | (walk1; exact h) | exact PySem.wpAny_execs_nil h
theorem fits_of {a : Int} (h1 : -100000 ≤ a) (h2 : a ≤ 100000) : Builtin.Range.rangeFitsLong a = true := by
  simp only [Builtin.Range.rangeFitsLong, Bool.and_eq_true, decide_eq_true_eq]; lia
theorem rangeSize_le {a b c : Int} (ha : 0 ≤ a) (hb0 : 0 ≤ b) (hb : b ≤ 2000) (hc : 0 < c) : 0 ≤ Builtin.Range.rangeSize a b c ∧ Builtin.Range.rangeSize a b c ≤ 2001 := by
  unfold Builtin.Range.rangeSize
  rw [if_pos hc]
  by_cases h : a < b
  · rw [if_pos h]
    have h1 : (b - a - 1) / c ≤ b - a - 1 := Int.ediv_le_self _ (by lia)
    have h2 : 0 ≤ (b - a - 1) / c := Int.ediv_nonneg (by lia) (by lia)
    lia
  · rw [if_neg h]; lia
theorem small_of {a b c : Int} (ha0 : 0 ≤ a) (ha : a ≤ 2000) (hb0 : 0 ≤ b) (hb : b ≤ 2000) (hc0 : 0 < c) (hc : c ≤ 2000) : Builtin.Range.small a b c = true := by
  have := rangeSize_le ha0 hb0 hb hc0
  unfold Builtin.Range.small
  rw [fits_of (by lia) (by lia), fits_of (by lia) (by lia), fits_of (by lia) (by lia), fits_of (by lia) (by lia), if_pos hc0, fits_of (by lia) (by lia)]
  simp
theorem rangeSize_mul {q v : Nat} (hv : 0 < v) : Builtin.Range.rangeSize 0 ((q * v : Nat) : Int) (v : Int) = (q : Int) := by
  unfold Builtin.Range.rangeSize
  rw [if_pos (by lia)]
  cases q with
  | zero => simp
  | succ q =>
    have h : (0 : Int) < (((q + 1) * v : Nat) : Int) := by
      exact Int.ofNat_lt.mpr (Nat.mul_pos (Nat.succ_pos q) hv)
    rw [if_pos h]
    have e : ((((q + 1) * v : Nat) : Int) - 0 - 1) = (v : Int) * (q : Int) + ((v : Int) - 1) := by
      rw [Nat.add_mul, Nat.one_mul, Nat.mul_comm q v]
      push_cast
      lia
    rw [e, Int.mul_add_ediv_left _ _ (by lia), Int.ediv_eq_zero_of_lt (by lia) (by lia)]
    lia
theorem rangeSize_one {a : Int} {n : Nat} : Builtin.Range.rangeSize a (a + (n : Int)) 1 = (n : Int) := by
  unfold Builtin.Range.rangeSize
  rw [if_pos (by decide)]
  by_cases h : a < a + (n : Int)
  · rw [if_pos h, Int.ediv_one]; lia
  · rw [if_neg h]; lia
end Mine
end

/- Tq -/
section
open PySem PySem.W PySem.Spec PySem.Calls PyProof.Rows PyProof.V
namespace Mine
theorem reset_Tq {M : PySem.Model} {A : PySem.Around} {Q : PySem.Flow → PySem.Shared → Prop} {E : PySem.Value → PySem.Shared → Prop} {s : PySem.Shared} {env : PySem.Env} (h : Q .next s) : PySem.wpAny M A (PySem.execs [] env) Q E s := by
  w_top off
  first | (walk1; exact h) | exact PySem.wpAny_execs_nil h
theorem shapedTup {a b : Str} (ha : PyData.strOk a = true) (hb : PyData.strOk b = true) : SeqAt.shaped (.tuple [.str a, .str b]) = true := by
  simp [SeqAt.shaped, PyData.canLay0, PyData.canLayAll0, PyData.depth, PyData.depthAll, ha, hb]
theorem eqvTup {a b c d : Str} : PyData.eqv (.tuple [.str a, .str b]) (.tuple [.str c, .str d]) = (decide (a = c) && decide (b = d)) := by
  have e : ∀ x y : Str, (x == y) = decide (x = y) := fun x y => by rw [Bool.eq_iff_iff, beq_iff_eq, decide_eq_true_iff]
  simp [PyData.eqv, PyData.eqvAll, e]
end Mine
end

/- Dec -/
section
open PySem PySem.W PySem.Spec PySem.Calls PyProof.Rows PyProof.V
set_option Elab.async false
set_option maxRecDepth 100000
open Builtin
namespace Mine
theorem reset_Dec {M : PySem.Model} {A : PySem.Around} {Q : PySem.Flow → PySem.Shared → Prop} {E : PySem.Value → PySem.Shared → Prop} {s : PySem.Shared} {env : PySem.Env} (h : Q .next s) : PySem.wpAny M A (PySem.execs [] env) Q E s := by
  w_top off
  first | (walk1; exact h) | exact PySem.wpAny_execs_nil h
noncomputable def ascii (b : Array UInt8) : Str := ⟨(b.toList.map (·.toNat)).toArray⟩
section
variable {b : Array UInt8} {c : UInt8} {cs : List UInt8} {t : Tok}
theorem forIn_steps {σ : Type} {f : Nat → σ → Sem (ForInStep σ)} {st : Nat → σ} {n : Nat} (h : ∀ i x, i < n → f x (st i) = pure (.yield (st (i + 1)))) : ∀ (l : List Nat) (i : Nat), i + l.length = n → forIn l (st i) f = pure (st n)
  | [], i, e => by
    rw [List.length_nil, Nat.add_zero] at e
    rw [List.forIn_nil, e]
  | x :: l, i, e => by
    rw [List.length_cons] at e
    rw [List.forIn_cons, h i x (by lia), pure_bind]
    exact forIn_steps h l (i + 1) (by lia)
theorem ascii_loop {id : String} (hb : ∀ x ∈ b.toList, x.toNat < 128) (hsz : b.size ≤ 1000) :
    _codecs.runDecoder id _codecs.asciiDecoder none true b 0 [] = pure ((ascii b).cps, b.size) := by
  unfold _codecs.runDecoder
  simp only [Std.Legacy.Range.forIn_eq_forIn_range', Std.Legacy.Range.size]
  have e := forIn_steps (n := b.size) (st := fun i => ((i, ((b.toList.take i).map (·.toNat)).toArray, ({} : _codecs.Faults)) : Nat × Array Nat × _codecs.Faults)) (f := fun x __s => if __s.snd.fst.size > sizeLine then do
              unsupported "str:memory"
              if __s.fst ≥ b.size then pure (ForInStep.done (__s.fst, __s.snd.fst, __s.snd.snd))
                else
                  match _codecs.asciiDecoder.find true b __s.fst with
                  | _codecs.Found.text cs nxt => pure (ForInStep.yield (nxt, __s.snd.fst ++ cs.toArray, __s.snd.snd))
                  | _codecs.Found.refuse tag => do
                    unsupported (toString id ++ toString ":" ++ toString tag)
                    pure (ForInStep.yield (__s.fst, __s.snd.fst, __s.snd.snd))
                  | _codecs.Found.bad stop reason mayGrow =>
                    if (mayGrow && !true) = true then do
                      rule (toString id ++ toString ".held-back")
                      pure (ForInStep.done (__s.fst, __s.snd.fst, __s.snd.snd))
                    else do
                      rule (toString id ++ toString ".fault")
                      let __x ←
                        _codecs.decodeFault id __s.snd.snd none _codecs.asciiDecoder.own _codecs.asciiDecoder.name b
                            __s.fst stop reason
                      pure (ForInStep.yield (__x.2.snd, __s.snd.fst ++ __x.2.fst, __x.fst))
            else
              if __s.fst ≥ b.size then pure (ForInStep.done (__s.fst, __s.snd.fst, __s.snd.snd))
              else
                match _codecs.asciiDecoder.find true b __s.fst with
                | _codecs.Found.text cs nxt => pure (ForInStep.yield (nxt, __s.snd.fst ++ cs.toArray, __s.snd.snd))
                | _codecs.Found.refuse tag => do
                  unsupported (toString id ++ toString ":" ++ toString tag)
                  pure (ForInStep.yield (__s.fst, __s.snd.fst, __s.snd.snd))
                | _codecs.Found.bad stop reason mayGrow =>
                  if (mayGrow && !true) = true then do
                    rule (toString id ++ toString ".held-back")
                    pure (ForInStep.done (__s.fst, __s.snd.fst, __s.snd.snd))
                  else do
                    rule (toString id ++ toString ".fault")
                    let __x ←
                      _codecs.decodeFault id __s.snd.snd none _codecs.asciiDecoder.own _codecs.asciiDecoder.name b
                          __s.fst stop reason
                    pure (ForInStep.yield (__x.2.snd, __s.snd.fst ++ __x.2.fst, __x.fst))) ?_ (List.range' 0 ((b.size - 0 + 1 - 1) / 1)) 0 (by rw [List.length_range']; lia)
  · have e' := congrArg (fun m => m >>= fun __s : Nat × Array Nat × _codecs.Faults => (pure (__s.snd.fst, __s.fst) : Sem (Array Nat × Nat))) e
    refine Eq.trans e' ?_
    have e2 : List.take b.size b.toList = b.toList := List.take_of_length_le (by simp)
    simp only [e2, pure_bind]
    rfl
  · intro i x hi
    dsimp only
    have h1 : ¬ ((b.toList.take i).map (·.toNat)).toArray.size > sizeLine := by
      rw [List.size_toArray, List.length_map, List.length_take, sizeLine_eq]; lia
    have h2 : ¬ i ≥ b.size := by lia
    have hg : b.getD i 0 = b.toList[i]'(by simpa using hi) := by simp [Array.getD, hi]
    have h3 : _codecs.asciiDecoder.find true b i = .text [(b.getD i 0).toNat] (i + 1) := by
      show (let c := (b.getD i 0).toNat; if c < 128 then _ else _) = _
      dsimp only
      rw [if_pos (by rw [hg]; exact hb _ (List.getElem_mem _))]
      rfl
    rw [if_neg h1, if_neg h2, h3]
    dsimp only
    have e4 : (b.toList.take (i + 1)).map (·.toNat) = (b.toList.take i).map (·.toNat) ++ [(b.getD i 0).toNat] := by
      rw [hg, List.take_succ_eq_append_getElem (by simpa using hi), List.map_append]
      rfl
    rw [e4]
    simp
theorem args_dec2 (a b : Value) : argsOk "bytes.decode" ⟨[a, b], []⟩ := by unfold argsOk; kernel_rfl
theorem road_ascii {id : String} : _codecs.decodeRoad id b (PySem.Str.ofString "ascii") none [] = (_codecs.runDecoder id _codecs.asciiDecoder none true b 0 [] >>= fun r => mkStr ⟨r.1⟩) := by kernel_rfl
theorem entry_ascii {te : Tok} : «bytes.decode» ⟨[.bytes (c :: cs).toArray t, .str (PySem.Str.ofString "ascii") te], []⟩ = (mkStr (PySem.Str.ofString "utf-8") >>= fun _ => mkStr (PySem.Str.ofString "ascii") >>= fun e => mkStr (PySem.Str.ofString "bytes.decode") >>= fun d =>
    call (.builtin "_codecs.decode.text") [.bytes (c :: cs).toArray t, e, .none, d] >>= fun v => ret v) := by kernel_rfl
theorem meets_text_ascii {t1 t2 : Tok} {d : PySem.Str} (hb : ∀ x ∈ b.toList, x.toNat < 128) (hsz : b.size ≤ 1000) :
    Meets («_codecs.decode.text» ⟨[.bytes b t, .str (PySem.Str.ofString "ascii") t1, .none, .str d t2], []⟩) (fun _ R s => R (.ok (.ret (.str (ascii b) s.toks))) { s with toks := s.toks + 1 }) := by
  refine .of_wp fun prog w A R s hS => ?_
  show wpAny _ _ (Bytes.bytesLike _ (.bytes b t) >>= fun r => _) _ _ s
  refine wpAny_bind (wpAny_of_eq KBd.like_eq ?_)
  refine wpAny_bind (wpAny_of_eq KBd.held_eq ?_)
  show wpAny _ _ (_codecs.decodeRoad _ b (PySem.Str.ofString "ascii") none [] >>= fun v => _) _ _ s
  rw [road_ascii, ascii_loop hb hsz]
  refine wpAny_bind (wpAny_bind (wpAny_pure ?_))
  exact wpAny_mkStr (wpAny_pure ⟨_, rfl, hS⟩) (by show (ascii b).cps.size ≤ _; rw [ascii, List.size_toArray, List.length_map, Array.length_toList, sizeLine_eq]; lia)
theorem meets_ascii {te : Tok} (hb : ∀ x ∈ c :: cs, x.toNat < 128) (hsz : (c :: cs).length ≤ 1000) :
    Meets («bytes.decode» ⟨[.bytes (c :: cs).toArray t, .str (PySem.Str.ofString "ascii") te], []⟩) (fun _ R s => ∀ t' k, R (.ok (.ret (.str (ascii (c :: cs).toArray) t'))) { s with toks := k }) := by
  refine .of_wp fun prog w A R s h => ?_
  rw [entry_ascii]
  refine wpAny_bind (wpAny_mkStr ?_ (by decide))
  refine wpAny_bind (wpAny_mkStr ?_ (by decide))
  refine wpAny_bind (wpAny_mkStr ?_ (by decide))
  exact wpAny_bind (call_function_meets KBd.kind_text KBd.plain_text KBd.entry_text (KBd.args_text _ _ _ _) (meets_text_ascii (by simpa using hb) (by simpa using hsz)) (wpAny_pure ⟨_, rfl, h _ _⟩))
end
section
variable {prog : Program} {w : World} {A : Around} {E : Value → Shared → Prop} {s : Shared} {b : Array UInt8} {t te : Tok}
theorem decode_ascii {Q : Value → Shared → Prop} (hb : ∀ x ∈ b.toList, x.toNat < 128) (hsz : b.size ≤ 1000) (hne : 0 < b.size) (h : ∀ t' k, Q (.str (ascii b) t') { s with toks := k }) :
    wpAny (model prog w) A (call (.builtin "bytes.decode") [.bytes b t, .str (PySem.Str.ofString "ascii") te]) Q E s := by
  have e : b = b.toList.toArray := by simp
  generalize hl : b.toList = l at e hb
  subst e
  cases l with
  | nil => exact absurd hne (by simp)
  | cons c cs => exact call_meets FB.slot_bytes_decode (typeIs_bytes _ _ _) FB.entry_bytes_decode (args_dec2 _ _) (meets_ascii hb (by simpa using hsz)) h
end
end Mine
end

/- Enc -/
section
open PySem PySem.W PySem.Spec PySem.Calls PyProof.Rows PyProof.V
set_option Elab.async false
set_option maxRecDepth 100000
open Builtin
namespace Mine
theorem reset_Enc {M : PySem.Model} {A : PySem.Around} {Q : PySem.Flow → PySem.Shared → Prop} {E : PySem.Value → PySem.Shared → Prop} {s : PySem.Shared} {env : PySem.Env} (h : Q .next s) : PySem.wpAny M A (PySem.execs [] env) Q E s := by
  w_top off
  first | (walk1; exact h) | exact PySem.wpAny_execs_nil h
noncomputable def octets (x : Str) : Array UInt8 := (x.cps.toList.map (·.toUInt8)).toArray
theorem fold_octets (l : List Nat) (acc : Array UInt8) : l.foldl (fun acc y => acc ++ ([y.toUInt8] : List UInt8).toArray) acc = acc ++ (l.map (·.toUInt8)).toArray := by
  induction l generalizing acc with
  | nil => simp
  | cons y l ih => rw [List.foldl_cons, ih]; simp
theorem narrow_ascii {id : String} {self : Value} {x : Str} (h : ∀ c ∈ x.cps.toList, c < 128) (h2 : 2 ≤ x.length) (hsz : x.length ≤ 1000) :
    _codecs.encodeNarrow id _codecs.asciiCodec none self x = pure (octets x) := by
  unfold _codecs.encodeNarrow
  obtain ⟨k, hk⟩ : ∃ k, x.length = k + 2 := ⟨x.length - 2, by lia⟩
  have hr : List.range' 0 ((x.length - 0 + 1 - 1) / 1) = 0 :: 1 :: List.range' 2 k := by
    rw [hk, show (k + 2 - 0 + 1 - 1) / 1 = k + 2 by lia, List.range'_succ, List.range'_succ]
  have hbad : ∀ y ∈ x.cps.toList, _codecs.asciiCodec.bad y = false := fun y hy => by
    show decide (y ≥ 128) = false
    have := h y hy
    exact decide_eq_false (by lia)
  have hxs : x.cps.size = k + 2 := hk
  have h0 : x.cps[0]? = some x.cps[0] := by simp [hxs]
  have hb0 : _codecs.asciiCodec.bad x.cps[0] = false := hbad _ (by simp)
  have hend : x.cps[x.cps.size]? = none := by simp
  have hrest : x.cps.extract 0 x.cps.size = x.cps := by simp
  have hfind : x.cps.findIdx? _codecs.asciiCodec.bad = none := by
    rw [Array.findIdx?_eq_none_iff]
    intro y hy
    rw [hbad y (by simpa using hy)]
    
  simp only [Std.Legacy.Range.forIn_eq_forIn_range', Std.Legacy.Range.size, hr]
  rw [List.forIn_cons]
  simp only [h0, hb0, hrest, hfind, Option.getD_none, Nat.zero_add]
  have hs0 : ¬ (#[] : Array UInt8).size > sizeLine := by rw [sizeLine_eq]; simp
  simp only [if_neg hs0, Bool.not_false, if_true, pure_bind]
  have hf : Array.foldl (fun acc y => acc ++ (_codecs.asciiCodec.bytesOf y).toArray) #[] x.cps = octets x := by
    rw [← Array.foldl_toList]
    have := fold_octets x.cps.toList #[]
    rw [Array.empty_append] at this
    exact this
  have hs1 : ¬ (octets x).size > sizeLine := by
    rw [sizeLine_eq, octets, List.size_toArray, List.length_map, Array.length_toList, hxs]; lia
  rw [hf, List.forIn_cons]
  simp only [hend, if_neg hs1, pure_bind]
theorem road_enc {id : String} {self : Value} {x : Str} : _codecs.encodeRoad id self x (PySem.Str.ofString "ascii") none = (_codecs.encodeNarrow id _codecs.asciiCodec none self x >>= fun b => mkBytes b) := by kernel_rfl
theorem entry_enc {x : Str} {t te : Tok} : «str.encode» ⟨[.str x t, .str (PySem.Str.ofString "ascii") te], []⟩ = (_codecs.encodeRoad "str.encode" (.str x t) x (PySem.Str.ofString "ascii") none >>= fun v => ret v) := by kernel_rfl
theorem meets_enc {x : Str} {t te : Tok} (h : ∀ c ∈ x.cps.toList, c < 128) (h2 : 2 ≤ x.length) (hsz : x.length ≤ 1000) :
    Meets («str.encode» ⟨[.str x t, .str (PySem.Str.ofString "ascii") te], []⟩) (fun _ R s => R (.ok (.ret (.bytes (octets x) s.toks))) { s with toks := s.toks + 1 }) := by
  refine .of_wp fun prog w A R s hq => ?_
  rw [entry_enc, road_enc, narrow_ascii h h2 hsz]
  refine wpAny_bind (wpAny_bind (wpAny_pure (wpAny_mkBytes (wpAny_pure ⟨_, rfl, hq⟩) ?_)))
  rw [sizeLine_eq, octets, List.size_toArray, List.length_map, Array.length_toList]
  have e : x.length = x.cps.size := rfl
  lia
theorem gm_encode {M : Model} {A : Around} {E : Value → Shared → Prop} {s : Shared} {x : Str} {t : Tok} {pl : Sem Bool} {Q : Value × List Value → Shared → Prop} (h : Q (.builtin "str.encode", [.str x t]) s) : wpAny M A (getMethod (.str x t) "encode" pl) Q E s :=
  PySem.GM.of (.str x t) (typeIs_str _ _ _) PySem.F.slot_str_encode PySem.F.type_str_encode PySem.GM.noRef h
theorem encode_ascii {prog : Program} {w : World} {A : Around} {E : Value → Shared → Prop} {s : Shared} {x : Str} {t te : Tok} {Q : Value → Shared → Prop} (h : ∀ c ∈ x.cps.toList, c < 128) (h2 : 2 ≤ x.length) (hsz : x.length ≤ 1000)
    (hq : Q (.bytes (octets x) s.toks) { s with toks := s.toks + 1 }) :
    wpAny (model prog w) A (call (.builtin "str.encode") [.str x t, .str (PySem.Str.ofString "ascii") te]) Q E s :=
  call_meets PySem.F.slot_str_encode (typeIs_str s x t) PySem.F.entry_str_encode (PySem.F.args_str_encode_2 _ _) (meets_enc h h2 hsz) hq
end Mine
end

/- Uq -/
section
open PySem PySem.W PySem.Spec PySem.Calls PyProof.Rows PyProof.V
set_option Elab.async false
set_option maxRecDepth 100000
namespace Mine
theorem reset_Uq {M : PySem.Model} {A : PySem.Around} {Q : PySem.Flow → PySem.Shared → Prop} {E : PySem.Value → PySem.Shared → Prop} {s : PySem.Shared} {env : PySem.Env} (h : Q .next s) : PySem.wpAny M A (PySem.execs [] env) Q E s := by
  w_top off
  first | (walk1; exact h) | exact PySem.wpAny_execs_nil h
theorem ltCps_iff : ∀ a b : List Nat, ltCps a b = true ↔ a < b
  | [], [] => by simp [ltCps]
  | [], b :: l => by simp [ltCps]
  | a :: l, [] => by simp [ltCps]
  | a :: l, b :: l' => by
    simp only [ltCps, Bool.or_eq_true, decide_eq_true_iff, Bool.and_eq_true, beq_iff_eq, List.cons_lt_cons_iff, ltCps_iff l l']
theorem rising_pw : ∀ (p : Str) (ss : List Str), risingS p ss = true → (p :: ss).Pairwise (fun a b => a.cps.toList ≤ b.cps.toList)
  | p, [], _ => by simp
  | p, x :: r, h => by
    simp only [risingS, Bool.and_eq_true, Bool.not_eq_true'] at h
    have ih := rising_pw x r h.2
    have hle : p.cps.toList ≤ x.cps.toList := by
      refine List.not_lt.mp fun hlt => ?_
      rw [(ltCps_iff _ _).mpr hlt] at h
      exact absurd h.1 (by simp)
    refine List.pairwise_cons.mpr ⟨fun y hy => ?_, ih⟩
    rcases List.mem_cons.mp hy with rfl | hy
    · exact hle
    · exact List.le_trans hle ((List.pairwise_cons.mp ih).1 y hy)
theorem sorted_pw (ss : List Str) (h : sortedS ss = true) : ss.Pairwise (fun a b => a.cps.toList ≤ b.cps.toList) := by
  cases ss with
  | nil => simp
  | cons x r => exact rising_pw x r h
theorem str_ext {a b : Str} (h : a.cps.toList = b.cps.toList) : a = b := by
  cases a; cases b
  simp only at h
  congr
  exact Array.ext' h
theorem strs_uniq {a b : List Str} (p : a.Perm b) (ha : sortedS a = true) (hb : sortedS b = true) : a = b :=
  List.Perm.eq_of_pairwise (fun x y _ _ h1 h2 => str_ext (List.le_antisymm h1 h2)) (sorted_pw a ha) (sorted_pw b hb) p
end Mine
end

/- Cr -/
section
open PySem PySem.W PySem.Spec PySem.Calls PyProof.Rows PyProof.V
set_option Elab.async false
set_option maxRecDepth 100000
namespace Mine
theorem reset_Cr {M : PySem.Model} {A : PySem.Around} {Q : PySem.Flow → PySem.Shared → Prop} {E : PySem.Value → PySem.Shared → Prop} {s : PySem.Shared} {env : PySem.Env} (h : Q .next s) : PySem.wpAny M A (PySem.execs [] env) Q E s := by
  w_top off
  first | (walk1; exact h) | exact PySem.wpAny_execs_nil h
theorem eqvAll_strs : ∀ a b : List Str, PyData.eqvAll (a.map .str) (b.map .str) = decide (a = b)
  | [], [] => by simp [PyData.eqvAll]
  | [], b :: l => by simp [PyData.eqvAll]
  | a :: l, [] => by simp [PyData.eqvAll]
  | a :: l, b :: l' => by
    have e : (a == b) = decide (a = b) := by rw [Bool.eq_iff_iff, beq_iff_eq, decide_eq_true_iff]
    simp only [List.map_cons, PyData.eqvAll, PyData.eqv, eqvAll_strs l l', e]
    simp
theorem eqv_strs (a b : List Str) : PyData.eqv (.list (a.map .str)) (.list (b.map .str)) = decide (a = b) := by
  rw [← eqvAll_strs]
  simp [PyData.eqv]
theorem shaped_strs {ss : List Str} (h : ss.all PyData.strOk = true) : SeqAt.shaped (.list (ss.map .str)) = true := by
  simp only [SeqAt.shaped, PyData.canLay0, canLayAll_strs', h, PyData.depth, depthAll_strs']
  decide
theorem strs_are : ∀ mts : List (Str × Tok), StrsAre (mts.map fun e => Value.str e.1 e.2) (mts.map (·.1))
  | [] => .nil
  | e :: r => .cons e.1 e.2 (strs_are r)
theorem list_mem {h₀ h : Heap} {L D : Addr} {its : Array Value} {c : Nat} {nw : List (Addr × Obj)} (N : News h₀ L h nw) (hm : (D, W.listOf its c) ∈ nw) : h.IsList D its := ⟨_, (N _ hm).1, rfl, _, rfl⟩
theorem sorted_K {prog : Program} {w : World} {A : Around} {E : Value → Shared → Prop} {s : Shared} {h₀ : Heap} {L : Addr} {m : Str → Option Value} {news : List (Addr × Obj)} {l : Addr} {vs : List Value} {ss : List Str} {Q : Value → Shared → Prop}
    (F : Fr h₀ L s.heap m) (N : News h₀ L s.heap news) (hl : s.heap.IsList l vs.toArray) (hS : StrsAre vs ss) (h64 : vs.length < 64)
    (h : ∀ (D : Addr) (h' : Heap) (vs' : List Value) (ss' : List Str) (e : Nat), Fr h₀ L h' m → News h₀ L h' ((D, W.listOf vs'.toArray e) :: news) → StrsAre vs' ss' → ss'.Perm ss → sortedS ss' = true → Q (.ref D) { s with heap := h' }) :
    wpAny (model prog w) A (call (.builtin "sorted") [.ref l]) Q E s := sorted_N_str F N hl hS h64 fun h' vs' ss' e F' N' a b c => h _ h' vs' ss' e F' N' a b c
theorem ne_strs {prog : Program} {w : World} {A : Around} {E : Value → Shared → Prop} {s : Shared} {h₀ : Heap} {L : Addr} {news : List (Addr × Obj)} {a b : Addr} {va vb : List Value} {ca cb : Nat} {sa sb : List Str} {Q : Value → Shared → Prop}
    (N : News h₀ L s.heap news) (ha : (a, W.listOf va.toArray ca) ∈ news) (hb : (b, W.listOf vb.toArray cb) ∈ news) (hA : StrsAre va sa) (hB : StrsAre vb sb) (oa : sa.all PyData.strOk = true) (ob : sb.all PyData.strOk = true) (hu : A.units + 64 < cLine)
    (h : Q (.bool (!decide (sa = sb))) s) : wpAny (model prog w) A (compareOp .NotEq (.ref a) (.ref b)) Q E s := by
  refine ne_dataH (da := .list (sa.map .str)) (db := .list (sb.map .str)) (Reads.list (N _ ha).1 rfl rfl (StrsAre.reads _ hA)) (Reads.list (N _ hb).1 rfl rfl (StrsAre.reads _ hB)) (shaped_strs oa) (shaped_strs ob) hu ?_
  rw [eqv_strs]
  exact h
theorem all_perm {a b : List Str} (p : a.Perm b) (h : b.all PyData.strOk = true) : a.all PyData.strOk = true := by rw [all_perm' p]; exact h
section
variable {prog : Program} {w : World} {A : Around} {h₀ : Heap} {L : Addr} {m : Str → Option Value} {env : Env} {elt : Expr} {x : Str} {scope : Scope} {cl : List (Str × Addr)} {s : Shared} {S : List (Addr × Obj) → Prop} {P : Nat → Value → Prop} {Fin : List Value → List (Addr × Obj) → Prop} {news : List (Addr × Obj)}
/-- a comprehension by a state of my own -/
theorem rest_my {σ : Type} {n : Nat} (Ys : σ → List Value) (Led : σ → List (Addr × Obj)) (Pc : Nat → σ → Prop) (c₀ : σ) (h0 : Pc 0 c₀) (hy : Ys c₀ = []) (hl : Led c₀ = news)
    (turn : ∀ (c : σ) (i : Nat) v I oI C oC D m₂ h tk (E' : Value → Shared → Prop), i < n → Pc i c → P i v → LCg.NsObj oC m₂ → m₂ x = some v → Fr h₀ L h m → News h₀ L h ((I, oI) :: (C, oC) :: (D, LCg.lst (Ys c)) :: Led c) → LCg.Off3 I C D (Led c) → ((@Ne Nat I C) ∧ (@Ne Nat I D) ∧ (@Ne Nat C D)) →
      wpAny (model prog w) A (eval elt (compEnvC scope cl C env)) (LCg.CompEnd h₀ L m { s with heap := h, toks := tk } I oI C oC D (LCg.lst (Ys c)) S (fun y news' => ∃ c', Pc (i + 1) c' ∧ Ys c' = Ys c ++ [y] ∧ Led c' = news')) E' { s with heap := h, toks := tk })
    (fin : ∀ c, Pc n c → Fin (Ys c) (Led c)) : LCg.CompRest prog w A h₀ L m env elt x scope cl s S P Fin n 0 [] news := by
  have key : ∀ (j i : Nat) (c : σ), i + j = n → Pc i c → LCg.CompRest prog w A h₀ L m env elt x scope cl s S P Fin j i (Ys c) (Led c) := by
    intro j
    induction j with
    | zero =>
      intro i c hi hc
      obtain rfl : i = n := by lia
      exact LCg.CompRest.zero (fin c hc)
    | succ j ih =>
      intro i c hi hc
      refine LCg.CompRest.succ fun v I oI C oC D m₂ h tk E' hv hC hx F N off ne => ?_
      refine wpAny_mono (turn c i v I oI C oC D m₂ h tk E' (by lia) hc hv hC hx F N off ne) (fun y s₃ hr => ?_) fun _ _ e => e
      obtain ⟨h', tk', nw, e, F', N', off', hS, c', hc', hy', hl'⟩ := hr
      refine ⟨h', tk', nw, e, F', N', off', hS, ?_⟩
      show LCg.CompRest prog w A h₀ L m env elt x scope cl s S P Fin j (i + 1) (Ys c ++ [y]) nw
      rw [← hy', ← hl']
      exact ih (i + 1) c' (by lia) hc'
  have := key n 0 c₀ (by lia) h0
  rwa [hy, hl] at this
end
end Mine
end

/- Nc -/
section
open PySem PySem.W PySem.Spec PySem.Calls PyProof.Rows PyProof.V
set_option Elab.async false
set_option maxRecDepth 100000
namespace Mine
theorem reset_Nc {M : PySem.Model} {A : PySem.Around} {Q : PySem.Flow → PySem.Shared → Prop} {E : PySem.Value → PySem.Shared → Prop} {s : PySem.Shared} {env : PySem.Env} (h : Q .next s) : PySem.wpAny M A (PySem.execs [] env) Q E s := by
  w_top off
  first | (walk1; exact h) | exact PySem.wpAny_execs_nil h
noncomputable abbrev nest (elt t0 iter0 t1 iter1 ct : Expr) (scope : Scope) (pos : Pos) : Expr := .ListComp elt [⟨t0, iter0, [], 0⟩, ⟨t1, iter1, [ct], 0⟩] scope pos
theorem turn_outer (elt t0 iter0 t1 iter1 ct : Expr) (scope : Scope) (pos : Pos) (it acc : Value) (env : Env) :
    compTurn (nest elt t0 iter0 t1 iter1 ct scope pos) 0 it acc env = (standAt iter0.pos >>= fun _ => pyNext it >>= fun r => match r with
      | none => pure (.done .next)
      | some v => letOwnedTupleGo t0 it v >>= fun _ => assign t0 env v >>= fun _ =>
        (eval iter1 env >>= fun x => standAt iter1.pos >>= fun _ => foldedSetIterable iter1 env x >>= fun x => holding [x] (pyIter x) >>= fun it1 => runOwn (.compStart (nest elt t0 iter0 t1 iter1 ct scope pos) 1 it1 acc env) env >>= fun _ =>
          again (.compLoop (nest elt t0 iter0 t1 iter1 ct scope pos) 0 it acc env))) := by rfl
theorem turn_inner (elt t0 iter0 t1 iter1 ct : Expr) (scope : Scope) (pos : Pos) (it acc : Value) (env : Env) :
    compTurn (nest elt t0 iter0 t1 iter1 ct scope pos) 1 it acc env = (standAt iter1.pos >>= fun _ => pyNext it >>= fun r => match r with
      | none => pure (.done .next)
      | some v => letOwnedTupleGo t1 it v >>= fun _ => assign t1 env v >>= fun _ =>
        (forIn [ct] true fun c r => if r = true then do let ok ← isTrue c env (eval c env); pure (ForInStep.yield ok) else pure (ForInStep.yield r)) >>= fun ok =>
          if ok = true then ((eval elt env >>= fun x => call (.builtin "list.append") [acc, x] >>= fun _ => pure ()) >>= fun _ => again (.compLoop (nest elt t0 iter0 t1 iter1 ct scope pos) 1 it acc env))
          else again (.compLoop (nest elt t0 iter0 t1 iter1 ct scope pos) 1 it acc env)) := by rfl
section
variable {prog : Program} {w : World} {A : Around} {R : Result → Shared → Prop} {s : Shared} {elt t0 iter0 t1 iter1 ct : Expr} {scope : Scope} {pos : Pos} {it acc : Value} {env : Env}
/-- the outer loop of a comprehension with two for's; nothing raises -/
theorem loop_outer (I : Nat → Shared → Prop)
    (turn : ∀ n s, I n s → wpAny (model prog w) A (pyNext it) (fun r s₁ => match r with
      | none => R (.ok .next) s₁
      | some v => wpAny (model prog w) A (assign t0 env v) (fun _ s₂ => wpAny (model prog w) A (eval iter1 env) (fun x s₃ => wpAny (model prog w) A (pyIter x) (fun it1 s₄ =>
          codeAny (model prog w) A (.compStart (nest elt t0 iter0 t1 iter1 ct scope pos) 1 it1 acc env) (fun r s₅ => match r with | .ok _ => ∃ m, m < n ∧ I m s₅ | .error _ => False) s₄) (fun _ _ => False) s₃) (fun _ _ => False) s₂) (fun _ _ => False) s₁) (fun _ _ => False) s)
    (n : Nat) (h : I n s) (ht : ∀ v, letOwnedTupleGo t0 it v = pure () := by intro _; rfl) (hs : ∀ x, foldedSetIterable iter1 env x = pure x := by intro _; rfl) :
    codeAny (model prog w) A (.compLoop (nest elt t0 iter0 t1 iter1 ct scope pos) 0 it acc env) R s := by
  refine codeAny_loop rfl I (fun n s hI => ?_) n h
  show wpAny _ A ((compTurn (nest elt t0 iter0 t1 iter1 ct scope pos) 0 it acc env).onRaise (fun x => do noteFrame x env; theTreesLotGoes x)) _ _ s
  refine wpAny_noted ?_
  rw [turn_outer]
  refine wpAny_bind (wpAny_standAt (wpAny_bind (wpAny_mono (turn n s hI) (fun r s₁ h₁ => ?_) fun _ _ h' => h'.elim)))
  cases r with
  | none => exact wpAny_pure h₁
  | some v =>
    refine wpAny_bind (wpAny_of_eq (ht v) ?_)
    refine wpAny_bind (wpAny_mono h₁ (fun _ s₂ h₂ => wpAny_bind (wpAny_mono h₂ (fun x s₃ h₃ => wpAny_bind (wpAny_standAt (wpAny_bind (wpAny_of_eq (hs x) (wpAny_bind (wpAny_holding (wpAny_mono h₃ (fun it1 s₄ h₄ => ?_) fun _ _ h' => h'.elim))))))) fun _ _ h' => h'.elim)) fun _ _ h' => h'.elim)
    refine wpAny_bind (wpAny_runOwn (codeAny_mono h₄ fun r s₅ h₅ => ?_))
    cases r with
    | ok f => exact wpAny_pure ⟨rfl, h₅⟩
    | error e => exact h₅.elim
/-- the inner loop of a comprehension with two for's and a test -/
theorem loop_inner (I : Nat → Shared → Prop)
    (turn : ∀ n s, I n s → wpAny (model prog w) A (pyNext it) (fun r s₁ => match r with
      | none => R (.ok .next) s₁
      | some v => wpAny (model prog w) A (assign t1 env v) (fun _ s₂ => wpAny (model prog w) A (PySem.isTrue ct env (eval ct env)) (fun ok s₃ =>
            if ok = true then wpAny (model prog w) A (eval elt env) (fun x s₄ => wpAny (model prog w) A (call (.builtin "list.append") [acc, x]) (fun _ s₅ => ∃ m, m < n ∧ I m s₅) (fun _ _ => False) s₄) (fun _ _ => False) s₃
            else ∃ m, m < n ∧ I m s₃) (fun _ _ => False) s₂) (fun _ _ => False) s₁) (fun _ _ => False) s)
    (n : Nat) (h : I n s) (ht : ∀ v, letOwnedTupleGo t1 it v = pure () := by intro _; rfl) :
    codeAny (model prog w) A (.compLoop (nest elt t0 iter0 t1 iter1 ct scope pos) 1 it acc env) R s := by
  refine codeAny_loop rfl I (fun n s hI => ?_) n h
  show wpAny _ A ((compTurn (nest elt t0 iter0 t1 iter1 ct scope pos) 1 it acc env).onRaise (fun x => do noteFrame x env; theTreesLotGoes x)) _ _ s
  refine wpAny_noted ?_
  rw [turn_inner]
  refine wpAny_bind (wpAny_standAt (wpAny_bind (wpAny_mono (turn n s hI) (fun r s₁ h₁ => ?_) fun _ _ h' => h'.elim)))
  cases r with
  | none => exact wpAny_pure h₁
  | some v =>
    refine wpAny_bind (wpAny_of_eq (ht v) ?_)
    refine wpAny_bind (wpAny_mono h₁ (fun _ s₂ h₂ => wpAny_bind (wpAny_tests_one (wpAny_mono h₂ (fun ok s₃ h₃ => ?_) fun _ _ h' => h'.elim))) fun _ _ h' => h'.elim)
    cases ok with
    | false => exact wpAny_pure ⟨rfl, h₃⟩
    | true =>
      exact wpAny_bind (wpAny_bind (wpAny_mono h₃ (fun x s₄ h₄ => wpAny_bind (wpAny_mono h₄ (fun _ s₅ h₅ => wpAny_pure (wpAny_pure ⟨rfl, h₅⟩)) fun _ _ h' => h'.elim)) fun _ _ h' => h'.elim))
theorem start_inner (h0 : codeAny (model prog w) A (.compLoop (nest elt t0 iter0 t1 iter1 ct scope pos) 1 it acc env) R s)
    (h : wpAny (model prog w) A (pyIter it) (fun it' s' => codeAny (model prog w) A (.compLoop (nest elt t0 iter0 t1 iter1 ct scope pos) 1 it' acc env) R s') (fun _ _ => False) s) :
    codeAny (model prog w) A (.compStart (nest elt t0 iter0 t1 iter1 ct scope pos) 1 it acc env) R s := by
  refine codeAny_of_tree ?_
  show wpAny _ _ ((compStart (nest elt t0 iter0 t1 iter1 ct scope pos) 1 it acc env).onRaise (fun x => do noteFrame x env; standAt theWindowsPlace)) _ _ s
  refine wpAny_notedAt ?_
  unfold compStart
  show wpAny _ _ (ask >>= _) _ _ s
  refine wpAny_bind (wpAny_askSetting (wpAny_ite ?_))
  split
  · first
      | exact wpAny_bind (wpAny_pure (wpAny_pure (And.intro rfl h0)))
      | exact wpAny_pure (And.intro rfl h0)
  · first
      | exact wpAny_bind (wpAny_rule (wpAny_bind (wpAny_standAt (wpAny_bind (wpAny_mono h (fun it' s' h' => wpAny_pure (And.intro rfl h')) fun _ _ x => x.elim)))))
      | (refine wpAny_bind (wpAny_rule ?_); show wpAny _ _ (standAt iter1.pos >>= _) _ _ s; exact wpAny_bind (wpAny_standAt (wpAny_bind (wpAny_mono h (fun it' s' h' => wpAny_pure (And.intro rfl h')) fun _ _ x => x.elim))))
end
end Mine
end

/- Nk -/
section
open PySem PySem.W PySem.Spec PySem.Calls PyProof.Rows PyProof.V
set_option Elab.async false
set_option maxRecDepth 100000
namespace Mine
theorem reset_Nk {M : PySem.Model} {A : PySem.Around} {Q : PySem.Flow → PySem.Shared → Prop} {E : PySem.Value → PySem.Shared → Prop} {s : PySem.Shared} {env : PySem.Env} (h : Q .next s) : PySem.wpAny M A (PySem.execs [] env) Q E s := by
  w_top off
  first | (walk1; exact h) | exact PySem.wpAny_execs_nil h
/-- the ledger led stands, all else of mine is as it was -/
noncomputable def Nst (h₀ : Heap) (L : Addr) (m : Str → Option Value) (s : Shared) (led : List (Addr × Obj)) (s' : Shared) : Prop := ∃ h' tk, s' = { s with heap := h', toks := tk } ∧ Fr h₀ L h' m ∧ News h₀ L h' led
/-- the end of an element: an int -/
noncomputable def EltEnd (h₀ : Heap) (L : Addr) (m : Str → Option Value) (s : Shared) (led : List (Addr × Obj)) (k : Int) (y : Value) (s' : Shared) : Prop := (∃ t, y = .int k t) ∧ Nst h₀ L m s led s'
noncomputable def TestNo (h₀ : Heap) (L : Addr) (m : Str → Option Value) (s : Shared) (led : List (Addr × Obj)) (b : Bool) (s' : Shared) : Prop := b = false ∧ Nst h₀ L m s led s'
/-- the inner range is there -/
noncomputable def RangeAt (h₀ : Heap) (L : Addr) (m : Str → Option Value) (s : Shared) (led : List (Addr × Obj)) (a c : Int) (n : Nat) (x : Value) (s' : Shared) : Prop :=
  ∃ r b t u v h' tk, s' = { s with heap := h', toks := tk } ∧ x = .ref r ∧ Fr h₀ L h' m ∧ News h₀ L h' led ∧ IsRange h' r a b c t u v ∧ Builtin.Range.small a b c = true ∧ Builtin.Range.rangeSize a b c = (n : Int)
section
variable {prog : Program} {w : World} {A : Around} {E : Value → Shared → Prop} {s : Shared} {h₀ : Heap} {L : Addr} {m : Str → Option Value} {env : Env}
theorem inner_loop {elt iter0 iter1 ct : Expr} {x0 x1 : Str} {p0 p1 : Pos} {scope : Scope} {cl : List (Str × Addr)} {pos : Pos} {s₁ : Shared} {I I1 C D : Addr} {oI : Obj} {news : List (Addr × Obj)} {a a1 c1 : Int} {i n1 : Nat} {ti : Tok} {pick : Nat → Bool} {prev : List Int} {ys : List Value} {h : Heap} {tk : Nat} {m₂ : Str → Option Value} (hh : A.handled = none)
    (hkind : scope.kind = .function) (hx1 : scope.names.lookup x1 = some .local) (hne : x0 ≠ x1) (hn18 : n1 ≤ 100) (hpl : prev.length ≤ 10000)
    (hIC : I ≠ C) (hID : I ≠ D) (hCD : C ≠ D) (h1I : I1 ≠ I) (h1C : I1 ≠ C) (h1D : I1 ≠ D) (offI : ∀ p ∈ news, p.1 ≠ I) (offC : ∀ p ∈ news, p.1 ≠ C) (offD : ∀ p ∈ news, p.1 ≠ D) (off1 : ∀ p ∈ news, p.1 ≠ I1)
    (hL1 : L ≠ I1) (hLC : C ≠ L) (hLD : D ≠ L) (z1 : h₀.get? I1 = none) (zC : h₀.get? C = none) (zD : h₀.get? D = none)
    (hys : IntsAre ys prev) (F : Fr h₀ L h m) (hn : h.Ns C m₂) (hm : m₂ x0 = some (.int (a + (i : Int)) ti)) (N : News h₀ L h ((I, oI) :: (D, LCg.lst ys) :: news)) (hst : IsRangeIter h I1 (a1 + ((0 : Nat) : Int) * c1) ((n1 : Int) - ((0 : Nat) : Int)) c1)
    (inner : ∀ (j : Nat) tj oI1 oC m₃ ys h tk, j < n1 → LCg.NsObj oC m₃ → m₃ x0 = some (.int (a + (i : Int)) ti) → m₃ x1 = some (.int (a1 + (j : Int) * c1) tj) → Fr h₀ L h m →
      News h₀ L h ((I1, oI1) :: (I, oI) :: (C, oC) :: (D, LCg.lst ys) :: news) →
      wpAny (model prog w) A (PySem.isTrue ct (compEnvC scope cl C env) (eval ct (compEnvC scope cl C env))) (fun ok s' => if ok = true then pick j = true ∧ wpAny (model prog w) A (eval elt (compEnvC scope cl C env)) (EltEnd h₀ L m s₁ ((I1, oI1) :: (I, oI) :: (C, oC) :: (D, LCg.lst ys) :: news) (a1 + (j : Int) * c1)) (fun _ _ => False) s'
        else TestNo h₀ L m s₁ ((I1, oI1) :: (I, oI) :: (C, oC) :: (D, LCg.lst ys) :: news) (pick j) s') (fun _ _ => False) { s₁ with heap := h, toks := tk }) :
    codeAny (model prog w) A (.compLoop (nest elt (.Name x0 p0) iter0 (.Name x1 p1) iter1 ct scope pos) 1 (.ref I1) (.ref D) (compEnvC scope cl C env)) (fun r s₅ => match r with
      | .ok _ => ∃ h' tk' ys' m', s₅ = { s₁ with heap := h', toks := tk' } ∧ IntsAre ys' (prev ++ ((List.range n1).filter pick).map fun j : Nat => a1 + (j : Int) * c1) ∧ Fr h₀ L h' m ∧ h'.Ns C m' ∧ News h₀ L h' ((I, oI) :: (D, LCg.lst ys') :: news)
      | .error _ => False) { s₁ with heap := h, toks := tk } := by
  have W := Walks.range (prog := prog) (w := w) hh I1 a1 c1 n1
  refine loop_inner (fun k s' => ∃ h' tk' j ys' m', s' = { s₁ with heap := h', toks := tk' } ∧ j ≤ n1 ∧ k = n1 + 1 - j ∧ IntsAre ys' (prev ++ ((List.range j).filter pick).map fun j : Nat => a1 + (j : Int) * c1) ∧ IsRangeIter h' I1 (a1 + (j : Int) * c1) ((n1 : Int) - (j : Int)) c1 ∧
    Fr h₀ L h' m ∧ h'.Ns C m' ∧ m' x0 = some (.int (a + (i : Int)) ti) ∧ News h₀ L h' ((I, oI) :: (D, LCg.lst ys') :: news)) ?_ (n1 + 1) ⟨h, tk, 0, ys, m₂, rfl, Nat.zero_le _, rfl, by simpa using hys, hst, F, hn, hm, N⟩
  rintro k s' ⟨h', tk', j, ys', m', rfl, hj, rfl, hys', hst', F', hn', hm', N'⟩
  by_cases hlt : j < n1
  · refine W.item j _ _ _ hlt hst' fun v h₂ tk₂ hv hst₂ hk₂ => ?_
    obtain ⟨tj, rfl⟩ := hv
    refine wpAny_assign_Name (wpAny_storeName_local (lookup_relabel_local hx1) (hn'.at' fun o e => hk₂ _ o (by simpa using Ne.symm h1C) e) (fun h₃ hn₃ hs₃ => ?_) (by simp [compEnvC, relabel, hkind]))
    have F₃ : Fr h₀ L h₃ m := (LCg.fr_but F' hk₂ hL1 z1).change hs₃ hLC zC
    obtain ⟨oC, heC, hoC⟩ := LCg.ns_obj hn₃
    have N₂ : News h₀ L h₂ ((I, oI) :: (D, LCg.lst ys') :: news) := LCg.news_but N' hk₂ (List.forall_mem_cons.mpr ⟨Ne.symm h1I, List.forall_mem_cons.mpr ⟨Ne.symm h1D, off1⟩⟩)
    have N₃' : News h₀ L h₃ ((I, oI) :: (D, LCg.lst ys') :: news) := kas_news N₂ hs₃ (List.forall_mem_cons.mpr ⟨hIC, List.forall_mem_cons.mpr ⟨Ne.symm hCD, offC⟩⟩)
    have hst₃ : IsRangeIter h₃ I1 (a1 + ((j + 1 : Nat) : Int) * c1) ((n1 : Int) - ((j + 1 : Nat) : Int)) c1 := W.frame _ _ _ hst₂ fun b hb o e => hs₃.extBut b o (fun q => h1C ((List.mem_singleton.mp hb).symm.trans q)) e
    obtain ⟨oI1, heI1⟩ : ∃ o, h₃.get? I1 = some o := ⟨_, hst₃⟩
    have N₃ : News h₀ L h₃ ((I1, oI1) :: (I, oI) :: (C, oC) :: (D, LCg.lst ys') :: news) := by
      intro p hp
      rcases List.mem_cons.mp hp with rfl | hp
      · exact ⟨heI1, Ne.symm hL1, z1⟩
      · rcases List.mem_cons.mp hp with rfl | hp
        · exact N₃' _ (.head _)
        · rcases List.mem_cons.mp hp with rfl | hp
          · exact ⟨heC, hLC, zC⟩
          · exact N₃' p (.tail _ hp)
    have hm3 : (fun x => if x = x1 then some (Value.int (a1 + (j : Int) * c1) tj) else m' x) x0 = some (.int (a + (i : Int)) ti) := by
      show (if x0 = x1 then _ else m' x0) = _
      rw [if_neg hne, hm']
    have back : ∀ {h₄ : Heap} {o : Obj}, News h₀ L h₄ ((I1, oI1) :: (I, oI) :: (C, oC) :: (D, o) :: news) → IsRangeIter h₄ I1 (a1 + ((j + 1 : Nat) : Int) * c1) ((n1 : Int) - ((j + 1 : Nat) : Int)) c1 := fun N₄ => by
      have e1 := (N₄ (I1, oI1) (.head _)).1
      have e2 : h₃.get? I1 = some _ := hst₃
      rw [heI1] at e2
      have e1' : _ = some oI1 := e1
      rw [e2] at e1'
      exact e1'
    refine wpAny_mono (inner j tj oI1 oC _ ys' h₃ _ hlt hoC hm3 (by simp) F₃ N₃) (fun ok s₄ h₄ => ?_) fun _ _ e => e
    cases ok with
    | true =>
      simp only [if_true] at h₄ ⊢
      obtain ⟨hpick, h₄⟩ := h₄
      refine wpAny_mono h₄ (fun y s₅ h₅ => ?_) fun _ _ e => e
      obtain ⟨⟨t', rfl⟩, h₅, tk₅, rfl, F₅, N₅⟩ := h₅
      have zz := (N₅ (D, LCg.lst ys') (.tail _ (.tail _ (.tail _ (.head _))))).1
      have hyl : ys'.length ≤ 10100 := by
        rw [hys'.length, List.length_append, List.length_map]
        have := List.length_filter_le pick (List.range j)
        rw [List.length_range] at this
        lia
      refine append_at (hsz := by show ys'.toArray.size ≤ sizeLine; rw [List.size_toArray, sizeLine_eq]; lia) zz fun h₆ hs₆ hD₆ => ?_
      have N₆ : News h₀ L h₆ ((I1, oI1) :: (I, oI) :: (C, oC) :: news) := kas_news (fun p hp => N₅ p ((List.forall_mem_cons.mpr ⟨.head _, List.forall_mem_cons.mpr ⟨.tail _ (.head _), List.forall_mem_cons.mpr ⟨.tail _ (.tail _ (.head _)), fun p hp => .tail _ (.tail _ (.tail _ (.tail _ hp)))⟩⟩⟩ : ∀ p ∈ ((I1, oI1) :: (I, oI) :: (C, oC) :: news : List (Addr × Obj)), p ∈ ((I1, oI1) :: (I, oI) :: (C, oC) :: (D, LCg.lst ys') :: news : List (Addr × Obj))) p hp)) hs₆ (List.forall_mem_cons.mpr ⟨h1D, List.forall_mem_cons.mpr ⟨hID, List.forall_mem_cons.mpr ⟨hCD, offD⟩⟩⟩)
      have N₇ : News h₀ L h₆ ((I1, oI1) :: (I, oI) :: (C, oC) :: (D, LCg.lst (ys' ++ [.int (a1 + (j : Int) * c1) t'])) :: news) := by
        intro p hp
        rcases List.mem_cons.mp hp with rfl | hp
        · exact N₆ _ (.head _)
        · rcases List.mem_cons.mp hp with rfl | hp
          · exact N₆ _ (.tail _ (.head _))
          · rcases List.mem_cons.mp hp with rfl | hp
            · exact N₆ _ (.tail _ (.tail _ (.head _)))
            · rcases List.mem_cons.mp hp with rfl | hp
              · exact ⟨hD₆.trans (congrArg some (LCg.lst_snoc ys' _)), hLD, zD⟩
              · exact N₆ _ (.tail _ (.tail _ (.tail _ hp)))
      refine ⟨n1 + 1 - (j + 1), by lia, h₆, _, j + 1, ys' ++ [.int (a1 + (j : Int) * c1) t'], _, rfl, hlt, rfl, ?_, back N₇, F₅.change hs₆ hLD zD, hoC.ns (N₇ (C, oC) (.tail _ (.tail _ (.head _)))).1, hm3, fun p hp => N₇ p ?_⟩
      · rw [List.range_succ, List.filter_append, List.map_append, ← List.append_assoc]
        have e : List.filter pick [j] = [j] := by simp [hpick]
        rw [e]
        exact hys'.append (.cons _ _ .nil)
      · rcases List.mem_cons.mp hp with rfl | hp
        · exact .tail _ (.head _)
        · exact .tail _ (.tail _ (.tail _ hp))
    | false =>
      simp only [Bool.false_eq_true, if_false] at h₄ ⊢
      obtain ⟨hpick, h₅, tk₅, rfl, F₅, N₅⟩ := h₄
      refine ⟨n1 + 1 - (j + 1), by lia, h₅, _, j + 1, ys', _, rfl, hlt, rfl, ?_, back N₅, F₅, hoC.ns (N₅ (C, oC) (.tail _ (.tail _ (.head _)))).1, hm3, fun p hp => N₅ p ?_⟩
      · rw [List.range_succ, List.filter_append, List.map_append]
        have e : List.filter pick [j] = [] := by simp [hpick]
        rw [e]
        simpa using hys'
      · rcases List.mem_cons.mp hp with rfl | hp
        · exact .tail _ (.head _)
        · exact .tail _ (.tail _ (.tail _ hp))
  · obtain rfl : j = n1 := by lia
    refine W.done _ _ _ hst' fun h₂ tk₂ hk₂ => ?_
    exact ⟨h₂, tk₂, ys', m', rfl, hys', LCg.fr_but F' hk₂ hL1 z1, hn'.at' fun o e => hk₂ _ o (by simpa using Ne.symm h1C) e, LCg.news_but N' hk₂ (List.forall_mem_cons.mpr ⟨Ne.symm h1I, List.forall_mem_cons.mpr ⟨Ne.symm h1D, off1⟩⟩)⟩
theorem nest_rest {elt iter0 iter1 ct : Expr} {x0 x1 : Str} {p0 p1 : Pos} {scope : Scope} {cl : List (Str × Addr)} {pos : Pos} {h₁ : Heap} {I D C : Addr} {tk0 : Nat} {m₁ : Str → Option Value} (hh : A.handled = none) (hkind : scope.kind = .function)
    (hx0 : scope.names.lookup x0 = some .local) (hx1 : scope.names.lookup x1 = some .local) (hne : x0 ≠ x1)
    (a a1 c1 : Int) (n n1 : Nat) (pick : Nat → Nat → Bool) (news : List (Addr × Obj)) (s₁ : Shared) (hn8 : n ≤ 100) (hn18 : n1 ≤ 100)
    (hIC : I ≠ C) (hID : I ≠ D) (hCD : C ≠ D) (hLI' : L ≠ I) (hLC : C ≠ L) (hLD : D ≠ L) (hI0 : h₀.get? I = none) (zD : h₀.get? D = none) (zC : h₀.get? C = none)
    (offI : ∀ p ∈ news, p.1 ≠ I) (offD : ∀ p ∈ news, p.1 ≠ D) (offC : ∀ p ∈ news, p.1 ≠ C) (itI : IsRangeIter h₁ I (a + ((0 : Nat) : Int) * 1) ((n : Int) - ((0 : Nat) : Int)) 1) (F2 : Fr h₀ L h₁ m) (hns₁ : h₁.Ns C m₁) (N2 : News h₀ L h₁ ((D, LCg.lst []) :: news))
    (turn : ∀ (i : Nat) ti I oI C oC D m₂ ys h tk, i < n → LCg.NsObj oC m₂ → m₂ x0 = some (.int (a + (i : Int)) ti) → Fr h₀ L h m → News h₀ L h ((I, oI) :: (C, oC) :: (D, LCg.lst ys) :: news) → LCg.Off3 I C D news → ((@Ne Nat I C) ∧ (@Ne Nat I D) ∧ (@Ne Nat C D)) →
      wpAny (model prog w) A (eval iter1 (compEnvC scope cl C env)) (RangeAt h₀ L m s₁ ((I, oI) :: (C, oC) :: (D, LCg.lst ys) :: news) a1 c1 n1) (fun _ _ => False) { s₁ with heap := h, toks := tk })
    (inner : ∀ (i j : Nat) ti tj I oI I1 oI1 C oC D m₃ ys h tk, i < n → j < n1 → LCg.NsObj oC m₃ → m₃ x0 = some (.int (a + (i : Int)) ti) → m₃ x1 = some (.int (a1 + (j : Int) * c1) tj) → Fr h₀ L h m →
      News h₀ L h ((I1, oI1) :: (I, oI) :: (C, oC) :: (D, LCg.lst ys) :: news) → LCg.Off3 I C D news → (∀ p ∈ news, p.1 ≠ I1) → ((@Ne Nat I C) ∧ (@Ne Nat I D) ∧ (@Ne Nat C D) ∧ (@Ne Nat I1 I) ∧ (@Ne Nat I1 C) ∧ (@Ne Nat I1 D)) →
      wpAny (model prog w) A (PySem.isTrue ct (compEnvC scope cl C env) (eval ct (compEnvC scope cl C env))) (fun ok s' => if ok = true then pick i j = true ∧ wpAny (model prog w) A (eval elt (compEnvC scope cl C env)) (EltEnd h₀ L m s₁ ((I1, oI1) :: (I, oI) :: (C, oC) :: (D, LCg.lst ys) :: news) (a1 + (j : Int) * c1)) (fun _ _ => False) s'
        else TestNo h₀ L m s₁ ((I1, oI1) :: (I, oI) :: (C, oC) :: (D, LCg.lst ys) :: news) (pick i j) s') (fun _ _ => False) { s₁ with heap := h, toks := tk })
    {RR : Result → Shared → Prop} (hRR : ∀ h tk ys m', IntsAre ys ((List.range n).flatMap fun i => ((List.range n1).filter (pick i)).map fun j : Nat => a1 + (j : Int) * c1) → Fr h₀ L h m → h.Ns C m' → News h₀ L h ((D, LCg.lst ys) :: news) → RR (.ok .next) { s₁ with heap := h, toks := tk })
    (hs1 : ∀ C x, foldedSetIterable iter1 (compEnvC scope cl C env) x = pure x) :
    codeAny (model prog w) A (.compStart (nest elt (.Name x0 p0) iter0 (.Name x1 p1) iter1 ct scope pos) 0 (.ref I) (.ref D) (compEnvC scope cl C env)) RR { s₁ with heap := h₁, toks := tk0 } := by
  have W := Walks.range (prog := prog) (w := w) hh I a 1 n
  have loop : ∀ tk0, codeAny (model prog w) A (.compLoop (nest elt (.Name x0 p0) iter0 (.Name x1 p1) iter1 ct scope pos) 0 (.ref I) (.ref D) (compEnvC scope cl C env)) RR { s₁ with heap := h₁, toks := tk0 } := by
    intro tk0
    refine loop_outer (fun k s' => ∃ h' tk' i ys m', s' = { s₁ with heap := h', toks := tk' } ∧ i ≤ n ∧ k = n + 1 - i ∧ IntsAre ys ((List.range i).flatMap fun i => ((List.range n1).filter (pick i)).map fun j : Nat => a1 + (j : Int) * c1) ∧ IsRangeIter h' I (a + (i : Int) * 1) ((n : Int) - (i : Int)) 1 ∧
      Fr h₀ L h' m ∧ h'.Ns C m' ∧ News h₀ L h' ((D, LCg.lst ys) :: news)) ?_ (n + 1) ⟨h₁, tk0, 0, [], _, rfl, Nat.zero_le _, rfl, .nil, by
        show h₁.get? I = some _
        exact itI, F2, hns₁, N2⟩ (hs := hs1 C)
    rintro k s' ⟨h', tk', i, ys, m', rfl, hi, rfl, hys, hst', F', hn', N'⟩
    by_cases hlt : i < n
    · refine W.item i _ _ _ hlt hst' fun v h₂ tk₂ hv hst₂ hk₂ => ?_
      obtain ⟨ti, rfl⟩ := hv
      refine wpAny_assign_Name (wpAny_storeName_local (lookup_relabel_local hx0) (hn'.at' fun o e => hk₂ _ o (by simpa using Ne.symm hIC) e) (fun h₃ hn₃ hs₃ => ?_) (by simp [compEnvC, relabel, hkind]))
      have F₃ : Fr h₀ L h₃ m := (LCg.fr_but F' hk₂ hLI' hI0).change hs₃ hLC zC
      obtain ⟨oC, heC, hoC⟩ := LCg.ns_obj hn₃
      have N₂ : News h₀ L h₂ ((D, LCg.lst ys) :: news) := LCg.news_but N' hk₂ (List.forall_mem_cons.mpr ⟨Ne.symm hID, offI⟩)
      have N₃' : News h₀ L h₃ ((D, LCg.lst ys) :: news) := kas_news N₂ hs₃ (List.forall_mem_cons.mpr ⟨Ne.symm hCD, offC⟩)
      have hst₃ : IsRangeIter h₃ I (a + ((i + 1 : Nat) : Int) * 1) ((n : Int) - ((i + 1 : Nat) : Int)) 1 := W.frame _ _ _ hst₂ fun b hb o e => hs₃.extBut b o (fun q => hIC ((List.mem_singleton.mp hb).symm.trans q)) e
      obtain ⟨oI, heI⟩ : ∃ o, h₃.get? I = some o := ⟨_, hst₃⟩
      have N₃ : News h₀ L h₃ ((I, oI) :: (C, oC) :: (D, LCg.lst ys) :: news) := List.forall_mem_cons.mpr ⟨⟨heI, Ne.symm hLI', hI0⟩, List.forall_mem_cons.mpr ⟨⟨heC, hLC, zC⟩, N₃'⟩⟩
      refine wpAny_mono (turn i ti I oI C oC D _ ys h₃ _ hlt hoC (by simp [Int.mul_one]) F₃ N₃ (LCg.Off3.of fun p hp => ⟨offI p hp, offC p hp, offD p hp⟩) ⟨hIC, hID, hCD⟩) (fun xv2 s₄ hr4 => ?_) fun _ _ e => e
      obtain ⟨r4, b4, t4, u4, v4, h₄, tk₄, rfl, rfl, F₄, N₄, hr4, hsm4, hn4⟩ := hr4
      refine wpAny_pyIter_range hr4 hsm4 ?_
      dsimp only
      have z0 : ∀ {g : Heap}, Fr h₀ L g m → ∀ q, g.objs.size ≤ q → h₀.get? q = none := fun {g} Fg q hle => by
        cases e : h₀.get? q with
        | none => rfl
        | some o => exact absurd (Heap.lt_size (Fg.keep q o e)) (Nat.not_lt.mpr hle)
      have hp4 : ∀ p ∈ ((I, oI) :: (C, oC) :: (D, LCg.lst ys) :: news : List (Addr × Obj)), p.1 < h₄.objs.size := fun p hp => Heap.lt_size (N₄ p hp).1
      have z1 := z0 F₄ h₄.objs.size (Nat.le_refl _)
      have hL1 : L < h₄.objs.size := F₄.ns.lt
      have F₅ : Fr h₀ L (h₄.push { cls := .type "range_iterator", data := .fields #[rawInt a1, rawInt (Builtin.Range.rangeSize a1 b4 c1), rawInt c1] }) m := F₄.push _
      have N₅ := N₄.grown (h' := h₄.push { cls := .type "range_iterator", data := .fields #[rawInt a1, rawInt (Builtin.Range.rangeSize a1 b4 c1), rawInt c1] }) fun _ _ e => Heap.get?_push_of_some _ e
      have it4 : IsRangeIter (h₄.push { cls := .type "range_iterator", data := .fields #[rawInt a1, rawInt (Builtin.Range.rangeSize a1 b4 c1), rawInt c1] }) h₄.objs.size (a1 + ((0 : Nat) : Int) * c1) ((n1 : Int) - ((0 : Nat) : Int)) c1 := by
        show Heap.get? _ _ = some _
        rw [hn4]
        simpa using Heap.get?_push_size (h := h₄) rfl
      generalize h₄.push { cls := .type "range_iterator", data := .fields #[rawInt a1, rawInt (Builtin.Range.rangeSize a1 b4 c1), rawInt c1] } = h₅ at F₅ N₅ it4 ⊢
      have g1 : h₄.objs.size ≠ I := Nat.ne_of_gt (hp4 _ (.head _))
      have g2 : h₄.objs.size ≠ C := Nat.ne_of_gt (hp4 _ (.tail _ (.head _)))
      have g3 : h₄.objs.size ≠ D := Nat.ne_of_gt (hp4 _ (.tail _ (.tail _ (.head _))))
      have g4 : ∀ p ∈ news, p.1 ≠ h₄.objs.size := fun p hp => Nat.ne_of_lt (hp4 _ (.tail _ (.tail _ (.tail _ hp))))
      generalize h₄.objs.size = I1 at *
      have hlen : ((List.range i).flatMap fun i => ((List.range n1).filter (pick i)).map fun j : Nat => a1 + (j : Int) * c1).length ≤ 10000 := by
        have key : ∀ i, ((List.range i).flatMap fun i => ((List.range n1).filter (pick i)).map fun j : Nat => a1 + (j : Int) * c1).length ≤ i * n1 := by
          intro i
          induction i with
          | zero => simp
          | succ i ih =>
            rw [List.range_succ, List.flatMap_append, List.length_append, Nat.add_mul, Nat.one_mul]
            have := List.length_filter_le (pick i) (List.range n1)
            rw [List.length_range] at this
            simp only [List.flatMap_cons, List.flatMap_nil, List.append_nil, List.length_map]
            lia
        exact Nat.le_trans (key i) (Nat.le_trans (Nat.mul_le_mul (by lia : i ≤ 100) hn18) (by decide))
      have inl : ∀ tk1, codeAny (model prog w) A (.compLoop (nest elt (.Name x0 p0) iter0 (.Name x1 p1) iter1 ct scope pos) 1 (.ref I1) (.ref D) (compEnvC scope cl C env)) (fun r s₅ => match r with
          | .ok _ => ∃ m_1, m_1 < n + 1 - i ∧ ∃ h' tk' i ys m', s₅ = { s₁ with heap := h', toks := tk' } ∧ i ≤ n ∧ m_1 = n + 1 - i ∧ IntsAre ys ((List.range i).flatMap fun i => ((List.range n1).filter (pick i)).map fun j : Nat => a1 + (j : Int) * c1) ∧ IsRangeIter h' I (a + (i : Int) * 1) ((n : Int) - (i : Int)) 1 ∧
              Fr h₀ L h' m ∧ h'.Ns C m' ∧ News h₀ L h' ((D, LCg.lst ys) :: news)
          | .error _ => False) { s₁ with heap := h₅, toks := tk1 } := by
        intro tk1
        refine codeAny_mono (inner_loop (i := i) (a := a) (m₂ := fun x => if x = x0 then some (Value.int (a + (i : Int) * 1) ti) else m' x) (ti := ti) (x0 := x0) (pick := pick i) (oI := oI) hh hkind hx1 hne hn18 hlen hIC hID hCD g1 g2 g3 offI offC offD g4 (Nat.ne_of_lt hL1) hLC hLD z1 zC zD hys F₅ (hoC.ns (N₅ (C, oC) (.tail _ (.head _))).1) (by simp [Int.mul_one])
          (List.forall_mem_cons.mpr ⟨N₅ _ (.head _), fun p hp => N₅ p (.tail _ (.tail _ hp))⟩) it4
          (fun j tj oI1 oC' m₃ ys' h tk hj q1 q2 q3 q4 q5 => inner i j ti tj I oI I1 oI1 C oC' D m₃ ys' h tk hlt hj q1 q2 q3 q4 q5 (LCg.Off3.of fun p hp => ⟨offI p hp, offC p hp, offD p hp⟩) g4 ⟨hIC, hID, hCD, g1, g2, g3⟩)) (fun r s₆ h₆ => ?_)
        cases r with
        | error e => exact h₆.elim
        | ok f =>
          obtain ⟨h₇, tk₇, ys₇, m₇, rfl, hys₇, F₇, hn₇, N₇⟩ := h₆
          refine ⟨n + 1 - (i + 1), by lia, h₇, tk₇, i + 1, ys₇, m₇, rfl, hlt, rfl, ?_, ?_, F₇, hn₇, fun p hp => N₇ p (.tail _ hp)⟩
          · rw [List.range_succ, List.flatMap_append]
            simpa using hys₇
          · have e1 : h₇.get? I = some oI := (N₇ (I, oI) (.head _)).1
            have e2 : h₃.get? I = some _ := hst₃
            rw [heI] at e2
            show h₇.get? I = some _
            rw [e1]; exact e2
      exact start_inner (inl _) ((Walks.range (prog := prog) (w := w) hh I1 a1 c1 n1).self 0 _ _ _ it4 (inl _))
    · obtain rfl : i = n := by lia
      refine W.done _ _ _ hst' fun h₂ tk₂ hk₂ => ?_
      have F'' : Fr h₀ L h₂ m := LCg.fr_but F' hk₂ hLI' hI0
      have N'' : News h₀ L h₂ ((D, LCg.lst ys) :: news) := LCg.news_but N' hk₂ (List.forall_mem_cons.mpr ⟨Ne.symm hID, offI⟩)
      have hn'' : h₂.Ns C m' := hn'.at' fun o e => hk₂ _ o (by simpa using Ne.symm hIC) e
      exact hRR h₂ tk₂ ys m' hys F'' hn'' N''
  exact codeAny_compStart_list (loop _) (W.self 0 _ _ _ itI (loop _))
theorem nest_assign {y : Str} {py spos : Pos} {elt iter0 iter1 ct : Expr} {x0 x1 : Str} {p0 p1 : Pos} {scope : Scope} {cl : List (Str × Addr)} {pos : Pos} {Q : Flow → Shared → Prop} (hLe : env.locals = L) (hsw : swapsWith (nest elt (.Name x0 p0) iter0 (.Name x1 p1) iter1 ct scope pos) (some (.Name y py)) spos.line env = pure true)
    (hy : env.kindOf y = some .local) (hp : (env.scope.kind == .class || (env.scope.kind == .module && env.locals != env.globals)) = false) (F₀ : Fr h₀ L s.heap m) (hh : A.handled = none)
    (hclos : closureFor scope env = pure cl) (hcell : ∀ y ∈ scope.names, y.2 ≠ .cell) (hkind : scope.kind = .function)
    (hnames : ∀ y ∈ scope.names, y.2 = .local → scope.names.lookup y.1 = some .local) (hx0 : scope.names.lookup x0 = some .local) (hx1 : scope.names.lookup x1 = some .local) (hne : x0 ≠ x1)
    (a a1 c1 : Int) (n n1 : Nat) (pick : Nat → Nat → Bool) (news : List (Addr × Obj)) (s₁ : Shared) (hn8 : n ≤ 100) (hn18 : n1 ≤ 100)
    (h : wpAny (model prog w) A (eval iter0 env) (RangeAt h₀ L m s₁ news a 1 n) E s)
    (turn : ∀ (i : Nat) ti I oI C oC D m₂ ys h tk, i < n → LCg.NsObj oC m₂ → m₂ x0 = some (.int (a + (i : Int)) ti) → Fr h₀ L h m → News h₀ L h ((I, oI) :: (C, oC) :: (D, LCg.lst ys) :: news) → LCg.Off3 I C D news → ((@Ne Nat I C) ∧ (@Ne Nat I D) ∧ (@Ne Nat C D)) →
      wpAny (model prog w) A (eval iter1 (compEnvC scope cl C env)) (RangeAt h₀ L m s₁ ((I, oI) :: (C, oC) :: (D, LCg.lst ys) :: news) a1 c1 n1) (fun _ _ => False) { s₁ with heap := h, toks := tk })
    (inner : ∀ (i j : Nat) ti tj I oI I1 oI1 C oC D m₃ ys h tk, i < n → j < n1 → LCg.NsObj oC m₃ → m₃ x0 = some (.int (a + (i : Int)) ti) → m₃ x1 = some (.int (a1 + (j : Int) * c1) tj) → Fr h₀ L h m →
      News h₀ L h ((I1, oI1) :: (I, oI) :: (C, oC) :: (D, LCg.lst ys) :: news) → LCg.Off3 I C D news → (∀ p ∈ news, p.1 ≠ I1) → ((@Ne Nat I C) ∧ (@Ne Nat I D) ∧ (@Ne Nat C D) ∧ (@Ne Nat I1 I) ∧ (@Ne Nat I1 C) ∧ (@Ne Nat I1 D)) →
      wpAny (model prog w) A (PySem.isTrue ct (compEnvC scope cl C env) (eval ct (compEnvC scope cl C env))) (fun ok s' => if ok = true then pick i j = true ∧ wpAny (model prog w) A (eval elt (compEnvC scope cl C env)) (EltEnd h₀ L m s₁ ((I1, oI1) :: (I, oI) :: (C, oC) :: (D, LCg.lst ys) :: news) (a1 + (j : Int) * c1)) (fun _ _ => False) s'
        else TestNo h₀ L m s₁ ((I1, oI1) :: (I, oI) :: (C, oC) :: (D, LCg.lst ys) :: news) (pick i j) s') (fun _ _ => False) { s₁ with heap := h, toks := tk })
    (fin : ∀ D h tk ys, IntsAre ys ((List.range n).flatMap fun i => ((List.range n1).filter (pick i)).map fun j : Nat => a1 + (j : Int) * c1) → Fr h₀ L h (fun z => if z = y then some (.ref D) else m z) → News h₀ L h ((D, LCg.lst ys) :: news) → (∀ p ∈ news, p.1 < D) → Q .next { s₁ with heap := h, toks := tk })
    (hs0 : ∀ x, foldedSetIterable iter0 env x = pure x := by intro _; rfl) (hs1 : ∀ C x, foldedSetIterable iter1 (compEnvC scope cl C env) x = pure x := by intro _ _; rfl) :
    wpAny (model prog w) A (exec (.Assign [.Name y py] (nest elt (.Name x0 p0) iter0 (.Name x1 p1) iter1 ct scope pos) spos) env) Q E s := by
  subst hLe
  rw [exec_Assign_Name_used _ _ _ _ hsw]
  refine wpAny_bind (wpAny_standAt (wpAny_bind ?_))
  show wpAny _ A (do let _ ← comprehension (nest elt (.Name x0 p0) iter0 (.Name x1 p1) iter1 ct scope pos) scope env _ (newList []) false (eval iter0 env) (some (assign (.Name y py) env))) _ _ s
  refine wpAny_bind (wpAny_mono (wpAny_comprehension_free (use := some (assign (.Name y py) env)) (Q := fun _ s' => Q .next s') rfl hs0 hclos hkind hnames
    (wpAny_mono h (fun xv s₂ hr => ?_) fun _ _ e => e)) (fun _ s' hq => wpAny_pure (wpAny_pure hq)) fun _ _ e => e)
  obtain ⟨r, b, t, u, v, hq, tkq, rfl, rfl, F, N, hr, hsm, hn⟩ := hr
  refine wpAny_pyIter_range hr hsm ?_
  dsimp only at *
  have hIlt : ∀ p ∈ news, p.1 < hq.objs.size := fun p hp => Heap.lt_size (N p hp).1
  have hLI : env.locals < hq.objs.size := F.ns.lt
  have z0 : ∀ {g : Heap}, Fr h₀ env.locals g m → ∀ q, g.objs.size ≤ q → h₀.get? q = none := fun {g} Fg q hle => by
    cases e : h₀.get? q with
    | none => rfl
    | some o => exact absurd (Heap.lt_size (Fg.keep q o e)) (Nat.not_lt.mpr hle)
  have hI0 := z0 F hq.objs.size (Nat.le_refl _)
  generalize hH1 : hq.push { cls := .type "range_iterator", data := .fields #[rawInt a, rawInt (Builtin.Range.rangeSize a b 1), rawInt 1] } = H1
  have e1 : H1.objs.size = hq.objs.size + 1 := by rw [← hH1, Heap.size_push]
  have up1 : ∀ b o, hq.get? b = some o → H1.get? b = some o := fun b o e => by rw [← hH1]; exact Heap.get?_push_of_some _ e
  have it1 : IsRangeIter H1 hq.objs.size (a + ((0 : Nat) : Int) * 1) ((n : Int) - ((0 : Nat) : Int)) 1 := by
    show H1.get? _ = some _
    rw [← hH1, hn]
    simpa using Heap.get?_push_size (h := hq) rfl
  have F1 : Fr h₀ env.locals H1 m := F.keeps up1
  have N1 : News h₀ env.locals H1 news := N.grown up1
  refine wpAny_newObj_type (wpAny_newFunctionEnv hcell (by intro y hy; simp at hy) (fun h₁ hns₁ hsb₁ => ?_) hkind)
  dsimp only at hns₁ hsb₁ ⊢
  generalize hH2 : H1.push { cls := .type "list", dict := none, data := .seq ([] : List Value).toArray } = H2 at hns₁ hsb₁ ⊢
  have e2 : H2.objs.size = hq.objs.size + 1 + 1 := by rw [← hH2, Heap.size_push, e1]
  have le12 : H1.objs.size ≤ H2.objs.size := by lia
  have ne12 : ∀ (b : Addr) {o : Obj}, H1.get? b = some o → b ≠ H2.objs.size := fun b o e => Nat.ne_of_lt (Nat.lt_of_lt_of_le (Heap.lt_size e) le12)
  have ne21 : H1.objs.size ≠ H2.objs.size := by lia
  have up2 : ∀ b o, H1.get? b = some o → h₁.get? b = some o := fun b o e => hsb₁.extBut b o (ne12 b e) (Heap.get?_push_of_some _ (hH2 ▸ Heap.get?_push_of_some _ e))
  have accD : h₁.get? H1.objs.size = some (LCg.lst []) := hsb₁.extBut _ _ ne21 (Heap.get?_push_of_some _ (hH2 ▸ Heap.get?_push_size _ rfl))
  have F2 : Fr h₀ env.locals h₁ m := F1.keeps up2
  have zD := z0 F H1.objs.size (by lia)
  have zC := z0 F H2.objs.size (by lia)
  have d1 : hq.objs.size ≠ H2.objs.size := by lia
  have d2 : hq.objs.size ≠ H1.objs.size := by lia
  have d3 : H2.objs.size ≠ H1.objs.size := by lia
  have le1 : hq.objs.size ≤ H1.objs.size := by lia
  have le2 : hq.objs.size ≤ H2.objs.size := by lia
  have d4 : env.locals ≠ hq.objs.size := Nat.ne_of_lt hLI
  have d5 : H2.objs.size ≠ env.locals := Nat.ne_of_gt (Nat.lt_of_lt_of_le hLI le2)
  have d6 : H1.objs.size ≠ env.locals := Nat.ne_of_gt (Nat.lt_of_lt_of_le hLI le1)
  have N2 : News h₀ env.locals h₁ ((H1.objs.size, LCg.lst []) :: news) := List.forall_mem_cons.mpr ⟨⟨accD, d6, zD⟩, N1.grown up2⟩
  refine nest_rest hh hkind hx0 hx1 hne a a1 c1 n n1 pick news s₁ hn8 hn18 d1 d2 d3 d4 d5 d6 hI0 zD zC (fun p hp => Nat.ne_of_lt (hIlt p hp)) (fun p hp => Nat.ne_of_lt (Nat.lt_of_lt_of_le (hIlt p hp) le1)) (fun p hp => Nat.ne_of_lt (Nat.lt_of_lt_of_le (hIlt p hp) le2)) (up2 _ _ it1) F2 hns₁ N2 turn inner (fun h' tk ys m' hys F' hn' N' => ?_) hs1
  show wpAny _ A (assign (.Name y py) env (.ref H1.objs.size)) _ _ _
  refine wpAny_assign_Name (wpAny_storeName_local hy F'.ns (fun h₂ hn₂ hs₂ => ?_) hp)
  have hL₀ : h₀.get? env.locals = none := Heap.get?_none_of_le F'.above
  have F₂ : Fr h₀ env.locals h₂ (fun z => if z = y then some (.ref H1.objs.size) else m z) := ⟨hn₂, fun b o e => hs₂.extBut b o (fun q => by rw [q, hL₀] at e; cases e) (F'.keep b o e), F'.above⟩
  refine ⟨m', hn'.sameBut hs₂ d5, fun h'' hs'' => fin H1.objs.size h'' _ ys hys (F₂.change hs'' d5 zC) (fun p hp => ?_) (fun p hp => Nat.lt_of_lt_of_le (hIlt p hp) le1)⟩
  have z : h₂.get? p.1 = some p.2 := hs₂.extBut _ _ (N' p hp).2.1 (N' p hp).1
  refine ⟨hs''.extBut _ _ ?_ z, (N' p hp).2⟩
  rcases List.mem_cons.mp hp with rfl | hp
  · exact Ne.symm d3
  · exact Nat.ne_of_lt (Nat.lt_of_lt_of_le (hIlt p hp) le2)
end
end Mine
end

/- El0 -/
section
open PySem PySem.W PySem.Spec PySem.Calls PyProof.Rows PyProof.V
set_option Elab.async false
set_option maxRecDepth 100000
open Builtin Builtin.Str
namespace Mine
theorem reset_El0 {M : PySem.Model} {A : PySem.Around} {Q : PySem.Flow → PySem.Shared → Prop} {E : PySem.Value → PySem.Shared → Prop} {s : PySem.Shared} {env : PySem.Env} (h : Q .next s) : PySem.wpAny M A (PySem.execs [] env) Q E s := by
  w_top off
  first | (walk1; exact h) | exact PySem.wpAny_execs_nil h
noncomputable def find4 (x y : Str) (i j : Int) : Int := match occurrences x y (fromIndex x.length i) (min (fromIndex x.length j) x.length) 1 with | k :: _ => (k : Int) | [] => -1
theorem gives_find4 (x y : Str) (i j : Int) (t u v v' : Tok) : Gives («str.find» ⟨[.str x t, .str y u, .int i v, .int j v'], []⟩) (.int (find4 x y i j)) := by
  show Gives (match occurrences x y (fromIndex x.length i) (min (fromIndex x.length j) x.length) 1 with | k :: _ => retInt k | [] => (do rule "str.find.not-found"; retInt (-1))) _
  unfold find4
  cases occurrences x y (fromIndex x.length i) (min (fromIndex x.length j) x.length) 1 with
  | nil => exact .rule (.of_eq rfl)
  | cons k _ => exact .of_eq rfl
section
variable {prog : Program} {w : World} {A : Around} {E : Value → Shared → Prop} {s : Shared} {x y : Str} {t u v v' : Tok} {i j : Int}
theorem find_4 {Q : Value → Shared → Prop} (hq : Q (.int (find4 x y i j) s.toks) { s with toks := s.toks + 1 }) : wpAny (model prog w) A (call (.builtin "str.find") [.str x t, .str y u, .int i v, .int j v']) Q E s :=
  call_gives PySem.F.slot_str_find (typeIs_str _ _ _) PySem.F.entry_str_find (by unfold argsOk; rw [signature?_of (id := "str.find") (n := ['d', 'n', 'i', 'f']) (o := ['r', 't', 's']) (by kernel_rfl) PySem.F.owner_str]; kernel_rfl) (gives_find4 x y i j t u v v') hq
theorem delete_Subscript {o i : Expr} {pos : Pos} {env : Env} {Q : Unit → Shared → Prop}
    (h : wpAny (model prog w) A (eval o env) (fun ov s₁ => wpAny (model prog w) A (eval i env) (fun iv s₂ => wpAny (model prog w) A (delItem ov iv) (fun _ s₃ => wpAny (model prog w) A (release [ov, iv] []) Q E s₃) E s₂) E s₁) E s) :
    wpAny (model prog w) A (delete (.Subscript o i pos) env) Q E s := by
  rw [arm_delete_Subscript]
  exact wpAny_bind (wpAny_mono h (fun _ _ h1 => wpAny_bind (wpAny_holding (wpAny_mono h1 (fun _ _ h2 => wpAny_bind (wpAny_standAt (wpAny_bind (wpAny_holding (wpAny_mono h2 (fun _ _ h3 => h3) fun _ _ e => e))))) fun _ _ e => e))) fun _ _ e => e)
theorem delItem_list {l : Addr} {items : Array Value} {n k' : Nat} {k : Int} {Q : Unit → Shared → Prop} (ho : s.heap.get? l = some (seqObj "list" items n)) (hz : items.size ≤ 1000)
    (hfit : Builtin.List.listFitsIndex k = true) (hk : seqIndex? k items.size = some k')
    (hQ : ∀ n', (s.heap.update l (Obj.mapSeq (·.eraseIdxIfInBounds k'))).get? l = some (seqObj "list" (items.eraseIdxIfInBounds k') n') → Q () { s with heap := s.heap.update l (Obj.mapSeq (·.eraseIdxIfInBounds k')) }) :
    wpAny (model prog w) A (delItem (.ref l) (.int k t)) Q E s := by
  have hT : s.TypeIs (.ref l) "list" := ⟨_, ho, rfl⟩
  unfold delItem
  try with_reducible refine wpAny_holding ?_
  refine wpAny_bind (wpAny_sequenceKey hT (by decide) ?_)
  refine wpAny_bind (wpAny_callSpecial?_slot (name := Str.ofString "__delitem__") hT PySem.F.slot_list_delitem
    (wpAny_call_entry PySem.F.slot_list_delitem hT PySem.F.entry_list_delitem ?_ (PySem.F.args_list_delitem_2 _ _)))
  show wpAny _ _ (Builtin.List.listSubscript? (.int k t) >>= _) _ _ s
  refine wpAny_bind (wpAny_listSubscript_int hfit ?_)
  show wpAny _ _ (Builtin.List.listItems (.ref l) >>= _) _ _ s
  refine wpAny_bind (listItems_at ho rfl ?_)
  dsimp only
  rw [hk]
  dsimp only
  obtain ⟨n', hn'⟩ : ∃ n', (s.heap.update l (Obj.mapSeq (·.eraseIdxIfInBounds k'))).get? l = some (seqObj "list" (items.eraseIdxIfInBounds k') n') := ⟨_, get?_update_seq ho fun xs => xs.eraseIdxIfInBounds k'⟩
  refine wpAny_bind (listUpdate_at ho rfl ?_ (by rw [sizeLine_eq]; lia) (by have : (items.eraseIdxIfInBounds k').size ≤ items.size := (by simp [Array.eraseIdxIfInBounds]; split <;> simp); rw [sizeLine_eq]; lia))
  exact wpAny_pure ⟨.none, rfl, wpAny_pure (hQ n' hn')⟩
end
end Mine
end

/- G -/
section
open PySem PySem.W PySem.Spec PySem.Calls PyProof.Rows PyProof.V
set_option Elab.async false
set_option maxRecDepth 100000
namespace Mine
theorem reset_G {M : PySem.Model} {A : PySem.Around} {Q : PySem.Flow → PySem.Shared → Prop} {E : PySem.Value → PySem.Shared → Prop} {s : PySem.Shared} {env : PySem.Env} (h : Q .next s) : PySem.wpAny M A (PySem.execs [] env) Q E s := by
  w_top off
  first | (walk1; exact h) | exact PySem.wpAny_execs_nil h
open Sem (wp)

noncomputable def codeG (M : Model) (A : Around) (c : Code) (R : Result → Shared → Prop) (s : Shared) : Prop :=
  ∀ Γ p, Good Γ → Γ.code = c → Γ.Below A → wpCode M Γ R p s

section
variable {α β : Type} {M : Model} {A : Around} {s : Shared}
theorem wpG_of_any {t : Sem α} {Q : α → Shared → Prop} (h : wpAny M A t Q (fun _ _ => False) s) : wpG M A t Q s := fun Γ p _ hΓ => h Γ p hΓ
theorem wpG_mono {t : Sem α} {Q Q' : α → Shared → Prop} (h : wpG M A t Q s) (hQ : ∀ a s, Q a s → Q' a s) : wpG M A t Q' s :=
  fun Γ p g hΓ => Sem.wp_mono M Γ t (fun a _ s => hQ a s) (fun _ _ _ x => x) p s (h Γ p g hΓ)
theorem wpG_bind {m : Sem α} {f : α → Sem β} {Q : β → Shared → Prop} (h : wpG M A m (fun a s' => wpG M A (f a) Q s') s) : wpG M A (m >>= f) Q s := fun Γ p g hΓ => by
  rw [Sem.wp_bind']
  exact Sem.wp_mono M Γ m (fun a p' s' h' => h' Γ p' g hΓ) (fun _ _ _ h' => h') p s (h Γ p g hΓ)
theorem wpG_bindA {m : Sem α} {f : α → Sem β} {Q : β → Shared → Prop} (h : wpAny M A m (fun a s' => wpG M A (f a) Q s') (fun _ _ => False) s) : wpG M A (m >>= f) Q s := wpG_bind (wpG_of_any h)
theorem wpG_pure {a : α} {Q : α → Shared → Prop} (h : Q a s) : wpG M A (pure a) Q s := fun _ _ _ _ => h
theorem wpG_holding {vs : List Value} {m : Sem α} {Q : α → Shared → Prop} (h : wpG M A m Q s) : wpG M A (holding vs m) Q s :=
  fun Γ p g hΓ => by rw [Sem.wp_holding]; exact h Γ p g hΓ
theorem wpG_keep {vs : List Value} {m : Sem α} {Q : α → Shared → Prop} (h : wpG M A m Q s) : wpG M A (m.keep vs) Q s :=
  fun Γ p g hΓ => by rw [Sem.wp_keep]; exact h Γ p g hΓ
theorem wpG_onRaise {m : Sem α} {k : Value → Sem Unit} {Q : α → Shared → Prop} (h : wpG M A m Q s) : wpG M A (m.onRaise k) Q s := fun Γ p g hΓ => by
  rw [Sem.wp_onRaise]
  exact Sem.wp_mono M Γ m (fun _ _ _ h' => h') (fun _ _ _ h' => h'.elim) p s (h Γ p g hΓ)
theorem wpG_call {f : Value} {pos : List Value} {kw : List (Str × Value)} {Q : Value → Shared → Prop}
    (hc : codeG M A (.call f ⟨pos, kw⟩) (fun r s' => match r with | .ok (.ret v) => Q v s' | _ => False) s) : wpG M A (call f pos kw) Q s := fun Γ p g hΓ => by
  unfold call
  rw [Sem.wp_runValue]
  refine wpCode_mono (fun r s' hr => ?_) (hc (Γ.enter (.call f ⟨pos, kw⟩) none p) p (g.enter rfl) rfl (hΓ.enter _ none p (by intro x; cases x)))
  cases r with
  | error e => exact hr.elim
  | ok f => cases f <;> exact hr
theorem codeG_of_tree {c : Code} {R : Result → Shared → Prop}
    (h : wpG M (A.under c) (M.den c) (fun fin s' => match fin with | .done f => R (.ok f) s' | .again c' => c'.quiet = true ∧ notDec c' = true ∧ codeG M A c' R s') s) : codeG M A c R s := fun Γ p g hc hΓ => by
  rw [wpCode_iff_wp, hc]
  refine Sem.wp_mono M Γ _ (fun fin p' s' h' => ?_) (fun _ _ _ h' => h'.elim) p s (h Γ p g (hc ▸ hΓ.in))
  cases fin with
  | done f => exact h'
  | again c' => exact ⟨h'.1, h'.2.2 (Γ.goto c') p' (g.goto h'.2.1) rfl (hΓ.goto c')⟩
theorem codeG_of_any {c : Code} {R : Result → Shared → Prop} (h : codeAny M A c R s) : codeG M A c R s := fun Γ p _ hc hΓ => h Γ p hc hΓ
theorem codeG_mono {c : Code} {R R' : Result → Shared → Prop} (h : codeG M A c R s) (hR : ∀ r s, R r s → R' r s) : codeG M A c R' s :=
  fun Γ p g hc hΓ => wpCode_mono hR (h Γ p g hc hΓ)
theorem codeG_loop {c : Code} (hq : c.quiet = true) (hn : notDec c = true) {R : Result → Shared → Prop} (I : Nat → Shared → Prop)
    (turn : ∀ n s, I n s → wpG M (A.under c) (M.den c)
      (fun fin s' => match fin with
        | .done f => R (.ok f) s'
        | .again c' => (c' = c ∧ ∃ m, m < n ∧ I m s') ∨ (c'.quiet = true ∧ notDec c' = true ∧ codeG M A c' R s')) s)
    (n : Nat) (h : I n s) : codeG M A c R s := by
  induction n using Nat.strongRecOn generalizing s with
  | ind n ih =>
    refine codeG_of_tree (wpG_mono (turn n s h) fun fin s' hf => ?_)
    cases fin with
    | done f => exact hf
    | again c' =>
      rcases hf with ⟨rfl, m, hm, hI⟩ | hf
      · exact ⟨hq, hn, ih m hm hI⟩
      · exact hf
end

section
variable {M : Model} {A : Around} {s : Shared} {env : Env}
theorem G_execs_cons {st : Stmt} {rest : List Stmt} {Q : Flow → Shared → Prop}
    (h : wpG M A (exec st env) (fun f s' => match f with | .next => wpG M A (execs rest env) Q s' | f => Q f s') s) : wpG M A (execs (st :: rest) env) Q s := by
  rw [execs_cons]
  refine wpG_bind (wpG_mono h fun f s' h' => ?_)
  cases f <;> first | exact h' | exact wpG_pure h'
theorem G_execs_nil {Q : Flow → Shared → Prop} (h : Q .next s) : wpG M A (execs [] env) Q s := wpG_pure h
theorem wp_execs_append (Γ : PySem.Ctx) (rest : List Stmt) (Q : Flow → Pos → Shared → Prop) (E : Value → Pos → Shared → Prop) : ∀ (pre : List Stmt) (p : Pos) (s : Shared),
    wp M Γ (execs (pre ++ rest) env) Q E p s = wp M Γ (execs pre env) (fun f p' s' => match f with | .next => wp M Γ (execs rest env) Q E p' s' | f => Q f p' s') E p s
  | [], p, s => rfl
  | st :: pre, p, s => by
    rw [List.cons_append, execs_cons, execs_cons, Sem.wp_bind', Sem.wp_bind']
    congr 1
    funext f p' s'
    cases f with
    | next => exact wp_execs_append Γ rest Q E pre p' s'
    | brk => rfl
    | cont => rfl
    | ret v => rfl
/-- a block's head that needs no good context -/
theorem G_execs_split {pre rest : List Stmt} {Q : Flow → Shared → Prop}
    (h : wpAny M A (execs pre env) (fun f s' => match f with | .next => wpG M A (execs rest env) Q s' | f => Q f s') (fun _ _ => False) s) : wpG M A (execs (pre ++ rest) env) Q s := by
  intro Γ p g hΓ
  rw [wp_execs_append]
  refine Sem.wp_mono M Γ _ (fun f p' s' hf => ?_) (fun _ _ _ x => x) p s (h Γ p hΓ)
  cases f with
  | next => exact hf Γ p' g hΓ
  | brk => exact hf
  | cont => exact hf
  | ret v => exact hf
theorem G_Assign_Name {x : Str} {pos' pos : Pos} {value : Expr} {Q : Flow → Shared → Prop}
    (h : wpG M A (eval value env) (fun v s₁ => wpAny M A (storeName env x v) (fun _ => Q .next) (fun _ _ => False) s₁) s)
    (hs : swapsWith value (some (.Name x pos')) pos.line env = pure false := by rfl) : wpG M A (exec (.Assign [.Name x pos'] value pos) env) Q s := by
  rw [exec_Assign_Name env x pos' value pos hs]
  refine wpG_bindA (wpAny_standAt (wpG_bind (wpG_mono h fun v s₁ h₁ => wpG_bindA (wpAny_standAt (wpG_bindA ?_)))))
  exact wpAny_bindName (wpAny_mono h₁ (fun _ _ q => wpG_pure q) fun _ _ x => x)
theorem G_AugAssign_Name {x : Str} {pos' pos : Pos} {op : Operator} {value : Expr} {Q : Flow → Shared → Prop}
    (h : wpAny M A (loadName env x) (fun old s₁ => wpG M A (eval value env) (fun v s₂ => wpAny M A (inplaceOp op old v)
      (fun r s₃ => wpAny M A (storeName env x r) (fun _ => Q .next) (fun _ _ => False) s₃) (fun _ _ => False) s₂) s₁) (fun _ _ => False) s) :
    wpG M A (exec (.AugAssign (.Name x pos') op value pos) env) Q s := by
  rw [exec_AugAssign_Name]
  refine wpG_bindA (wpAny_standAt (wpG_bindA (wpAny_mono h (fun old s₁ h₁ => wpG_bind (wpG_holding (wpG_mono h₁ fun v s₂ h₂ => wpG_bindA (wpAny_standAt ?_)))) fun _ _ x => x)))
  refine wpG_bindA ?_
  have hop : wpAny M A (operate [old, v] (inplaceOp op old v)) (fun r s₃ => wpAny M A (storeName env x r) (fun _ => Q .next) (fun _ _ => False) s₃) (fun _ _ => False) s₂ :=
    fun Γ p hΓ => by rw [Sem.wp_operate]; exact h₂ Γ p hΓ
  refine wpAny_mono hop (fun r s₃ h₃ => wpG_bindA (wpAny_standAt (wpG_bindA ?_))) fun _ _ x => x
  exact wpAny_bindName (wpAny_mono h₃ (fun _ _ q => wpG_pure q) fun _ _ x => x)
theorem G_If {test : Expr} {body orelse : List Stmt} {pos : Pos} {Q : Flow → Shared → Prop}
    (h : wpAny M A (isTrue test env (eval test env)) (fun b s₂ => if b then wpG M A (execs body env) Q s₂ else wpG M A (execs orelse env) Q s₂) (fun _ _ => False) s) :
    wpG M A (exec (.If test body orelse pos) env) Q s := by
  rw [exec_If]
  refine wpG_bindA (wpAny_standAt (wpG_bindA (wpAny_mono h (fun b s₂ h₂ => ?_) fun _ _ x => x)))
  cases b <;> exact h₂
theorem G_spliced_nil {Q : List Value → Shared → Prop} (h : Q [] s) : wpG M A (spliced []) Q s := wpG_pure h
theorem G_spliced_cons {x : Sem Value} {rest : List (Bool × Sem Value)} {Q : List Value → Shared → Prop}
    (h : wpG M A x (fun v s₁ => wpG M A (spliced rest) (fun vs s₂ => Q (v :: vs) s₂) s₁) s) : wpG M A (spliced ((false, x) :: rest)) Q s := by
  rw [spliced]
  refine wpG_bind (wpG_mono h fun v s₁ h₁ => ?_)
  simp only [Bool.false_eq_true, if_false]
  exact wpG_bind (wpG_pure (wpG_bind (wpG_holding (wpG_mono h₁ fun vs s₂ h₂ => wpG_pure h₂))))
/-- a plain call of a def of the text -/
theorem G_callWith {K : Frag} {pos : Pos} {f : Value} {e : Expr} {rest : List Expr} {Q : Value → Shared → Prop} (hk : keepIn K f = true)
    (h : wpG M A (spliced (backTo pos (starEach (e :: rest) env))) (fun vs s₁ => K.In s₁.heap ∧ wpG M A (call f vs) Q s₁) s)
    (he : starEach (e :: rest) env = (false, eval e env) :: starEach rest env := by rfl) (hplain : (backTo pos (starEach rest env)).any (·.1) = false := by rfl) :
    wpG M A (callWith pos f [] (backTo pos (starEach (e :: rest) env)) []) Q s := by
  rw [he] at h ⊢
  unfold callWith
  refine wpG_bind (wpG_holding ?_)
  show wpG M A (evalArgs f true ((false, eval e env) :: backTo pos (starEach rest env)) []) _ s
  unfold evalArgs
  show wpG M A (spliced ((false, eval e env) :: backTo pos (starEach rest env)) >>= _) _ s
  refine wpG_bind (wpG_mono h fun vs s₁ h₁ => ?_)
  refine wpG_holding (wpG_bind (wpG_pure (wpG_bind (wpG_pure (wpG_pure ?_)))))
  refine wpG_bindA (wpAny_standAt ?_)
  obtain ⟨k, hk', L⟩ := keeps_K (M := M) hk _ h₁.1
  have hp : ((backTo pos ((false, eval e env) :: starEach rest env)).any (·.1) || ([] : List (Option Str × Sem Value)).any (·.1.isNone)) = false := by
    show ((false || (backTo pos (starEach rest env)).any (·.1)) || false) = false
    rw [hplain]; rfl
  simp only [hp]
  refine wpG_bindA (L.here ?_)
  have tail : ∀ {t : Sem Value}, wpG M A t Q s₁ → wpG M A (t >>= fun r => holding [r] point >>= fun _ => pure r) Q s₁ :=
    fun ht => wpG_bind (wpG_mono ht fun r s₂ hr => wpG_bindA (wpAny_holding (wpAny_point (wpG_pure hr))))
  have marked (mk : Value) : wpG M A (callMarked mk f ([] ++ vs) []) Q s₁ := by unfold callMarked; exact wpG_keep h₁.2
  rcases hk' with rfl | rfl | rfl <;> dsimp only <;> first | exact tail h₁.2 | (split <;> first | exact tail h₁.2 | exact tail (marked _))
theorem G_callWith_type {T : String} {pos : Pos} {e : Expr} {rest : List Expr} {Q : Value → Shared → Prop}
    (h : wpG M A (spliced (backTo pos (starEach (e :: rest) env))) (fun vs s₁ => wpG M A (call (.type T) vs) Q s₁) s)
    (he : starEach (e :: rest) env = (false, eval e env) :: starEach rest env := by rfl) (hplain : (backTo pos (starEach rest env)).any (·.1) = false := by rfl) :
    wpG M A (callWith pos (.type T) [] (backTo pos (starEach (e :: rest) env)) []) Q s := by
  rw [he] at h ⊢
  unfold callWith
  refine wpG_bind (wpG_holding ?_)
  show wpG M A (evalArgs (.type T) true ((false, eval e env) :: backTo pos (starEach rest env)) []) _ s
  unfold evalArgs
  show wpG M A (spliced ((false, eval e env) :: backTo pos (starEach rest env)) >>= _) _ s
  refine wpG_bind (wpG_mono h fun vs s₁ h₁ => ?_)
  refine wpG_holding (wpG_bind (wpG_pure (wpG_bind (wpG_pure (wpG_pure ?_)))))
  refine wpG_bindA (wpAny_standAt ?_)
  have hp : ((backTo pos ((false, eval e env) :: starEach rest env)).any (·.1) || ([] : List (Option Str × Sem Value)).any (·.1.isNone)) = false := by
    show ((false || (backTo pos (starEach rest env)).any (·.1)) || false) = false
    rw [hplain]; rfl
  simp only [hp]
  refine wpG_bindA (wpAny_pure ?_)
  dsimp only
  exact wpG_bind (wpG_mono h₁ fun r s₂ hr => wpG_bindA (wpAny_holding (wpAny_point (wpG_pure hr))))
theorem G_Call {func : Expr} {args : List Expr} {pos : Pos} {Q : Value → Shared → Prop}
    (h : wpAny M A (eval func env) (fun f s₁ => wpG M A (callWith pos f [] (backTo pos (starEach args env)) []) Q s₁) (fun _ _ => False) s)
    (he : eval (.Call func args [] pos) env = (do callWith pos (← eval func env) [] (backTo pos (starEach args env)) (backToKw pos (keywordEach [] env))) := by rfl) :
    wpG M A (eval (.Call func args [] pos) env) Q s := by
  rw [he]; exact wpG_bindA h
end

section
variable {prog : Program} {w : World} {A : Around} {s : Shared} {env : Env}
theorem codeG_func {R : Result → Shared → Prop} {body : List Stmt}
    (h : wpG (model prog w) (A.deeper env) (execs body env) (fun f s' => R (.ok (.ret (match f with | .ret v => v | _ => .none))) s') s) :
    codeG (model prog w) A (.func body env) R s := by
  refine codeG_of_tree ?_
  show wpG _ (A.deeper env) (do point; match ← (execs body env).onRaise (leaving env) with | .ret v => ret v | _ => ret .none) _ s
  refine wpG_bindA (wpAny_point (wpG_bind (wpG_onRaise (wpG_mono h fun f s' h' => ?_))))
  cases f <;> exact wpG_pure h'
theorem codeG_forLoop {R : Result → Shared → Prop} {target : Expr} {it : Value} {body : List Stmt} (I : Nat → Shared → Prop)
    (turn : ∀ n s, I n s → wpAny (model prog w) A (pyNext it) (fun r s₁ => match r with
      | none => R (.ok .next) s₁
      | some v => wpAny (model prog w) A (letOwnedTupleGo target it v) (fun _ s₁ => wpAny (model prog w) A (assign target env v) (fun _ s₂ => wpG (model prog w) A (execs body env) (fun f s₃ => match f with
          | .next | .cont => ∃ m, m < n ∧ I m s₃
          | .brk => R (.ok .next) s₃
          | .ret v => R (.ok (.ret v)) s₃) s₂) (fun _ _ => False) s₁) (fun _ _ => False) s₁) (fun _ _ => False) s)
    (n : Nat) (h : I n s) : codeG (model prog w) A (.forLoop target it body [] env) R s := by
  refine codeG_loop rfl rfl I (fun n s hI => ?_) n h
  show wpG _ _ ((forTurn target it body [] env).onRaise (fun x => do noteFrame x env; theTreesLotGoes x)) _ s
  refine wpG_onRaise ?_
  simp only [forTurn]
  refine wpG_bindA (wpAny_standAt (wpG_bindA (wpAny_onRaise (wpAny_mono (turn n s hI) (fun r s₁ h₁ => ?_) fun _ _ h' => h'.elim))))
  cases r with
  | none => exact wpG_pure (.inr ⟨rfl, rfl, codeG_of_any (codeAny_block (wpAny_execs_nil h₁))⟩)
  | some v =>
    refine wpG_bindA (wpAny_mono h₁ (fun _ s₁' h₁' => ?_) fun _ _ h' => h')
    refine wpG_bindA (wpAny_mono h₁' (fun _ s₂ h₂ => wpG_bind (wpG_mono h₂ fun f s₃ h₃ => ?_)) fun _ _ h' => h')
    cases f with
    | next => exact wpG_pure (.inl ⟨rfl, h₃⟩)
    | cont => exact wpG_pure (.inl ⟨rfl, h₃⟩)
    | brk => exact wpG_pure h₃
    | ret v => exact wpG_pure h₃
theorem G_For {target iter : Expr} {body : List Stmt} {pos : Pos} {Q : Flow → Shared → Prop}
    (h : wpAny (model prog w) A (eval iter env) (fun x s₁ => wpAny (model prog w) A (pyIter x) (fun it s₂ =>
      codeG (model prog w) A (.forLoop target it body [] env) (fun r s' => match r with | .ok f => Q f s' | .error _ => False) s₂) (fun _ _ => False) s₁) (fun _ _ => False) s)
    (hs : ∀ x, foldedSetIterable iter env x = pure x := by intro _; rfl) :
    wpG (model prog w) A (exec (.For target iter body [] pos) env) Q s := by
  rw [exec_For]
  refine wpG_bindA (wpAny_standAt (wpG_bindA (wpAny_mono h (fun x s₁ h₁ => wpG_bindA (wpAny_of_eq (hs x) (wpG_bindA (wpAny_standAt (wpG_bindA (wpAny_holding (wpAny_mono h₁ (fun it s₂ h₂ => ?_) fun _ _ h' => h'))))))) fun _ _ h' => h')))
  unfold runOwn
  refine wpG_onRaise fun Γ p g hΓ => ?_
  rw [Sem.wp_run]
  refine wpCode_mono (fun r s' hr => ?_) (h₂ (Γ.enter (.forLoop target it body [] env) none p) p (g.enter rfl) rfl (hΓ.enter _ none p (by intro x; cases x)))
  cases r with
  | ok f => exact hr
  | error e => exact hr
end
end Mine
end

/- G2 -/
section
open PySem PySem.W PySem.Spec PySem.Calls PyProof.Rows PyProof.V
set_option Elab.async false
set_option maxRecDepth 100000
namespace Mine
theorem reset_G2 {M : PySem.Model} {A : PySem.Around} {Q : PySem.Flow → PySem.Shared → Prop} {E : PySem.Value → PySem.Shared → Prop} {s : PySem.Shared} {env : PySem.Env} (h : Q .next s) : PySem.wpAny M A (PySem.execs [] env) Q E s := by
  w_top off
  first | (walk1; exact h) | exact PySem.wpAny_execs_nil h
section
variable {prog : Program} {w : World} {A A₀ : Around} {s : Shared}

/-- what a def's call does ahead of its body -/
theorem def_opens {a : Addr} {o : Obj} {fd : FuncData} {body : List Stmt} {args : Args} {binds : List (Str × Value)} {P : Env → Shared → Prop}
    (hroom : A.depth < recursionLimit) (ho : s.heap.get? a = some o) (hd' : o.data = .func fd) (hcd : s.heap.CodeRec fd.code fd.qualname)
    (hbody : fd.body = .stmts body) (hbind : BindsTo s fd args binds) (hco : fd.scope.isCoroutine = false) (hgen : fd.scope.isGenerator = false)
    (h : wpAny (model prog w) A.in1 (newFunctionEnv fd.scope fd.globals fd.closure binds (fd.qualname ++ ".<locals>.") (some a) fd.code none fd.builtins) (fun env s₂ => s₂.heap.NoLimit ∧ P env s₂) (fun _ _ => False) s) :
    wpAny (model prog w) A.in1 (callAny (.ref a) args) (fun fin s' => ∃ env, fin = .again (.func body env) ∧ P env s') (fun _ _ => False) s := by
  simp only [callAny]
  refine wpAny_bind (wpAny_load ho ?_)
  obtain ⟨c, oc, vs, tq, hc, hoc, hdc, hq⟩ := hcd
  rw [hc] at h
  simp only [hd', callFunction, hco, hgen, hbody, hc]
  refine wpAny_bind (m := field (.ref c) 1) (wpAny_field hoc hdc hq (wpAny_bind (wpAny_pure ?_)))
  refine wpAny_bind (hbind _ _ _ _ (wpAny_bind (wpAny_mono h (fun env s₂ h₂ => ?_) fun _ _ x => x)))
  exact wpAny_bind (wpAny_enterFrame h₂.1 hroom (wpAny_pure ⟨env, rfl, h₂.2⟩))

theorem codeG_call_fun {a : Addr} {o : Obj} {fd : FuncData} {body : List Stmt} {args : Args} {binds : List (Str × Value)} {R : Result → Shared → Prop}
    (hroom : A.depth < recursionLimit) (ho : s.heap.get? a = some o) (hd' : o.data = .func fd) (hcd : s.heap.CodeRec fd.code fd.qualname)
    (hbody : fd.body = .stmts body) (hbind : BindsTo s fd args binds) (hco : fd.scope.isCoroutine = false) (hgen : fd.scope.isGenerator = false)
    (h : wpAny (model prog w) A.in1 (newFunctionEnv fd.scope fd.globals fd.closure binds (fd.qualname ++ ".<locals>.") (some a) fd.code none fd.builtins) (fun env s₂ => s₂.heap.NoLimit ∧ codeG (model prog w) A (.func body env) R s₂) (fun _ _ => False) s) :
    codeG (model prog w) A (.call (.ref a) args) R s := by
  refine codeG_of_tree (wpG_of_any ?_)
  show wpAny _ A.in1 (callAny (.ref a) args) _ _ s
  refine wpAny_mono (def_opens hroom ho hd' hcd hbody hbind hco hgen h) (fun fin s' h' => ?_) fun _ _ x => x
  obtain ⟨env, rfl, h''⟩ := h'
  exact ⟨rfl, rfl, h''⟩

variable {base h₀ : Heap} {outer : List Env} {L : Addr} {m : Str → Option Value} {env : Env} {news : List (Addr × Obj)} {K : Frag}
  {R : Result → Shared → Prop} {p : Program} {loose : List Str} {mean : ExcName → Option Value} {mg mb : Str → Option Value}
  {name qual : Str} {params : Arguments} {body : List Stmt} {scope : Scope} {dV kV doc pm cdv ct oc : Value} {an od : Option Addr} {osl : Array (Option Value)} {f : Addr} {args : Args} {binds : List (Str × Value)}

theorem codeG_def (B : Below A₀ base outer h₀) (F : Fr h₀ L s.heap m) (X₀ : K.In h₀) (N : News h₀ L s.heap news) (T : Top p loose mean mg mb h₀) (hA : A.frames = some (env :: outer)) (hf : env.frame = some L) (hke : env.scope.kind = .function)
    (ho : K.lookup f = some ⟨oc, od, .func (fnOf name qual params body scope dV kV doc pm an cdv ct), osl⟩) (hcd : codeIn K cdv qual = true) (hroom : A.depth < recursionLimit)
    (hbind : BindsTo s (fnOf name qual params body scope dV kV doc pm an cdv ct) args binds) (hloc : ∀ y ∈ binds, scope.names.lookup y.1 = some .local)
    (h : ∀ g L' h₁, Fr h₀ L g m → Fr g L' h₁ (fun y => binds.reverse.lookup y) → News g L' h₁ news → Below A base (env :: outer) g → K.In g → Top p loose mean mg mb g →
      wpG (model prog w) (A.deeper (envOf qual scope L' f cdv)) (execs body (envOf qual scope L' f cdv))
        (fun fl s' => LeaveK h₀ L m g R (match fl with | .ret v => v | _ => .none) s')
        { s with heap := h₁, toks := s.toks + binds.length })
    (hco : scope.isCoroutine = false) (hgen : scope.isGenerator = false) (hk : scope.kind = .function)
    (hcell : ∀ x ∈ scope.names, x.2 ≠ .cell) : codeG (model prog w) A (.call (.ref f) args) R s := by
  obtain ⟨FG, BG, st, lv⟩ := groundX (R := R) B F N hA hf hke
  have XS : K.In s.heap := X₀.keeps F.keep
  refine codeG_call_fun hroom (XS _ _ ho) rfl (codeRec_of XS hcd) rfl hbind hco hgen ?_
  refine wpAny_newFunctionEnv hcell hloc (fun h₁ hns hsb => ⟨(T.nolimit.keeps F.keep).fresh _ hsb, codeG_func ?_⟩) hk
  have hk₁ : ∀ b o, s.heap.get? b = some o → h₁.get? b = some o := fun b o e => hsb.extBut b o (Nat.ne_of_lt (Heap.lt_size e)) (Heap.get?_push_of_some _ e)
  refine wpG_mono (h _ s.heap.objs.size h₁ FG ⟨hns, fun b o e => hk₁ b o (of_hideAll _ e), Nat.le_of_eq (hideAll_size _ _)⟩
    (fun p hp => ⟨hk₁ _ _ (N p hp).1, Nat.ne_of_lt (Heap.lt_size (N p hp).1), hideAll_none _ (List.mem_map_of_mem hp)⟩) BG (X₀.keeps st) (T.keeps st)) fun fl s' hl => ?_
  exact lv _ _ hl
end

/-- a call of the def at f from a def's frame, from good contexts alone -/
noncomputable abbrev ClaimG (sl : Nat) (w : World) (f : Addr) (news : List (Addr × Obj)) (vs : List Value)
    (ret : Heap → Addr → (Str → Option Value) → Shared → (Value → Shared → Prop) → Prop) : Prop :=
  ∀ (p : Program) (loose : List Str) (mean : ExcName → Option Value) (mg mb : Str → Option Value)
    (dp un : Nat) (gd : Option (List Code)) (cn : Str) (cs : Scope) (a : Addr) (ccd : Value) (cl : List (Str × Addr)) (outer : List Env) (A₀ : Around) (base h₀ : Heap) (L : Addr) (m : Str → Option Value) (s : Shared) (Q : Value → Shared → Prop),
    Below A₀ base outer h₀ → Fr h₀ L s.heap m → (hd.heap_1 w.params).In h₀ → News h₀ L s.heap news → Top p loose mean mg mb h₀ → cs.kind = .function →
    dp + sl < recursionLimit → un + 10 * sl < cLine → ret h₀ L m s Q →
      wpG (model PySem.Challenge.rw_xp0013_01.row.prog w) (ktrTop dp un gd cn cs L a ccd cl outer) (call (.ref f) vs) Q s
end Mine
end

/- G3 -/
section
open PySem PySem.W PySem.Spec PySem.Calls PyProof.Rows PyProof.V
set_option Elab.async false
set_option maxRecDepth 100000
namespace Mine
theorem reset_G3 {M : PySem.Model} {A : PySem.Around} {Q : PySem.Flow → PySem.Shared → Prop} {E : PySem.Value → PySem.Shared → Prop} {s : PySem.Shared} {env : PySem.Env} (h : Q .next s) : PySem.wpAny M A (PySem.execs [] env) Q E s := by
  w_top off
  first | (walk1; exact h) | exact PySem.wpAny_execs_nil h
section
variable {prog : Program} {w : World} {A : Around} {s : Shared} {env : Env} {h₀ : Heap} {x : Str} {body : List Stmt} {Q : Flow → Shared → Prop}

theorem kst_fr0 {L : Addr} {h : Heap} {ps : List (Str × Value)} {stored : List Str} {m₀ m₁ : Str → Option Value} (h1 : ∀ p ∈ ps, m₁ p.1 = some p.2) (h2 : ∀ z, z ≠ x → (∀ p ∈ ps, z ≠ p.1) → stored.contains z = false → m₁ z = m₀ z)
    (F : Fr h₀ L h m₁) : Fr h₀ L h (fun y => if y = x then m₁ y else kstB (fun z => if stored.contains z then m₁ z else m₀ z) ps y) := kst_frOut h1 h2 F

/-- a for loop whose turns need a good context -/
theorem codeG_loop_my {σ : Type} {target : Expr} {I : Addr} {fp wr : List Addr} {n : Nat} {PV : Nat → Value → Prop} {St : Nat → Heap → Prop} {m₀ : Str → Option Value}
    (Led : σ → List (Addr × Obj)) (ps : σ → List (Str × Value)) (stored : List Str) (P : Nat → σ → Prop) {news : List (Addr × Obj)}
    (W : Walks prog w A I fp wr n PV St) (hLf : env.locals ∉ fp) (hwr : ∀ b ∈ wr, h₀.get? b = none) (hfp : ∀ q ∈ news, q.1 ∉ fp)
    (hst : St 0 s.heap) (F : Fr h₀ env.locals s.heap m₀) (N : News h₀ env.locals s.heap news) (hj : LoopS Led ps x stored m₀ P 0 m₀ news)
    (turn : ∀ (c : σ) (i : Nat) v (u : Str → Option Value) h tk own, i < n → PV i v → OwnOff own (news.map (·.1)) → P i c →
      Fr h₀ env.locals h (fun y => if y = x then u y else kstB (fun z => if stored.contains z then u z else m₀ z) (ps c) y) → News h₀ env.locals h (Led c ++ own) →
      wpAny (model prog w) A (assign target env v) (fun _ s₂ => wpG (model prog w) A (execs body env) (InvPostN h₀ env.locals (LoopS Led ps x stored m₀ P (i + 1)) own (news.map (·.1)) { s with heap := h, toks := tk } Q) s₂) (fun _ _ => False) { s with heap := h, toks := tk })
    (done : ∀ (c : σ) (u : Str → Option Value) h tk, P n c → Fr h₀ env.locals h (fun y => if y = x then u y else kstB (fun z => if stored.contains z then u z else m₀ z) (ps c) y) → News h₀ env.locals h (Led c) → Q .next { s with heap := h, toks := tk })
    (ht : ∀ i v (s : Shared) (Q : Unit → Shared → Prop), PV i v → St (i + 1) s.heap → Q () s → wpAny (model prog w) A (letOwnedTupleGo target (.ref I) v) Q (fun _ _ => False) s := by exact fun _ _ _ _ _ _ h => wpAny_pure h) :
    codeG (model prog w) A (.forLoop target (.ref I) body [] env) (fun r s' => match r with | .ok f => Q f s' | .error _ => False) s := by
  have hLw : env.locals ∉ wr := fun h => hLf (W.sub _ h)
  have old : ∀ b o, h₀.get? b = some o → b ∉ wr := fun b o e hb => by rw [hwr b hb] at e; cases e
  refine codeG_forLoop
    (fun k s' => ∃ h' tk m' nx i, s' = { s with heap := h', toks := tk } ∧ St i h' ∧ Fr h₀ env.locals h' m' ∧ News h₀ env.locals h' nx ∧ nx.map (·.1) = news.map (·.1) ∧ LoopS Led ps x stored m₀ P i m' nx ∧ i ≤ n ∧ k = n + 1 - i) ?_ (n + 1)
    ⟨s.heap, s.toks, m₀, news, 0, rfl, hst, F, N, rfl, hj, Nat.zero_le _, rfl⟩
  rintro k s' ⟨h', tk, m', nx, i, rfl, hst', F', N', hadr, hJ, hi, rfl⟩
  have nfp : ∀ p ∈ nx, p.1 ∉ fp := fun p hp => by
    have h1 : p.1 ∈ nx.map (·.1) := List.mem_map.mpr ⟨p, hp, rfl⟩
    rw [hadr] at h1
    obtain ⟨q, hq1, hq2⟩ := List.mem_map.mp h1
    exact hq2 ▸ hfp q hq1
  have next : ∀ h₁ : Heap, (∀ b o, b ∉ wr → h'.get? b = some o → h₁.get? b = some o) → Fr h₀ env.locals h₁ m' ∧ News h₀ env.locals h₁ nx := fun h₁ hk₁ =>
    ⟨⟨F'.ns.at' fun o e => hk₁ _ o hLw e, fun b o e => hk₁ b o (old b o e) (F'.keep b o e), F'.above⟩, fun p hp => ⟨hk₁ _ _ (fun q => nfp p hp (W.sub _ q)) (N' p hp).1, (N' p hp).2⟩⟩
  obtain ⟨c, rfl, hk1, hk2, hP⟩ := hJ
  by_cases hlt : i < n
  · refine W.item i _ _ _ hlt hst' fun v h₁ tk₁ hV hst₁ hk₁ => ?_
    obtain ⟨F₁, N₁⟩ := next h₁ hk₁
    have Nown : News h₀ env.locals h₁ (ownOf h₀ fp h₁) := news_ownOf hLf
    have hoff : OwnOff (ownOf h₀ fp h₁) (news.map (·.1)) := by
      intro p hp b hb e
      obtain ⟨q, hq, rfl⟩ := List.mem_map.mp hb
      exact hfp q hq (e ▸ ownOf_sub p hp)
    refine ht i v _ _ hV hst₁ ?_
    refine wpAny_mono (turn c i v m' h₁ tk₁ (ownOf h₀ fp h₁) hlt hV hoff hP (kst_fr0 hk1 hk2 F₁) (fun p hp => (List.mem_append.mp hp).elim (N₁ p) (Nown p))) (fun _ s₂ h₂ => wpG_mono h₂ fun f s₃ h₃ => ?_) fun _ _ e => e
    have fin : InvEndN h₀ env.locals (LoopS Led ps x stored m₀ P (i + 1)) (ownOf h₀ fp h₁) (news.map (·.1)) { s with heap := h₁, toks := tk₁ } s₃ →
        ∃ m, m < n + 1 - i ∧ ∃ h' tk m' nx j, s₃ = { s with heap := h', toks := tk } ∧ St j h' ∧ Fr h₀ env.locals h' m' ∧ News h₀ env.locals h' nx ∧ nx.map (·.1) = news.map (·.1) ∧ LoopS Led ps x stored m₀ P j m' nx ∧ j ≤ n ∧ m = n + 1 - j := by
      rintro ⟨h₃', tk₃, m₂, news₂, nx₂, rfl, F₃, N₃, hn₃, ho₃, ha₃, hJ₃⟩
      refine ⟨n + 1 - (i + 1), by lia, h₃', tk₃, m₂, nx₂, i + 1, rfl, ?_, F₃, fun p hp => N₃ p (hn₃ p hp), ha₃, hJ₃, hlt, rfl⟩
      refine W.frame _ _ _ hst₁ fun b hb o e => ?_
      cases hn : h₀.get? b with
      | some o₀ =>
        have : o₀ = o := by have := F₁.keep b o₀ hn; rw [e] at this; exact (Option.some.inj this).symm
        exact this ▸ F₃.keep b o₀ hn
      | none => exact (N₃ _ (ho₃ _ (mem_ownOf hb hn e))).1
    cases f with
    | ret v => exact h₃
    | brk => exact h₃
    | cont => exact fin h₃
    | next => exact fin h₃
  · have hin : i = n := by lia
    subst hin
    refine W.done _ _ _ hst' fun h₁ tk₁ hk₁ => ?_
    obtain ⟨F₁, N₁⟩ := next h₁ hk₁
    exact done c m' h₁ tk₁ hP (kst_fr0 hk1 hk2 F₁) N₁

theorem rangeG_my {σ : Type} {target : Expr} {r : Addr} {a₀ b₀ c₁ : Int} {t₀ u₀ v₀ : Tok} {n : Nat} {m₀ : Str → Option Value}
    (Led : σ → List (Addr × Obj)) (ps : σ → List (Str × Value)) (stored : List Str) (P : Nat → σ → Prop) {news : List (Addr × Obj)}
    (hh : A.handled = none) (hr : IsRange s.heap r a₀ b₀ c₁ t₀ u₀ v₀) (hsmall : Builtin.Range.small a₀ b₀ c₁ = true) (hn : Builtin.Range.rangeSize a₀ b₀ c₁ = (n : Int)) (F : Fr h₀ env.locals s.heap m₀) (N : News h₀ env.locals s.heap news) (hj : LoopS Led ps x stored m₀ P 0 m₀ news)
    (turn : ∀ (c : σ) (i : Nat) t (u : Str → Option Value) h tk own, i < n → OwnOff own (news.map (·.1)) → P i c →
      Fr h₀ env.locals h (fun y => if y = x then u y else kstB (fun z => if stored.contains z then u z else m₀ z) (ps c) y) → News h₀ env.locals h (Led c ++ own) →
      wpAny (model prog w) A (assign target env (.int (a₀ + (i : Int) * c₁) t)) (fun _ s₂ => wpG (model prog w) A (execs body env) (InvPostN h₀ env.locals (LoopS Led ps x stored m₀ P (i + 1)) own (news.map (·.1)) { s with heap := h, toks := tk } Q) s₂) (fun _ _ => False) { s with heap := h, toks := tk })
    (done : ∀ (c : σ) (u : Str → Option Value) h tk, P n c → Fr h₀ env.locals h (fun y => if y = x then u y else kstB (fun z => if stored.contains z then u z else m₀ z) (ps c) y) → News h₀ env.locals h (Led c) → Q .next { s with heap := h, toks := tk })
    (ht : ∀ I v, letOwnedTupleGo target (.ref I) v = pure () := by intro _ _; rfl) :
    wpAny (model prog w) A (pyIter (.ref r)) (fun it s₂ => codeG (model prog w) A (.forLoop target it body [] env) (fun r s' => match r with | .ok f => Q f s' | .error _ => False) s₂) (fun _ _ => False) s := by
  refine wpAny_pyIter_range hr hsmall ?_
  have W : Walks prog w A s.heap.objs.size [s.heap.objs.size] [s.heap.objs.size] n (fun i v => i < n ∧ ∃ t, v = .int (a₀ + i * c₁) t)
      (fun i h => IsRangeIter h s.heap.objs.size (a₀ + (i : Nat) * c₁) ((n : Int) - (i : Nat)) c₁) := (Walks.range hh _ a₀ c₁ n).bound
  refine codeG_loop_my Led ps stored P W ?_ ?_ ?_ (by show IsRangeIter _ _ _ _ _; rw [hn]; simpa using Heap.get?_push_size _ rfl) (F.push _) (fun p hp => ⟨Heap.get?_push_of_some _ (N p hp).1, (N p hp).2⟩) hj ?_ done fun _ v _ _ _ _ h => wpAny_of_eq (ht _ v) h
  · intro hm
    exact absurd F.ns.lt ((List.mem_singleton.mp hm) ▸ Nat.lt_irrefl _)
  · intro b hb
    rw [List.mem_singleton.mp hb]
    exact next_is_new F
  · intro p hp hI
    exact absurd (Heap.lt_size (N p hp).1) ((List.mem_singleton.mp hI) ▸ Nat.lt_irrefl _)
  · rintro c i v u h tk own hi ⟨_, t, rfl⟩ hoff hP F' N'
    exact turn c i t u h tk own hi hoff hP F' N'

theorem listG_my {σ : Type} {target : Expr} {l : Addr} {vs : List Value} {m₀ : Str → Option Value}
    (Led : σ → List (Addr × Obj)) (ps : σ → List (Str × Value)) (stored : List Str) (P : Nat → σ → Prop) {news : List (Addr × Obj)} {cnt : Nat}
    (hh : A.handled = none) (F : Fr h₀ env.locals s.heap m₀) (N : News h₀ env.locals s.heap ((l, listOf vs.toArray cnt) :: news)) (hl : ∀ p ∈ news, p.1 ≠ l) (hj : LoopS Led ps x stored m₀ P 0 m₀ news)
    (turn : ∀ (c : σ) (i : Nat) v (u : Str → Option Value) h tk own, vs[i]? = some v → OwnOff own (news.map (·.1)) → P i c →
      Fr h₀ env.locals h (fun y => if y = x then u y else kstB (fun z => if stored.contains z then u z else m₀ z) (ps c) y) → News h₀ env.locals h (Led c ++ own) →
      wpAny (model prog w) A (assign target env v) (fun _ s₂ => wpG (model prog w) A (execs body env) (InvPostN h₀ env.locals (LoopS Led ps x stored m₀ P (i + 1)) own (news.map (·.1)) { s with heap := h, toks := tk } Q) s₂) (fun _ _ => False) { s with heap := h, toks := tk })
    (done : ∀ (c : σ) (u : Str → Option Value) h tk, P vs.length c → Fr h₀ env.locals h (fun y => if y = x then u y else kstB (fun z => if stored.contains z then u z else m₀ z) (ps c) y) → News h₀ env.locals h (Led c) → Q .next { s with heap := h, toks := tk })
    (ht : ∀ I i v (s : Shared) (Q : Unit → Shared → Prop), vs[i]? = some v → s.heap.IsListIter I l (i + 1) → Q () s → wpAny (model prog w) A (letOwnedTupleGo target (.ref I) v) Q (fun _ _ => False) s) :
    wpAny (model prog w) A (pyIter (.ref l)) (fun it s₂ => codeG (model prog w) A (.forLoop target it body [] env) (fun r s' => match r with | .ok f => Q f s' | .error _ => False) s₂) (fun _ _ => False) s := by
  have Nl := N (l, listOf vs.toArray cnt) (.head _)
  have N' : News h₀ env.locals s.heap news := fun p hp => N p (.tail _ hp)
  have hls : s.heap.IsList l vs.toArray := ⟨_, Nl.1, rfl, cnt, rfl⟩
  have hlt : l < s.heap.objs.size := Heap.lt_size Nl.1
  have hne : l ≠ s.heap.objs.size := Nat.ne_of_lt hlt
  refine wpAny_pyIter_list hls ?_
  have W := Walks.list (prog := prog) (w := w) hh s.heap.objs.size l hne vs.toArray
  rw [List.size_toArray] at W
  refine codeG_loop_my Led ps stored P W ?_ ?_ ?_ ⟨⟨_, Heap.get?_push_size _ rfl, rfl, rfl⟩, hls.at fun o e => Heap.get?_push_of_some _ e⟩ (F.push _) (fun p hp => ⟨Heap.get?_push_of_some _ (N' p hp).1, (N' p hp).2⟩) hj ?_ done fun i v s Q hV hS h => ht _ i v s Q (by simpa using hV) hS.1 h
  · intro hm
    rcases List.mem_cons.mp hm with e | hm
    · exact absurd F.ns.lt (e ▸ Nat.lt_irrefl _)
    · exact Nl.2.1 (List.mem_singleton.mp hm).symm
  · intro b hb
    rw [List.mem_singleton.mp hb]
    exact next_is_new F
  · intro p hp hI
    rcases List.mem_cons.mp hI with e | hI
    · exact absurd (Heap.lt_size (N' p hp).1) (e ▸ Nat.lt_irrefl _)
    · exact hl p hp (List.mem_singleton.mp hI)
  · rintro c i v u h tk own hi hv hoff hP F' N'
    exact turn c i v u h tk own (by simpa using hv) hoff hP F' N'
end
end Mine
end

/- Lc -/
section
open PySem PySem.W PySem.Spec PySem.Calls PyProof.Rows PyProof.V
set_option Elab.async false
set_option maxRecDepth 100000
namespace Mine
theorem reset_Lc {M : PySem.Model} {A : PySem.Around} {Q : PySem.Flow → PySem.Shared → Prop} {E : PySem.Value → PySem.Shared → Prop} {s : PySem.Shared} {env : PySem.Env} (h : Q .next s) : PySem.wpAny M A (PySem.execs [] env) Q E s := by
  w_top off
  first | (walk1; exact h) | exact PySem.wpAny_execs_nil h
section
variable {prog : Program} {w : World} {A : Around} {s : Shared} {env : Env} {h₀ : Heap} {x : Str} {body : List Stmt} {Q : Flow → Shared → Prop}
theorem For_cell {E : Value → Shared → Prop} {target iter : Expr} {pos : Pos}
    (h : wpAny (model prog w) A (eval iter env) (fun x s₁ => wpAny (model prog w) A (pyIter x) (fun it s₂ =>
      codeAny (model prog w) A (.forLoop target it body [] env) (fun r s' => match r with | .ok f => Q f s' | .error _ => False) s₂) E s₁) E s)
    (hs : ∀ x, foldedSetIterable iter env x = pure x := by intro _; rfl) :
    wpAny (model prog w) A (exec (.For target iter body [] pos) env) Q E s :=
  wpAny_For (wpAny_mono h (fun _ _ h₁ => wpAny_mono h₁ (fun _ _ h₂ => codeAny_mono h₂ fun r _ z => by cases r with | ok f => exact z | error e => exact z.elim) fun _ _ e => e) fun _ _ e => e) hs
/-- a for loop over any target; no turn raises -/
theorem codeA_loop_my {σ : Type} {target : Expr} {I : Addr} {fp wr : List Addr} {n : Nat} {PV : Nat → Value → Prop} {St : Nat → Heap → Prop} {m₀ : Str → Option Value}
    (Led : σ → List (Addr × Obj)) (ps : σ → List (Str × Value)) (stored : List Str) (P : Nat → σ → Prop) {news : List (Addr × Obj)}
    (W : Walks prog w A I fp wr n PV St) (hLf : env.locals ∉ fp) (hwr : ∀ b ∈ wr, h₀.get? b = none) (hfp : ∀ q ∈ news, q.1 ∉ fp)
    (hst : St 0 s.heap) (F : Fr h₀ env.locals s.heap m₀) (N : News h₀ env.locals s.heap news) (hj : LoopS Led ps x stored m₀ P 0 m₀ news)
    (turn : ∀ (c : σ) (i : Nat) v (u : Str → Option Value) h tk own, i < n → PV i v → OwnOff own (news.map (·.1)) → P i c →
      Fr h₀ env.locals h (fun y => if y = x then u y else kstB (fun z => if stored.contains z then u z else m₀ z) (ps c) y) → News h₀ env.locals h (Led c ++ own) →
      wpAny (model prog w) A (assign target env v) (fun _ s₂ => wpAny (model prog w) A (execs body env) (InvPostN h₀ env.locals (LoopS Led ps x stored m₀ P (i + 1)) own (news.map (·.1)) { s with heap := h, toks := tk } Q) (fun _ _ => False) s₂) (fun _ _ => False) { s with heap := h, toks := tk })
    (done : ∀ (c : σ) (u : Str → Option Value) h tk, P n c → Fr h₀ env.locals h (fun y => if y = x then u y else kstB (fun z => if stored.contains z then u z else m₀ z) (ps c) y) → News h₀ env.locals h (Led c) → Q .next { s with heap := h, toks := tk })
    (ht : ∀ v, letOwnedTupleGo target (.ref I) v = pure () := by intro _; rfl) :
    codeAny (model prog w) A (.forLoop target (.ref I) body [] env) (fun r s' => match r with | .ok f => Q f s' | .error _ => False) s := by
  have hLw : env.locals ∉ wr := fun h => hLf (W.sub _ h)
  have old : ∀ b o, h₀.get? b = some o → b ∉ wr := fun b o e hb => by rw [hwr b hb] at e; cases e
  refine codeAny_forLoop (ht := ht)
    (fun k s' => ∃ h' tk m' nx i, s' = { s with heap := h', toks := tk } ∧ St i h' ∧ Fr h₀ env.locals h' m' ∧ News h₀ env.locals h' nx ∧ nx.map (·.1) = news.map (·.1) ∧ LoopS Led ps x stored m₀ P i m' nx ∧ i ≤ n ∧ k = n + 1 - i) ?_ (n + 1)
    ⟨s.heap, s.toks, m₀, news, 0, rfl, hst, F, N, rfl, hj, Nat.zero_le _, rfl⟩
  rintro k s' ⟨h', tk, m', nx, i, rfl, hst', F', N', hadr, hJ, hi, rfl⟩
  have nfp : ∀ p ∈ nx, p.1 ∉ fp := fun p hp => by
    have h1 : p.1 ∈ nx.map (·.1) := List.mem_map.mpr ⟨p, hp, rfl⟩
    rw [hadr] at h1
    obtain ⟨q, hq1, hq2⟩ := List.mem_map.mp h1
    exact hq2 ▸ hfp q hq1
  have next : ∀ h₁ : Heap, (∀ b o, b ∉ wr → h'.get? b = some o → h₁.get? b = some o) → Fr h₀ env.locals h₁ m' ∧ News h₀ env.locals h₁ nx := fun h₁ hk₁ =>
    ⟨⟨F'.ns.at' fun o e => hk₁ _ o hLw e, fun b o e => hk₁ b o (old b o e) (F'.keep b o e), F'.above⟩, fun p hp => ⟨hk₁ _ _ (fun q => nfp p hp (W.sub _ q)) (N' p hp).1, (N' p hp).2⟩⟩
  obtain ⟨c, rfl, hk1, hk2, hP⟩ := hJ
  by_cases hlt : i < n
  · refine W.item i _ _ _ hlt hst' fun v h₁ tk₁ hV hst₁ hk₁ => ?_
    obtain ⟨F₁, N₁⟩ := next h₁ hk₁
    have Nown : News h₀ env.locals h₁ (ownOf h₀ fp h₁) := news_ownOf hLf
    have hoff : OwnOff (ownOf h₀ fp h₁) (news.map (·.1)) := by
      intro p hp b hb e
      obtain ⟨q, hq, rfl⟩ := List.mem_map.mp hb
      exact hfp q hq (e ▸ ownOf_sub p hp)
    refine wpAny_mono (turn c i v m' h₁ tk₁ (ownOf h₀ fp h₁) hlt hV hoff hP (kst_fr0 hk1 hk2 F₁) (fun p hp => (List.mem_append.mp hp).elim (N₁ p) (Nown p))) (fun _ s₂ h₂ => wpAny_mono h₂ (fun f s₃ h₃ => ?_) fun _ _ e => e.elim) fun _ _ e => e.elim
    have fin : InvEndN h₀ env.locals (LoopS Led ps x stored m₀ P (i + 1)) (ownOf h₀ fp h₁) (news.map (·.1)) { s with heap := h₁, toks := tk₁ } s₃ →
        ∃ m, m < n + 1 - i ∧ ∃ h' tk m' nx j, s₃ = { s with heap := h', toks := tk } ∧ St j h' ∧ Fr h₀ env.locals h' m' ∧ News h₀ env.locals h' nx ∧ nx.map (·.1) = news.map (·.1) ∧ LoopS Led ps x stored m₀ P j m' nx ∧ j ≤ n ∧ m = n + 1 - j := by
      rintro ⟨h₃', tk₃, m₂, news₂, nx₂, rfl, F₃, N₃, hn₃, ho₃, ha₃, hJ₃⟩
      refine ⟨n + 1 - (i + 1), by lia, h₃', tk₃, m₂, nx₂, i + 1, rfl, ?_, F₃, fun p hp => N₃ p (hn₃ p hp), ha₃, hJ₃, hlt, rfl⟩
      refine W.frame _ _ _ hst₁ fun b hb o e => ?_
      cases hn : h₀.get? b with
      | some o₀ =>
        have : o₀ = o := by have := F₁.keep b o₀ hn; rw [e] at this; exact (Option.some.inj this).symm
        exact this ▸ F₃.keep b o₀ hn
      | none => exact (N₃ _ (ho₃ _ (mem_ownOf hb hn e))).1
    cases f with
    | ret v => exact h₃
    | brk => exact h₃
    | cont => exact fin h₃
    | next => exact fin h₃
  · have hin : i = n := by lia
    subst hin
    refine W.done _ _ _ hst' fun h₁ tk₁ hk₁ => ?_
    obtain ⟨F₁, N₁⟩ := next h₁ hk₁
    exact wpAny_execs_nil (done c m' h₁ tk₁ hP (kst_fr0 hk1 hk2 F₁) N₁)

theorem rangeA_my {σ : Type} {target : Expr} {r : Addr} {a₀ b₀ c₁ : Int} {t₀ u₀ v₀ : Tok} {n : Nat} {m₀ : Str → Option Value}
    (Led : σ → List (Addr × Obj)) (ps : σ → List (Str × Value)) (stored : List Str) (P : Nat → σ → Prop) {news : List (Addr × Obj)}
    (hh : A.handled = none) (hr : IsRange s.heap r a₀ b₀ c₁ t₀ u₀ v₀) (hsmall : Builtin.Range.small a₀ b₀ c₁ = true) (hn : Builtin.Range.rangeSize a₀ b₀ c₁ = (n : Int)) (F : Fr h₀ env.locals s.heap m₀) (N : News h₀ env.locals s.heap news) (hj : LoopS Led ps x stored m₀ P 0 m₀ news)
    (turn : ∀ (c : σ) (i : Nat) t (u : Str → Option Value) h tk own, i < n → OwnOff own (news.map (·.1)) → P i c →
      Fr h₀ env.locals h (fun y => if y = x then u y else kstB (fun z => if stored.contains z then u z else m₀ z) (ps c) y) → News h₀ env.locals h (Led c ++ own) →
      wpAny (model prog w) A (assign target env (.int (a₀ + (i : Int) * c₁) t)) (fun _ s₂ => wpAny (model prog w) A (execs body env) (InvPostN h₀ env.locals (LoopS Led ps x stored m₀ P (i + 1)) own (news.map (·.1)) { s with heap := h, toks := tk } Q) (fun _ _ => False) s₂) (fun _ _ => False) { s with heap := h, toks := tk })
    (done : ∀ (c : σ) (u : Str → Option Value) h tk, P n c → Fr h₀ env.locals h (fun y => if y = x then u y else kstB (fun z => if stored.contains z then u z else m₀ z) (ps c) y) → News h₀ env.locals h (Led c) → Q .next { s with heap := h, toks := tk })
    (ht : ∀ I v, letOwnedTupleGo target (.ref I) v = pure () := by intro _ _; rfl) :
    wpAny (model prog w) A (pyIter (.ref r)) (fun it s₂ => codeAny (model prog w) A (.forLoop target it body [] env) (fun r s' => match r with | .ok f => Q f s' | .error _ => False) s₂) (fun _ _ => False) s := by
  refine wpAny_pyIter_range hr hsmall ?_
  have W : Walks prog w A s.heap.objs.size [s.heap.objs.size] [s.heap.objs.size] n (fun i v => i < n ∧ ∃ t, v = .int (a₀ + i * c₁) t)
      (fun i h => IsRangeIter h s.heap.objs.size (a₀ + (i : Nat) * c₁) ((n : Int) - (i : Nat)) c₁) := (Walks.range hh _ a₀ c₁ n).bound
  refine codeA_loop_my Led ps stored P W ?_ ?_ ?_ (by show IsRangeIter _ _ _ _ _; rw [hn]; simpa using Heap.get?_push_size _ rfl) (F.push _) (fun p hp => ⟨Heap.get?_push_of_some _ (N p hp).1, (N p hp).2⟩) hj ?_ done fun v => ht _ v
  · intro hm
    exact absurd F.ns.lt ((List.mem_singleton.mp hm) ▸ Nat.lt_irrefl _)
  · intro b hb
    rw [List.mem_singleton.mp hb]
    exact next_is_new F
  · intro p hp hI
    exact absurd (Heap.lt_size (N p hp).1) ((List.mem_singleton.mp hI) ▸ Nat.lt_irrefl _)
  · rintro c i v u h tk own hi ⟨_, t, rfl⟩ hoff hP F' N'
    exact turn c i t u h tk own hi hoff hP F' N'

end
end Mine
end

/- L0 -/
section
open PySem PySem.W PySem.Spec PySem.Calls PyProof.Rows PyProof.V
set_option Elab.async false
set_option maxRecDepth 100000
namespace Mine
theorem reset_L0 {M : PySem.Model} {A : PySem.Around} {Q : PySem.Flow → PySem.Shared → Prop} {E : PySem.Value → PySem.Shared → Prop} {s : PySem.Shared} {env : PySem.Env} (h : Q .next s) : PySem.wpAny M A (PySem.execs [] env) Q E s := by
  w_top off
  first | (walk1; exact h) | exact PySem.wpAny_execs_nil h
set_option maxHeartbeats 4000000
/-- a call of a def with cells at the top, from good contexts -/
theorem call_cellsG {prog : Program} {w : World} {A : Around} {R : Result → Shared → Prop} {s : Shared} {name : Str} {params : Arguments} {body : List Stmt} {scope : Scope}
    {pm cd doc : Value} {a : Addr} {o : Obj} {args : List Value} {binds : List (Str × Value)}
    (hroom : A.depth < recursionLimit) (ho : s.heap.get? a = some o) (hdata : o.data = .func (Calls.docDef name params body scope pm cd doc)) (hlim : s.heap.NoLimit) (hcd : s.heap.CodeRec cd name)
    (hbind : bindArgs (Calls.docDef name params body scope pm cd doc) ⟨args, []⟩ = pure binds)
    (hkind : ∀ x ∈ binds, scope.names.lookup x.1 = some .local ∨ (scope.names.lookup x.1 = some .cell ∧ ((cellsFrom (s.heap.objs.size + 1) scope.names []).lookup x.1).isSome = true))
    (hnd : ((cellsFrom 0 scope.names []).map (·.1)).Nodup)
    (h : ∀ h₁ tk cells, Fr s.heap s.heap.objs.size h₁ (bindL (envOfC name scope s.heap.objs.size a cd).kindOf binds fun _ => none) → News s.heap s.heap.objs.size h₁ cells →
      CellsAre (bindC (envOfC name scope s.heap.objs.size a cd).kindOf binds fun _ => none) (cellsFrom (s.heap.objs.size + 1) scope.names []) cells →
      wpG (model prog w) (A.deeper (envOfC name scope s.heap.objs.size a cd)) (execs body (envOfC name scope s.heap.objs.size a cd))
        (fun f s' => R (.ok (.ret (match f with | .ret v => v | _ => .none))) s') { s with heap := h₁, toks := tk })
    (hco : scope.isCoroutine = false := by rfl) (hgen : scope.isGenerator = false := by rfl) (hk : scope.kind = .function := by rfl) :
    codeG (model prog w) A (.call (.ref a) ⟨args, []⟩) R s := by
  refine codeG_call_fun hroom ho hdata hcd rfl (BindsTo.of_eq hbind) hco hgen ?_
  refine wpAny_newFunctionEnv_cells hk hkind fun env' he s' x => ?_
  subst he
  refine ⟨hlim.keeps x.toInCall.keep, codeG_func ?_⟩
  obtain ⟨h₁, tk, rfl, _⟩ := x.done
  have hk₁ := x.toInCall.keep
  obtain ⟨cells, NC, Y⟩ := Cl.news (h₀ := s.heap) (Nat.le_refl _) fun n c hm => ⟨x.cell n c (lookup_of_mem_nodup (cellsFrom_names scope.names 0 (s.heap.objs.size + 1) [] [] rfl ▸ hnd) hm), x.above n c hm⟩
  exact h h₁ tk cells ⟨x.toInCall.ns, hk₁, Nat.le_refl _⟩ NC Y
end Mine
end

/- Ba0 -/
section
open PySem PySem.W PySem.Spec PySem.Calls PyProof.Rows PyProof.V
set_option Elab.async false
set_option maxRecDepth 100000
namespace Mine.BA
theorem reset_Ba0 {M : PySem.Model} {A : PySem.Around} {Q : PySem.Flow → PySem.Shared → Prop} {E : PySem.Value → PySem.Shared → Prop} {s : PySem.Shared} {env : PySem.Env} (h : Q .next s) : PySem.wpAny M A (PySem.execs [] env) Q E s := by
  w_top off
  first | (walk1; exact h) | exact PySem.wpAny_execs_nil h
theorem mro : mroOf (.type "bytearray") = pure [.type "bytearray", .type "object"] := by rw [mroOf_type]; kernel_rfl
theorem lk_new : typeLookup (.type "bytearray") "__new__" = pure (some (.builtin "bytearray.__new__")) := by rw [typeLookup_type, builtinLookup_eq_fast]; kernel_rfl
theorem slot_init : Slot "bytearray" "__init__" "bytearray.__init__" :=
  .of (owner := "bytearray") (n := "__init__") (by rw [typeLookup_type, builtinLookup_eq_fast]; kernel_rfl) (by decide +kernel) (by decide +kernel) (by decide +kernel)
    (by first | exact .inl (by decide +kernel) | exact .inr (by decide +kernel)) (by rw [isSubtype_type]; kernel_rfl)
theorem called : TypeCalled "bytearray" "bytearray.__new__" "bytearray.__init__" :=
  ⟨by decide +kernel, by decide +kernel, ⟨_, _, mro⟩, madeBy_type mro lk_new (by decide +kernel), by decide +kernel, by rw [isSubtype_type]; kernel_rfl, slot_init⟩
theorem typeCall (a : Value) : checkTypeCall "bytearray" ⟨[a], []⟩ = pure () := by kernel_rfl
theorem newCall (a : Value) : checkBuiltinCall "bytearray.__new__" ⟨[.type "bytearray", a], []⟩ = pure () := by kernel_rfl
theorem plain_new : plainId "bytearray.__new__" = true := by decide +kernel
theorem plain_init : plainId "bytearray.__init__" = true := by decide +kernel
theorem entry_init : entryFor table "bytearray.__init__" = some Builtin.«bytearray.__init__» := by first | exact entryFor_of_fast (by kernel_rfl) | exact entryFor_of_tree (by kernel_rfl)
end Mine.BA
end

/- Ba1 -/
section
open PySem PySem.W PySem.Spec PySem.Calls PyProof.Rows PyProof.V
set_option Elab.async false
set_option maxRecDepth 100000
namespace Mine
theorem reset_Ba1 {M : PySem.Model} {A : PySem.Around} {Q : PySem.Flow → PySem.Shared → Prop} {E : PySem.Value → PySem.Shared → Prop} {s : PySem.Shared} {env : PySem.Env} (h : Q .next s) : PySem.wpAny M A (PySem.execs [] env) Q E s := by
  w_top off
  first | (walk1; exact h) | exact PySem.wpAny_execs_nil h
section
variable {prog : Program} {w : World} {A : Around} {s : Shared} {R : Result → Shared → Prop}
theorem codeG_builtin {id : String} {args : Args} {b : Builtin} (hb : entryFor table id = some b)
    (h : wpG (model prog w) (A.under (.builtin id args)) (b args)
      (fun fin s' => match fin with | .done f => R (.ok f) s' | .again c' => c'.quiet = true ∧ notDec c' = true ∧ codeG (model prog w) A c' R s') s) :
    codeG (model prog w) A (.builtin id args) R s := by
  refine codeG_of_tree ?_
  show wpG _ _ (match entryFor table id with | some b => b args | none => unsupported ((withoutEnding? id "#data").getD id)) _ s
  rw [hb]; exact h
theorem wpG_ite_true {α : Type} {M : Model} {c : Bool} {a b : Sem α} {Q : α → Shared → Prop} (hc : c = true) (h : wpG M A a Q s) : wpG M A (if c = true then a else b) Q s := by
  subst hc; exact h
theorem wpG_ite_false {α : Type} {M : Model} {c : Bool} {a b : Sem α} {Q : α → Shared → Prop} (hc : c = false) (h : wpG M A b Q s) : wpG M A (if c = true then a else b) Q s := by
  subst hc; exact h
end
section
variable {prog : Program} {w : World} {A : Around} {s : Shared} {R : Result → Shared → Prop}
theorem codeG_call_builtin {id : String} {args : Args} {b : Builtin} (hq : plainId id = true) (hn : notDec (.builtin id args) = true) (hb : entryFor table id = some b)
    (h : wpAny (model prog w) A.in1 (checkBuiltinCall id args) (fun _ s₁ => wpG (model prog w) A.in1 (b args)
      (fun fin s' => match fin with | .done f => R (.ok f) s' | .again c' => c'.quiet = true ∧ notDec c' = true ∧ codeG (model prog w) A c' R s') s₁) (fun _ _ => False) s) :
    codeG (model prog w) A (.call (.builtin id) args) R s := by
  refine codeG_of_tree ?_
  show wpG _ A.in1 (do checkBuiltinCall id args; again (.builtin id args)) _ s
  refine wpG_bindA (wpAny_mono h (fun _ s₁ h₁ => wpG_pure ⟨plainId_quiet hq _, hn, codeG_builtin hb ?_⟩) fun _ _ x => x)
  rw [Around.under_plainId hq _]
  exact h₁
end
namespace BA
theorem write_any {M : Model} {A : Around} {E : Value → Shared → Prop} {s : Shared} {a : Addr} {b : Array UInt8} {f : Array UInt8 → Array UInt8} {Q : Unit → Shared → Prop}
    (ho : s.heap.get? a = some { cls := .type "bytearray", data := .bytearray b }) (hz : (f b).size ≤ 16777216)
    (h : ∀ h' : Heap, h'.get? a = some { cls := .type "bytearray", data := .bytearray (f b) } → Heap.SameBut a s.heap h' → Q () { s with heap := h' }) : wpAny M A (Builtin.Bytes.write (.ref a) f) Q E s := by
  show wpAny M A (updateBytearray a f) Q E s
  unfold updateBytearray
  refine wpAny_bind (wpAny_load ho ?_)
  show wpAny _ _ (update a (Obj.mapBytearray f) >>= fun _ => lookBehind a) _ _ _
  refine wpAny_bind (wpAny_update ho ?_)
  have h2 : (s.heap.update a (Obj.mapBytearray f)).get? a = some { cls := .type "bytearray", data := .bytearray (f b) } := Heap.get?_update_self (Obj.mapBytearray f) ho rfl
  refine wpAny_lookBehind h2 ?_ (h _ h2 (Heap.SameBut.update ..))
  show (if (f b).size > sizeLine then some "bytearray:memory" else none) = none
  rw [if_neg]
  rw [sizeLine_eq]
  lia
theorem lk_release : typeLookup (.type "bytearray") "__release_buffer__" = pure (some (.builtin "bytearray.__release_buffer__")) := by rw [typeLookup_type, builtinLookup_eq_fast]; kernel_rfl
theorem bind_init (v : Value) : Builtin.Bytes.bindOptional "bytearray.__init__" "bytearray" ["source", "encoding", "errors"] [v] [] = pure [some v, none, none] := by kernel_rfl
theorem owner_ba : Manifest.owners.lookup (String.ofList ['y', 'a', 'r', 'r', 'a', 'e', 't', 'y', 'b'].reverse) = some Manifest.sig_bytearray := by kernel_rfl
theorem args_init (a b : Value) : argsOk "bytearray.__init__" ⟨[a, b], []⟩ := by
  unfold argsOk; rw [signature?_of (id := "bytearray.__init__") (n := ['_', '_', 't', 'i', 'n', 'i', '_', '_']) (o := ['y', 'a', 'r', 'r', 'a', 'e', 't', 'y', 'b']) (by kernel_rfl) owner_ba]; kernel_rfl
/-- Bytes.exported in a good context -/
theorem any_lam {l : List (Code × Pos)} {f : Code × Pos → Bool} (hl : ∀ cp ∈ l, notDec cp.1 = true) (hf : ∀ c p, notDec c = true → f (c, p) = false) : l.any f = false := by
  rw [List.any_eq_false]
  intro cp hc
  rw [hf cp.1 cp.2 (hl cp hc)]
  exact Bool.false_ne_true
theorem exported_G {M : Model} {A : Around} {s : Shared} {a : Addr} {Q : Bool → Shared → Prop} (h : Q false s) : wpG M A (Builtin.Bytes.exported (.ref a)) Q s := by
  intro Γ p g _
  have key : ∀ b : Bool, b = false → Q b s := fun b hb => hb ▸ h
  show Q (((Γ.code, p) :: Γ.below).any _) s
  refine key _ (any_lam (List.forall_mem_cons.mpr ⟨g.1, g.2⟩) fun c q hn => ?_)
  cases c with
  | builtin id args =>
    obtain ⟨pos, kw⟩ := args
    unfold notDec at hn
    dsimp only at hn
    rw [Bool.not_eq_true', Bool.or_eq_false_iff] at hn
    obtain ⟨h1, h2⟩ := hn
    have ne : ∀ t ∈ (["bytearray.__contains__", "bytearray.__mod__", "bytearray.__rmod__", "_struct.pack_into.held", "bytearray.find.held"] : List String), id ≠ t := fun t ht e => by
      rw [e, List.contains_iff_mem.mpr ht] at h2
      exact absurd h2 (by decide)
    unfold Builtin.Bytes.exported.match_1
    dsimp only
    refine Eq.trans (dif_neg (ne _ (.head _))) ?_
    refine Eq.trans (dif_neg (ne _ (.tail _ (.head _)))) ?_
    refine Eq.trans (dif_neg (ne _ (.tail _ (.tail _ (.head _))))) ?_
    refine Eq.trans (dif_neg (ne _ (.tail _ (.tail _ (.tail _ (.head _)))))) ?_
    refine Eq.trans (dif_neg (ne _ (.tail _ (.tail _ (.tail _ (.tail _ (.head _))))))) ?_
    cases pos with
    | nil => rfl
    | cons v r =>
      show (_ && Builtin.Bytes.decodersThatHold.contains id) = false
      rw [h1, Bool.and_false]
  | _ => exact rfl
theorem entry_new : entryFor table "bytearray.__new__" = some Builtin.«list.__new__» := entryFor_alias (id' := "list.__new__") (by first | kernel_rfl | (rw [fastTable_eq_tree]; kernel_rfl)) (by decide +kernel) (by decide +kernel) (by first | kernel_rfl | (rw [fastTable_eq_tree]; kernel_rfl))
set_option maxRecDepth 1000000 in
set_option maxHeartbeats 4000000 in
theorem owner_new : ("bytearray.__new__".splitOn ".__new__").headD "" = "bytearray" := by simp +decide [String.splitOn, String.splitOnAux]
theorem sub_self : isSubtype (.type "bytearray") (.type "bytearray") = pure true := by rw [isSubtype_type]; kernel_rfl
section
variable {prog : Program} {w : World} {A : Around} {E : Value → Shared → Prop} {s : Shared}
theorem code_new (a : Value) {R : Result → Shared → Prop}
    (h : R (.ok (.ret (.ref s.heap.objs.size))) { s with heap := s.heap.push { cls := .type "bytearray", data := .bytearray #[] } }) :
    codeAny (model prog w) A (.call (.builtin "bytearray.__new__") ⟨[.type "bytearray", a], []⟩) R s := by
  refine codeAny_of_tree ?_
  show wpAny _ A.in1 (do checkBuiltinCall "bytearray.__new__" ⟨[.type "bytearray", a], []⟩; again (.builtin "bytearray.__new__" ⟨[.type "bytearray", a], []⟩)) _ _ s
  refine wpAny_bind (wpAny_of_eq (newCall a) (wpAny_pure ⟨plainId_quiet plain_new _, codeAny_builtin_stack entry_new rfl fun p st => ?_⟩))
  rw [Around.under_plainId plain_new _]
  have hsub := sub_self
  have hown := owner_new
  obtain ⟨hp, g, d, tk, os⟩ := s
  simp only [hown]
  wp_walk
  exact h
end
end BA
end Mine
end

/- Ba2 -/
section
open PySem PySem.W PySem.Spec PySem.Calls PyProof.Rows PyProof.V
set_option Elab.async false
set_option maxRecDepth 100000
namespace Mine
theorem reset_Ba2 {M : PySem.Model} {A : PySem.Around} {Q : PySem.Flow → PySem.Shared → Prop} {E : PySem.Value → PySem.Shared → Prop} {s : PySem.Shared} {env : PySem.Env} (h : Q .next s) : PySem.wpAny M A (PySem.execs [] env) Q E s := by
  w_top off
  first | (walk1; exact h) | exact PySem.wpAny_execs_nil h
namespace BA
section
variable {prog : Program} {w : World} {A : Around} {s : Shared}
theorem call_G {n : Int} {t : Tok} {Q : Value → Shared → Prop} (hn : 0 ≤ n) (hn' : n ≤ 1000)
    (h : ∀ h' : Heap, h'.get? s.heap.objs.size = some { cls := .type "bytearray", data := .bytearray (Array.replicate n.toNat 0) } → (∀ b o, s.heap.get? b = some o → h'.get? b = some o) → Q (.ref s.heap.objs.size) { s with heap := h' }) :
    wpG (model prog w) A (call (.type "bytearray") [.int n t]) Q s := by
  refine wpG_call (codeG_of_tree (wpG_of_any ?_))
  show wpAny _ _ (callAny (.type "bytearray") _) _ _ _
  refine wpAny_pure ⟨Code.quiet_builtin _ (by decide +kernel), rfl, codeG_builtin F.entry_type_call ?_⟩
  rw [Around.under_plain (weight_type_call_type "bytearray" [.int n t] []) rfl]
  unfold Builtin.«type.__call__»
  obtain ⟨c, tl, hmro⟩ := called.mro
  have hmade := called.made
  have hsub := called.sub
  have h1 := called.notType
  have h2 := called.canCreate
  have hct := typeCall (.int n t)
  have hli := called.init.lookup
  refine wpG_ite_false (by decide) ?_
  refine wpG_ite_false h2 ?_
  refine wpG_bindA (wpAny_of_eq hct ?_)
  refine wpG_bindA (wpAny_of_eq hmro ?_)
  refine wpG_ite_false rfl ?_
  refine wpG_bindA (wpAny_of_eq hmade ?_)
  refine wpG_bindA (wpAny_pure ?_)
  refine wpG_bindA (wpAny_holding (wpAny_call (code_new _ ?_)))
  have hT : ({ s with heap := s.heap.push { cls := .type "bytearray", data := .bytearray #[] } } : Shared).TypeIs (.ref s.heap.objs.size) "bytearray" := ⟨_, Heap.get?_push_size _ rfl, rfl⟩
  dsimp only
  refine wpG_bindA (wpAny_isInstance hT sub_self ?_)
  refine wpG_ite_false rfl ?_
  refine wpG_bind (wpG_holding ?_)
  unfold callSpecial?
  refine wpG_bindA (wpAny_specialOf hT hli ?_)
  dsimp only
  refine wpG_holding (wpG_bindA (wpAny_of_eq (called.init.bind _) ?_))
  dsimp only
  refine wpG_bind (wpG_call (codeG_call_builtin called.init.plain rfl entry_init (called.init.check _ _ _ _ _ _ _ _ hT ?_ ?_)))
  · exact args_init _ _
  unfold Builtin.«bytearray.__init__»
  dsimp only [List.cons_append, List.nil_append]
  have hD : (s.heap.push { cls := .type "bytearray", data := .bytearray #[] }).get? s.heap.objs.size = some { cls := .type "bytearray", data := .bytearray #[] } := Heap.get?_push_size _ rfl
  have own : ∀ {M : Model} {A : Around} {Q : Bool → Shared → Prop} {s' : Shared}, s'.TypeIs (.ref s.heap.objs.size) "bytearray" → Q false s' → wpAny M A (Builtin.Bytes.ownRelease (.ref s.heap.objs.size)) Q (fun _ _ => False) s' := by
    intro M A Q s' hT' hq
    unfold Builtin.Bytes.ownRelease Builtin.Bytes.slotIsOwn
    refine wpAny_bind (wpAny_bind (wpAny_specialOf hT' lk_release ?_))
    dsimp only
    refine bm_if_false (by decide +kernel) ?_
    have e : "bytearray.__release_buffer__".dropRight ("__release_buffer__".length + 1) = "bytearray" := by decide +kernel
    rw [e]
    exact wpAny_isInstance hT' sub_self (wpAny_pure hq)
  refine wpG_bindA (own hT ?_)
  refine wpG_ite_false rfl ?_
  refine wpG_bindA (wpAny_of_eq (bind_init _) ?_)
  dsimp only
  refine wpG_bindA (wpAny_of_eq (a := ()) rfl ?_)
  refine wpG_bindA (wpAny_of_eq (a := ()) rfl ?_)
  refine wpG_bind ?_
  unfold orM
  refine wpG_bind (exported_G ?_)
  dsimp only [toBool]
  refine wpG_of_any (wpAny_bind (wpAny_bind (wpAny_load hD (wpAny_pure (wpAny_pure ?_)))))
  refine wpG_ite_false rfl ?_
  refine wpG_of_any ?_
  refine wpAny_bind (write_any hD (by decide) fun h1 hD1 hs1 => ?_)
  refine wpAny_bind (wpAny_of_eq (a := none) rfl ?_)
  refine bm_if_false rfl ?_
  refine bm_if_false (by simp only [Builtin.Bytes.fitsIndex, Bool.not_eq_false', Bool.and_eq_true, decide_eq_true_eq]; lia) ?_
  rw [if_neg (show ¬ n < 0 by lia)]
  refine bm_if_false (beq_eq_false_iff_ne.mpr (by lia)) ?_
  refine bm_if_false (decide_eq_false (by rw [sizeLine_eq]; lia)) ?_
  refine wpAny_bind (wpAny_rule ?_)
  have fin : ∀ h' : Heap, h'.get? s.heap.objs.size = some { cls := .type "bytearray", data := .bytearray (Array.replicate n.toNat 0) } → Heap.SameBut s.heap.objs.size (s.heap.push { cls := .type "bytearray", data := .bytearray #[] }) h' →
      Q (.ref s.heap.objs.size) { s with heap := h' } := fun h' e hs => h h' e fun b o hb => hs.extBut b o (Nat.ne_of_lt (Heap.lt_size hb)) (Heap.get?_push_of_some _ hb)
  by_cases h0 : n > 0
  · rw [if_pos h0]
    refine wpAny_bind (write_any hD1 (by rw [Array.size_replicate]; lia) fun h2 hD2 hs2 => ?_)
    refine wpAny_pure ?_
    show wpG _ _ (pure (some Value.none)) _ _
    refine wpG_pure (wpG_ite_false rfl (wpG_pure ?_))
    exact fin h2 hD2 ⟨(by first | exact hs2.1.trans hs1.1 | exact hs1.1.trans hs2.1), fun b hb => (hs2.2 b hb).trans (hs1.2 b hb)⟩
  · rw [if_neg h0]
    have e0 : n.toNat = 0 := by lia
    refine wpAny_pure ?_
    show wpG _ _ (pure (some Value.none)) _ _
    refine wpG_pure (wpG_ite_false rfl (wpG_pure ?_))
    exact fin h1 (by rw [e0]; exact hD1) hs1
end
end BA
end Mine
end

/- Ba3 -/
section
open PySem PySem.W PySem.Spec PySem.Calls PyProof.Rows PyProof.V
set_option Elab.async false
set_option maxRecDepth 100000
namespace Mine
theorem reset_Ba3 {M : PySem.Model} {A : PySem.Around} {Q : PySem.Flow → PySem.Shared → Prop} {E : PySem.Value → PySem.Shared → Prop} {s : PySem.Shared} {env : PySem.Env} (h : Q .next s) : PySem.wpAny M A (PySem.execs [] env) Q E s := by
  w_top off
  first | (walk1; exact h) | exact PySem.wpAny_execs_nil h
namespace BA
theorem slot_set : Slot "bytearray" "__setitem__" "bytearray.__setitem__" :=
  .of (owner := "bytearray") (n := "__setitem__") (by rw [typeLookup_type, builtinLookup_eq_fast]; kernel_rfl) (by decide +kernel) (by decide +kernel) (by decide +kernel)
    (by first | exact .inl (by decide +kernel) | exact .inr (by decide +kernel)) (by rw [isSubtype_type]; kernel_rfl)
theorem entry_set : entryFor table "bytearray.__setitem__" = some Builtin.«bytearray.__setitem__» := by first | exact entryFor_of_fast (by kernel_rfl) | exact entryFor_of_tree (by kernel_rfl)
theorem args_set (a b c : Value) : argsOk "bytearray.__setitem__" ⟨[a, b, c], []⟩ := by
  unfold argsOk; rw [signature?_of (id := "bytearray.__setitem__") (n := ['_', '_', 'm', 'e', 't', 'i', 't', 'e', 's', '_', '_']) (o := ['y', 'a', 'r', 'r', 'a', 'e', 't', 'y', 'b']) (by kernel_rfl) owner_ba]; kernel_rfl
section
variable {prog : Program} {w : World} {A : Around} {E : Value → Shared → Prop} {s : Shared} {a : Addr} {b : Array UInt8}
theorem typeIs (ho : s.heap.get? a = some { cls := .type "bytearray", data := .bytearray b }) : s.TypeIs (.ref a) "bytearray" := ⟨_, ho, rfl⟩
theorem payload_any {M : Model} {Q : Array UInt8 → Shared → Prop} (ho : s.heap.get? a = some { cls := .type "bytearray", data := .bytearray b }) (h : Q b s) : wpAny M A (Builtin.Bytes.payload (.ref a)) Q E s := by
  unfold Builtin.Bytes.payload Builtin.Bytes.payload?
  refine wpAny_bind (wpAny_bind (wpAny_load ho ?_))
  exact wpAny_pure (wpAny_pure h)
theorem set_any {k v : Int} {t u : Tok} {Q : Unit → Shared → Prop} (ho : s.heap.get? a = some { cls := .type "bytearray", data := .bytearray b }) (h0 : 0 ≤ k) (hk : k < (b.size : Int)) (hb : b.size ≤ 1000) (hv0 : 0 ≤ v) (hv : v < 256)
    (h : ∀ h' : Heap, h'.get? a = some { cls := .type "bytearray", data := .bytearray (b.setIfInBounds k.toNat v.toNat.toUInt8) } → Heap.SameBut a s.heap h' → Q () { s with heap := h' }) :
    wpAny (model prog w) A (setItem (.ref a) (.int k t) (.int v u)) Q E s := by
  have hT := typeIs ho
  unfold setItem
  try with_reducible refine wpAny_holding ?_
  refine wpAny_bind (wpAny_sequenceKey hT (by decide) ?_)
  refine wpAny_bind (wpAny_callSpecial?_slot (name := Str.ofString "__setitem__") hT slot_set
    (wpAny_call_entry slot_set hT entry_set ?_ (args_set _ _ _)))
  unfold Builtin.«bytearray.__setitem__»
  refine bm_if_false rfl ?_
  dsimp only
  refine wpAny_bind ?_
  unfold Builtin.Bytes.subscript?
  refine wpAny_bind (wpAny_specialOf (typeIs_int _ _ _) PySem.F.slot_int_index.lookup ?_)
  refine bm_if_false rfl ?_
  refine wpAny_bind (wpAny_of_eq (a := k) rfl ?_)
  refine bm_if_false (by simp only [Builtin.Bytes.fitsIndex, Bool.not_eq_false', Bool.and_eq_true, decide_eq_true_eq]; lia) ?_
  refine wpAny_pure ?_
  dsimp only
  refine wpAny_bind ?_
  unfold Builtin.Bytes.byteValue
  refine wpAny_bind (wpAny_of_eq (a := v) rfl ?_)
  refine bm_if_false (by simp only [Bool.or_eq_false_iff, decide_eq_false_iff_not]; lia) ?_
  refine wpAny_pure ?_
  refine wpAny_bind (payload_any ho ?_)
  have e : seqIndex? k b.size = some k.toNat := by
    have hn : ¬ k < 0 := by lia
    simp [seqIndex?, hn, h0, hk]
  rw [e]
  dsimp only
  refine wpAny_bind (write_any ho (by rw [Array.size_setIfInBounds]; lia) fun h1 e1 e2 => ?_)
  exact wpAny_pure ⟨_, rfl, wpAny_pure (h _ e1 e2)⟩
end
theorem no_bytes : typeLookup (.type "bytearray") "__bytes__" = pure none := by rw [typeLookup_type, builtinLookup_eq_fast]; kernel_rfl
theorem noIndexB : typeLookup (.type "bytearray") "__index__" = pure none := by rw [typeLookup_type, builtinLookup_eq_fast]; kernel_rfl
theorem lk_buffer : typeLookup (.type "bytearray") "__buffer__" = pure (some (.builtin "bytearray.__buffer__")) := by rw [typeLookup_type, builtinLookup_eq_fast]; kernel_rfl
section
variable {prog : Program} {w : World} {A : Around} {E : Value → Shared → Prop} {s : Shared} {a : Addr} {b : Array UInt8}
theorem own_any {M : Model} {Q : Bool → Shared → Prop} (hT : s.TypeIs (.ref a) "bytearray") (hq : Q false s) : wpAny M A (Builtin.Bytes.ownRelease (.ref a)) Q E s := by
  unfold Builtin.Bytes.ownRelease Builtin.Bytes.slotIsOwn
  refine wpAny_bind (wpAny_bind (wpAny_specialOf hT lk_release ?_))
  dsimp only
  refine bm_if_false (by decide +kernel) ?_
  have e : "bytearray.__release_buffer__".dropRight ("__release_buffer__".length + 1) = "bytearray" := by decide +kernel
  rw [e]
  exact wpAny_isInstance hT sub_self (wpAny_pure hq)
theorem buffer_any {M : Model} {id : String} {Q : Option (Array UInt8) → Shared → Prop} (ho : s.heap.get? a = some { cls := .type "bytearray", data := .bytearray b }) (hq : Q (some b) s) : wpAny M A (Builtin.Bytes.buffer? id (.ref a) true) Q E s := by
  have hT := typeIs ho
  unfold Builtin.Bytes.buffer?
  refine wpAny_bind (wpAny_specialOf hT lk_buffer ?_)
  dsimp only
  refine wpAny_bind ?_
  unfold Builtin.Bytes.slotIsOwn
  refine wpAny_bind (wpAny_specialOf hT lk_buffer ?_)
  dsimp only
  refine bm_if_false (by decide +kernel) ?_
  have e : "bytearray.__buffer__".dropRight ("__buffer__".length + 1) = "bytearray" := by decide +kernel
  rw [e]
  refine wpAny_isInstance hT sub_self ?_
  refine bm_if_false rfl ?_
  refine wpAny_bind (wpAny_specialOf hT lk_buffer ?_)
  try dsimp only
  refine wpAny_bind (own_any hT ?_)
  refine bm_if_false rfl ?_
  exact wpAny_bind (payload_any ho (wpAny_pure hq))
theorem bytes_new {Q : Value → Shared → Prop} (ho : s.heap.get? a = some { cls := .type "bytearray", data := .bytearray b }) (hz : b.size ≤ 1000)
    (hQ : ∀ t k, Q (.bytes b t) { s with toks := k }) :
    codeAny (model prog w) A (.call (.builtin "bytes.__new__") ⟨[.type "bytes", .ref a], []⟩) (wants Q E) s := by
  refine codeAny_of_tree ?_
  show wpAny _ A.in1 (do checkBuiltinCall "bytes.__new__" ⟨[.type "bytes", .ref a], []⟩; again (.builtin "bytes.__new__" ⟨[.type "bytes", .ref a], []⟩)) _ _ s
  refine wpAny_bind (wpAny_of_eq (PySem.F.bm_newCall _) (wpAny_pure ⟨plainId_quiet PySem.F.bm_plain _, codeAny_builtin PySem.F.bm_entry ?_⟩))
  rw [Around.under_plainId PySem.F.bm_plain _]
  have hT := typeIs ho
  unfold Builtin.«bytes.__new__»
  refine wpAny_bind (wpAny_of_eq (a := true) rfl ?_)
  refine bm_if_false rfl ?_
  refine wpAny_bind (wpAny_of_eq PySem.F.bm_sub ?_)
  refine bm_if_false rfl ?_
  refine wpAny_bind (wpAny_of_eq (PySem.F.bm_bind _) ?_)
  refine wpAny_bind (wpAny_of_eq (a := ()) rfl ?_)
  refine wpAny_bind (wpAny_of_eq (a := ()) rfl ?_)
  refine bm_if_false rfl ?_
  refine wpAny_bind (wpAny_specialOf hT no_bytes ?_)
  refine wpAny_bind (wpAny_bind ?_)
  show wpAny _ _ (load a >>= _) _ _ _
  refine wpAny_bind (wpAny_load ho ?_)
  refine wpAny_pure (wpAny_pure ?_)
  refine bm_if_false rfl ?_
  refine wpAny_bind (wpAny_specialOf hT noIndexB ?_)
  refine bm_if_true rfl ?_
  first
    | show wpAny _ _ (Builtin.Bytes.buffer? "bytes.__new__" (.ref a) true >>= _) _ _ _
    | (refine wpAny_bind ?_; show wpAny _ _ (Builtin.Bytes.buffer? "bytes.__new__" (.ref a) true >>= _) _ _ _)
  refine wpAny_bind (buffer_any ho ?_)
  dsimp only
  refine wpAny_bind (wpAny_rule ?_)
  refine wpAny_bind (wpAny_mkBytes ?_ (by rw [sizeLine_eq]; lia))
  show wpAny _ _ (if (Value.type "bytes" == Value.type "bytes") = true then _ else _) _ _ _
  refine bm_if_true (by decide) ?_
  first
    | exact wpAny_pure (hQ _ _)
    | exact wpAny_bind (wpAny_pure (wpAny_pure (hQ _ _)))
theorem bytes_any {Q : Value → Shared → Prop} (ho : s.heap.get? a = some { cls := .type "bytearray", data := .bytearray b }) (hz : b.size ≤ 1000)
    (hQ : ∀ t k, Q (.bytes b t) { s with toks := k }) : wpAny (model prog w) A (call (.type "bytes") [.ref a]) Q E s := by
  refine callType_codes (Q₁ := fun obj s₁ => s₁.TypeIs obj "bytes" ∧ Q obj s₁) PySem.F.bm_called (PySem.F.bm_typeCall _) PySem.F.entry_object_init
    (bytes_new ho hz fun t k => ⟨PySem.W.typeIs_bytes _ _ _, hQ t k⟩) fun obj s₁ h₁ => ?_
  exact ⟨h₁.1, PySem.F.args_object_init_2 obj _, object_init_meets PySem.F.bm_called.init.lookup PySem.F.bm_called.made (by decide) prog w A.in1 _ s₁ ⟨h₁.1, rfl, h₁.2⟩⟩
end
end BA
end Mine
end

/- H3 -/
section
open PySem PySem.W PySem.Spec PySem.Calls PyProof.Rows PyProof.V
set_option Elab.async false
set_option maxRecDepth 100000
namespace Mine
theorem reset_H3 {M : PySem.Model} {A : PySem.Around} {Q : PySem.Flow → PySem.Shared → Prop} {E : PySem.Value → PySem.Shared → Prop} {s : PySem.Shared} {env : PySem.Env} (h : Q .next s) : PySem.wpAny M A (PySem.execs [] env) Q E s := by
  w_top off
  first | (walk1; exact h) | exact PySem.wpAny_execs_nil h
noncomputable def baObj (b : Array UInt8) : Obj := { cls := .type "bytearray", data := .bytearray b }
section
variable {prog : Program} {w : World} {A : Around} {E : Value → Shared → Prop} {s : Shared} {h₀ : Heap} {L D : Addr} {m : Str → Option Value} {news : List (Addr × Obj)} {b : Array UInt8}
theorem ba_new_K {n : Int} {t : Tok} {Q : Value → Shared → Prop} (hn : 0 ≤ n) (hn' : n ≤ 1000) (F : Fr h₀ L s.heap m) (N : News h₀ L s.heap news)
    (h : ∀ D h', Fr h₀ L h' m → News h₀ L h' ((D, baObj (Array.replicate n.toNat 0)) :: news) → (∀ p ∈ news, p.1 < D) → Q (.ref D) { s with heap := h' }) :
    wpG (model prog w) A (call (.type "bytearray") [.int n t]) Q s := by
  refine BA.call_G hn hn' fun h' e k => h s.heap.objs.size h' ⟨F.ns.at' (k _), fun b o e => k b o (F.keep b o e), F.above⟩ (fun p hp => ?_) fun p hp => Heap.lt_size (N p hp).1
  rcases List.mem_cons.mp hp with rfl | hp
  · refine ⟨e, Nat.ne_of_gt F.ns.lt, ?_⟩
    cases hq : h₀.get? s.heap.objs.size with
    | none => rfl
    | some o' => exact absurd (Heap.lt_size (F.keep _ _ hq)) (Nat.lt_irrefl _)
  · exact ⟨k _ _ (N p hp).1, (N p hp).2⟩
theorem ba_set_K {k v : Int} {t u : Tok} {Q : Unit → Shared → Prop} (F : Fr h₀ L s.heap m) (N : News h₀ L s.heap ((D, baObj b) :: news)) (off : ∀ p ∈ news, p.1 ≠ D) (h0 : 0 ≤ k) (hk : k < (b.size : Int)) (hb : b.size ≤ 1000) (hv0 : 0 ≤ v) (hv : v < 256)
    (h : ∀ h', Fr h₀ L h' m → News h₀ L h' ((D, baObj (b.setIfInBounds k.toNat v.toNat.toUInt8)) :: news) → Q () { s with heap := h' }) :
    wpAny (model prog w) A (setItem (.ref D) (.int k t) (.int v u)) Q E s := by
  have z := N (D, baObj b) (.head _)
  refine BA.set_any z.1 h0 hk hb hv0 hv fun h' e hs => h h' (F.change hs z.2.1 z.2.2) ?_
  have := news_set (pre := []) (post := news) N (fun _ hp => nomatch hp) off hs e
  exact this
theorem ba_bytes_K {Q : Value → Shared → Prop} (N : News h₀ L s.heap ((D, baObj b) :: news)) (hb : b.size ≤ 1000) (h : ∀ t k, Q (.bytes b t) { s with toks := k }) :
    wpAny (model prog w) A (call (.type "bytes") [.ref D]) Q E s := BA.bytes_any (N _ (.head _)).1 hb h
end
noncomputable def revChunks (d : List UInt8) (w : Nat) : Nat → List UInt8
  | 0 => []
  | i + 1 => revChunks d w i ++ ((d.drop (i * w)).take w).reverse
noncomputable def stIn (d : List UInt8) (w q i j : Nat) : List UInt8 := revChunks d w i ++ (List.replicate (w - j) 0 ++ ((d.drop (i * w)).take j).reverse) ++ List.replicate ((q - i - 1) * w) 0
noncomputable def stOut (d : List UInt8) (w q i : Nat) : List UInt8 := revChunks d w i ++ List.replicate ((q - i) * w) 0
theorem revChunks_length {d : List UInt8} {w q : Nat} (hd : d.length = q * w) : ∀ i, i ≤ q → (revChunks d w i).length = i * w
  | 0, _ => by simp [revChunks]
  | i + 1, h => by
    have ih := revChunks_length hd i (by lia)
    have : (i + 1) * w ≤ q * w := Nat.mul_le_mul_right _ h
    rw [Nat.add_mul, Nat.one_mul] at this
    simp only [revChunks, List.length_append, List.length_reverse, List.length_take, List.length_drop, ih, Nat.add_mul, Nat.one_mul]
    lia
theorem out_in {d : List UInt8} {w q i : Nat} (hi : i < q) : stOut d w q i = stIn d w q i 0 := by
  have e : (q - i) * w = w + (q - i - 1) * w := by
    have : q - i = (q - i - 1) + 1 := by lia
    rw [this, Nat.add_mul, Nat.one_mul, Nat.add_sub_cancel]
    lia
  rw [stOut, stIn, e, ← List.replicate_append_replicate]
  simp only [Nat.sub_zero, List.take_zero, List.reverse_nil, List.append_nil, List.append_assoc]
theorem in_out {d : List UInt8} {w q i : Nat} : stIn d w q i w = stOut d w q (i + 1) := by
  simp only [stOut, stIn, revChunks, Nat.sub_self, List.replicate_zero, List.nil_append, Nat.sub_sub]
theorem set_step {d : List UInt8} {w q i j : Nat} (hd : d.length = q * w) (hi : i < q) (hj : j < w) : (stIn d w q i j).set (i * w + w - 1 - j) (d.getD (i * w + j) 0) = stIn d w q i (j + 1) := by
  have hl := revChunks_length hd i (by lia)
  have hle : (i + 1) * w ≤ q * w := Nat.mul_le_mul_right _ hi
  rw [Nat.add_mul, Nat.one_mul] at hle
  unfold stIn
  rw [List.append_assoc, List.set_append_right _ _ (by lia), hl]
  have e1 : i * w + w - 1 - j - i * w = w - j - 1 := by lia
  have e2 : w - j = (w - (j + 1)) + 1 := by lia
  have ex : (List.take (j + 1) (List.drop (i * w) d)) = List.take j (List.drop (i * w) d) ++ [d.getD (i * w + j) 0] := by
    have hlt : i * w + j < d.length := by lia
    rw [List.take_add_one, List.getElem?_drop, List.getElem?_eq_getElem hlt]
    simp [List.getD, List.getElem?_eq_getElem hlt]
  rw [e1, ex, List.append_assoc, List.append_assoc, List.append_assoc]
  congr 1
  rw [List.set_append_left _ _ (by rw [List.length_replicate]; lia), List.reverse_append]
  have e3 : (List.replicate (w - j) (0 : UInt8)).set (w - j - 1) (d.getD (i * w + j) 0) = List.replicate (w - (j + 1)) 0 ++ [d.getD (i * w + j) 0] := by
    rw [e2, Nat.add_sub_cancel, List.replicate_succ']
    rw [List.set_append_right _ _ (by rw [List.length_replicate]; lia), List.length_replicate, Nat.sub_self]
    rfl
  rw [e3]
  simp
end Mine
end

/- Acc -/
section
open PySem PySem.W PySem.Spec PySem.Calls PyProof.Rows PyProof.V
set_option Elab.async false
set_option maxRecDepth 100000
namespace Mine
theorem reset_Acc {M : PySem.Model} {A : PySem.Around} {Q : PySem.Flow → PySem.Shared → Prop} {E : PySem.Value → PySem.Shared → Prop} {s : PySem.Shared} {env : PySem.Env} (h : Q .next s) : PySem.wpAny M A (PySem.execs [] env) Q E s := by
  w_top off
  first | (walk1; exact h) | exact PySem.wpAny_execs_nil h
/-- an object of a class over list -/
noncomputable abbrev subObj (C dx : Addr) (xs : List Value) (n : Nat) : Obj := { cls := .ref C, dict := some dx, data := .seq xs.toArray n }
structure LMakes (M : Model) (h : Heap) (C : Addr) : Prop where
  obj : ∃ oc od cd sl, h.get? C = some ⟨oc, od, .cls cd, sl⟩ ∧ cd.abstract = false ∧ cd.hasDel = false ∧ cd.mro.isEmpty = false
  made : Looks M h (Bind.madeBy (.ref C)) (some "list.__new__")
  base : Looks M h (Bind.staticBase (.ref C)) (.ref C)
  self : Looks M h (isSubtype (.ref C) (.ref C)) true
  top : Looks M h (isSubtype (.ref C) (.type "list")) true
  call : Looks M h (specialOf (.ref C) "__call__") (some (.builtin "type.__call__"))
  typ : Looks M h (isInstance (.ref C) (.type "type")) true
theorem lmakes_of {K : Frag} {M : Model} {h : Heap} (X : K.In h) {C : Addr} {oc : Value} {od : Option Addr} {cd : ClassData} {sl : Array (Option Value)} (ho : K.lookup C = some ⟨oc, od, .cls cd, sl⟩)
    (e1 : cd.abstract = false) (e2 : cd.hasDel = false) (e3 : (sl.toList[4]?).join = some (.builtin "list.__new__")) (e4 : cd.mro.isEmpty = false) (e5 : cd.mro.contains (.ref C) = true) (e6 : cd.mro.contains (.type "list") = true)
    (e7 : specialIn K (.ref C) "__call__" = some (some (.builtin "type.__call__"))) (e8 : instIn K (.ref C) (.type "type") = some true) : LMakes M h C := by
  have hc : clsIn K C = some cd := by unfold clsIn; rw [ho]
  have hm : Looks M h (mroOf (.ref C)) cd.mro := (looks_clsIn X hc).andThen .now
  obtain ⟨c, l, hl⟩ : ∃ c l, cd.mro = c :: l := by cases q : cd.mro with | nil => rw [q] at e4; cases e4 | cons c l => exact ⟨c, l, rfl⟩
  have made : Looks M h (Bind.madeBy (.ref C)) (some "list.__new__") := by
    intro A Q E s k q
    unfold Bind.madeBy
    refine wpAny_bind (hm A _ E s k ?_)
    rw [hl, List.forIn_cons]
    refine wpAny_bind (wpAny_bind (wpAny_bind (wpAny_bind (wpAny_loadPart (k _ _ (X _ _ ho)) (wpAny_pure ?_)))))
    dsimp only
    rw [← Array.getElem?_toList, e3]
    exact wpAny_pure (wpAny_pure (wpAny_pure q))
  refine ⟨⟨oc, od, cd, sl, X _ _ ho, e1, e2, e4⟩, made, ?_, looks_mroIn X ?_, looks_mroIn X ?_, looks_specialIn X e7, looks_instIn X e8⟩
  · intro A Q E s k q
    unfold Bind.staticBase
    refine wpAny_bind (hm A _ E s k ?_)
    rw [hl, List.forIn_cons]
    exact wpAny_bind (wpAny_bind (wpAny_bind (made A _ E s k (wpAny_pure (wpAny_pure (wpAny_pure q))))))
  · unfold mroIn; rw [hc, Option.bind_some, if_neg (by rw [e4]; decide), e5]
  · unfold mroIn; rw [hc, Option.bind_some, if_neg (by rw [e4]; decide), e6]

section
variable {prog : Program} {w : World} {A : Around} {C : Addr} {R : Result → Shared → Prop} {h : Heap} {g : Array GenState} {d : Drawn} {t : Nat} {os : OsState}
theorem new_L {rest : List Value} {kw : List (Str × Value)} (Y : LMakes (model prog w) h C)
    (hq : R (.ok (.ret (.ref (h.objs.size + 1)))) ⟨(h.push emptyDict).push (subObj C h.objs.size [] 0), g, d, t, os⟩) :
    codeAny (model prog w) A (.call (.builtin "list.__new__") ⟨.ref C :: rest, kw⟩) R ⟨h, g, d, t, os⟩ := by
  obtain ⟨⟨oc, od, cd, sl, hC, e1, e2, e4⟩, made, base, self, top, call, typ⟩ := Y
  refine codeAny_of_tree ?_
  show wpAny _ A.in1 (do checkBuiltinCall "list.__new__" ⟨.ref C :: rest, kw⟩; again (.builtin "list.__new__" ⟨.ref C :: rest, kw⟩)) _ _ _
  have k1 : builtinKind "list.__new__" = some .builtinFn := by decide +kernel
  have k2 : splitId "list.__new__" = some ("list", "__new__") := by decide +kernel
  have k3 : Manifest.signature? "list.__new__" = some ⟨.any, "list", "list", .cls, [{ name := "args", kind := .varPos, required := false }, { name := "kwargs", kind := .varKw, required := false }]⟩ := by
    rw [signature?_of (id := "list.__new__") (n := ['_', '_', 'w', 'e', 'n', '_', '_']) (o := ['t', 's', 'i', 'l']) (by kernel_rfl) (show Manifest.owners.lookup (String.ofList ['t', 's', 'i', 'l'].reverse) = some Manifest.sig_list by kernel_rfl)]; kernel_rfl
  have can : (Manifest.canonical "list.__new__" != Manifest.canonical "list.__new__") = false := by simp
  refine wpAny_bind ?_
  simp only [checkBuiltinCall, k1, k2, k3]
  have args : Bind.checkArgs "list.__new__" ⟨.any, "list", "list", .cls, [{ name := "args", kind := .varPos, required := false }, { name := "kwargs", kind := .varKw, required := false }]⟩ ⟨.ref C :: rest, kw⟩ = pure () := by kernel_rfl
  rw [if_pos (by rfl)]
  unfold isType
  repeat (first | simp only [bne_self_eq_false, Bool.false_eq_true, if_false] | lk)
  refine ⟨plainId_quiet PySem.F.plain_list_new _, codeAny_builtin_stack PySem.F.entry_list_new rfl fun p st => ?_⟩
  have hown := owner_list_new
  simp only [hown]
  unfold isType
  repeat (first | simp only [bne_self_eq_false, Bool.false_eq_true, if_false, Bool.not_true] | lk)
  refine wpAny_load (a := C) (Heap.get?_push_of_some _ (Heap.get?_push_of_some _ hC)) (wpAny_pure ?_)
  rw [e2]
  refine wpAny_pure (wpAny_pure ?_)
  show R _ _
  rw [Heap.size_push]
  exact hq
theorem make_L {rest : List Value} {kw : List (Str × Value)} {init : Value} (Y : LMakes (model prog w) h C) (hi : Looks (model prog w) h (typeLookup (.ref C) "__init__") (some init))
    (hb : ∀ self, Looks (model prog w) h (bindSpecial init self) (init, [self]))
    (hq : codeAny (model prog w) (A.under (.builtin "type.__call__" ⟨.ref C :: rest, kw⟩)) (.call init ⟨.ref (h.objs.size + 1) :: rest, kw⟩) (InitBack (h.objs.size + 1) R) ⟨(h.push emptyDict).push (subObj C h.objs.size [] 0), g, d, t, os⟩) :
    codeAny (model prog w) A (.call (.ref C) ⟨rest, kw⟩) R ⟨h, g, d, t, os⟩ := by
  have Y' := Y
  obtain ⟨⟨oc, od, cd, sl, hC, e1, e2, e4⟩, made, base, self, top, call, typ⟩ := Y
  refine codeAny_of_tree ?_
  show wpAny _ _ (callAny (.ref C) _) _ _ _
  refine nd_load hC ?_
  show wpAny _ _ (callAny.viaDunder (.ref C) _) _ _ _
  unfold callAny.viaDunder
  refine wpAny_bind (call.at ?_)
  dsimp only
  rw [tc_bind]
  refine wpAny_bind (wpAny_pure (wpAny_bind (wpAny_pure ?_)))
  refine wpAny_pure (a := Fin.again (.call (.builtin "type.__call__") ⟨.ref C :: rest, kw⟩)) (And.intro rfl ?_)
  refine codeAny_call_builtin_at (Code.quiet_builtin _ (by decide +kernel)) entry_typeCall (check_slot tc_kind tc_split typ (tc_args _ _ _) ?_)
  unfold Builtin.«type.__call__»
  have hm : Looks (model prog w) h (mroOf (.ref C)) cd.mro := ((Looks.ld (part := none) hC).andThen .now).andThen .now
  repeat (first | simp only [e4, Bool.false_eq_true, if_false] | with_reducible refine wpAny_call ?_ | lk)
  refine new_L Y' ?_
  have k : ∀ b o, h.get? b = some o → ((h.push emptyDict).push (subObj C h.objs.size [] 0)).get? b = some o := fun b o e => Heap.get?_push_of_some _ (Heap.get?_push_of_some _ e)
  have hx : ((h.push emptyDict).push (subObj C h.objs.size [] 0)).get? (h.objs.size + 1) = some (subObj C h.objs.size [] 0) := by
    have := Heap.get?_push_size (h := h.push emptyDict) (o := subObj C h.objs.size [] 0) rfl
    rwa [Heap.size_push] at this
  have t1 : Looks (model prog w) ((h.push emptyDict).push (subObj C h.objs.size [] 0)) (typeOf (.ref (h.objs.size + 1))) (.ref C) := (Looks.ld hx).andThen .now
  have s1 := self.keeps k
  have i1 := hi.keeps k
  have b1 := (hb (.ref (h.objs.size + 1))).keeps k
  unfold isInstance callSpecial? specialOf
  repeat (first | with_reducible refine wpAny_call ?_ | lk)
  refine codeAny_mono hq fun r s' z => ?_
  rcases r with e | (v | _ | _ | _) <;> first | exact z | exact z.elim | skip
  obtain ⟨rfl, z⟩ := z
  exact wpAny_pure (wpAny_pure z)
end
section
variable {prog : Program} {w : World} {A : Around} {K : Frag} {C : Addr} {s : Shared} {h₀ : Heap} {L : Addr} {m : Str → Option Value} {news : List (Addr × Obj)} {E : Value → Shared → Prop} {Q : Value → Shared → Prop}
theorem call_L {pos : List Value} {kw : List (Str × Value)} {fI : Addr} (F : Fr h₀ L s.heap m) (N : News h₀ L s.heap news) (X : K.In h₀) (Y : LMakes (model prog w) s.heap C)
    (hi : findIn K (.ref C) "__init__" = some (some (.ref fI))) (hf : isFn K (.ref fI) = true)
    (h : ∀ x dx h', Fr h₀ L h' m → News h₀ L h' ((x, subObj C dx [] 0) :: (dx, dictOf [] 0) :: news) → (∀ p ∈ news, p.1 < dx) → dx < x →
      codeAny (model prog w) (A.under (.builtin "type.__call__" ⟨.ref C :: pos, kw⟩)) (.call (.ref fI) ⟨.ref x :: pos, kw⟩) (InitBack x fun r s' => match r with | .ok (.ret v) => Q v s' | .ok _ => False | .error e => E e s') { s with heap := h' }) :
    wpAny (model prog w) A (call (.ref C) pos kw) Q E s := by
  refine wpAny_call ?_
  have XS := X.keeps F.keep
  obtain ⟨hh, g, d, t, os⟩ := s
  refine make_L Y (looks_findIn XS hi) (fun self => bind_fn XS self (beq_iff_eq.mp hf)) (h _ hh.objs.size _ ((F.push _).push _) ?_ (fun p hp => Heap.lt_size (N p hp).1) (Nat.lt_succ_self _))
  have := (N.push F emptyDict).push (F.push _) (subObj C hh.objs.size [] 0)
  rwa [Heap.size_push] at this
end
end Mine
end

/- Su -/
section
open PySem PySem.W PySem.Spec PySem.Calls PyProof.Rows PyProof.V
set_option Elab.async false
set_option maxRecDepth 100000
namespace Mine
theorem reset_Su {M : PySem.Model} {A : PySem.Around} {Q : PySem.Flow → PySem.Shared → Prop} {E : PySem.Value → PySem.Shared → Prop} {s : PySem.Shared} {env : PySem.Env} (h : Q .next s) : PySem.wpAny M A (PySem.execs [] env) Q E s := by
  w_top off
  first | (walk1; exact h) | exact PySem.wpAny_execs_nil h
/-- a builtin bound to an object, as super() hands it out -/
noncomputable abbrev bbObj (B : String) (id : String) (x : Addr) : Obj := { cls := .type B, dict := none, data := .fields #[.builtin id, .ref x], slots := #[] }
theorem slot_md_get : Slot "method_descriptor" "__get__" "method_descriptor.__get__" := .of (owner := "method_descriptor") (n := "__get__") (by rw [typeLookup_type, builtinLookup_eq_fast]; kernel_rfl) (by decide +kernel) (by decide +kernel) (by decide +kernel)
  (by first | exact .inl (by decide +kernel) | exact .inr (by decide +kernel)) (by rw [isSubtype_type]; kernel_rfl)
theorem slot_wd_get : Slot "wrapper_descriptor" "__get__" "wrapper_descriptor.__get__" := .of (owner := "wrapper_descriptor") (n := "__get__") (by rw [typeLookup_type, builtinLookup_eq_fast]; kernel_rfl) (by decide +kernel) (by decide +kernel) (by decide +kernel)
  (by first | exact .inl (by decide +kernel) | exact .inr (by decide +kernel)) (by rw [isSubtype_type]; kernel_rfl)
theorem entry_md_get : entryFor table "method_descriptor.__get__" = some Builtin.«method_descriptor.__get__» := entryFor_of_tree (by kernel_rfl)
theorem entry_wd_get : entryFor table "wrapper_descriptor.__get__" = some Builtin.«wrapper_descriptor.__get__» := entryFor_of_tree (by kernel_rfl)
theorem args_md (a b c : Value) : argsOk "method_descriptor.__get__" ⟨[a, b, c], []⟩ := by unfold argsOk; kernel_rfl
theorem args_wd (a b c : Value) : argsOk "wrapper_descriptor.__get__" ⟨[a, b, c], []⟩ := by unfold argsOk; kernel_rfl
section
variable {prog : Program} {w : World} {M : Model} {A : Around} {E : Value → Shared → Prop} {h : Heap} {g : Array GenState} {d : Drawn} {t : Nat} {os : OsState}
/-- the __get__ of the descriptor i of list, for an object of a subclass -/
structure GetsB (prog : Program) (w : World) (h : Heap) (x C : Addr) (id TD B gid : String) (G : Builtin) : Prop where
  type : typeOf (.builtin id) = pure (.type TD)
  slot : Slot TD "__get__" gid
  entry : entryFor table gid = some G
  args : ∀ a b c, argsOk gid ⟨[a, b, c], []⟩
  gives : ∀ (A : Around) (E : Value → Shared → Prop) g d t os (Q : Fin → Shared → Prop), Q (.done (.ret (.ref h.objs.size))) ⟨h.push (bbObj B id x), g, d, t, os⟩ → wpAny (model prog w) A (G ⟨[.builtin id, .ref x, .ref C], []⟩) Q E ⟨h, g, d, t, os⟩
theorem cut_pop : (".".intercalate ("list.pop".cutAt '.').dropLast) = "list" := by decide +kernel
theorem cut_init : (".".intercalate ("list.__init__".cutAt '.').dropLast) = "list" := by decide +kernel
theorem cut_len : (".".intercalate ("list.__len__".cutAt '.').dropLast) = "list" := by decide +kernel
theorem newFields_at {T : String} {vs : List Value} {Q : Value → Shared → Prop} (hq : Q (.ref h.objs.size) ⟨h.push { cls := .type T, data := .fields vs.toArray }, g, d, t, os⟩) (hn : vs.length ≤ 100 := by decide) : wpAny M A (newFields T vs) Q E ⟨h, g, d, t, os⟩ := by
  unfold newFields
  exact wpAny_newObj_type hq (by have := hn; size_fits)
theorem gets_pop {x C : Addr} {ox : Obj} (hx : h.get? x = some ox) (hxc : ox.cls = .ref C) (hs : Looks (model prog w) h (isSubtype (.ref C) (.type "list")) true) :
    GetsB prog w h x C "list.pop" "method_descriptor" "builtin_function_or_method" "method_descriptor.__get__" Builtin.«method_descriptor.__get__» := by
  refine ⟨by kernel_rfl, slot_md_get, entry_md_get, args_md, fun A E g d t os Q hQ => ?_⟩
  unfold Builtin.«method_descriptor.__get__»
  (repeat (first | (with_reducible refine wpAny_loadPart_at hx ?_) | (rw [hxc, cut_pop]; (with_reducible refine Looks.at hs ?_)) | (with_reducible refine newFields_at ?_) | wp_step | dsimp only))
  all_goals exact hQ
theorem gets_init {x C : Addr} {ox : Obj} (hx : h.get? x = some ox) (hxc : ox.cls = .ref C) (hs : Looks (model prog w) h (isSubtype (.ref C) (.type "list")) true) :
    GetsB prog w h x C "list.__init__" "wrapper_descriptor" "method-wrapper" "wrapper_descriptor.__get__" Builtin.«wrapper_descriptor.__get__» := by
  refine ⟨by kernel_rfl, slot_wd_get, entry_wd_get, args_wd, fun A E g d t os Q hQ => ?_⟩
  unfold Builtin.«wrapper_descriptor.__get__»
  (repeat (first | (with_reducible refine wpAny_loadPart_at hx ?_) | (rw [hxc, cut_init]; (with_reducible refine Looks.at hs ?_)) | (with_reducible refine newFields_at ?_) | wp_step | dsimp only))
  all_goals exact hQ
theorem gets_len {x C : Addr} {ox : Obj} (hx : h.get? x = some ox) (hxc : ox.cls = .ref C) (hs : Looks (model prog w) h (isSubtype (.ref C) (.type "list")) true) :
    GetsB prog w h x C "list.__len__" "wrapper_descriptor" "method-wrapper" "wrapper_descriptor.__get__" Builtin.«wrapper_descriptor.__get__» := by
  refine ⟨by kernel_rfl, slot_wd_get, entry_wd_get, args_wd, fun A E g d t os Q hQ => ?_⟩
  unfold Builtin.«wrapper_descriptor.__get__»
  (repeat (first | (with_reducible refine wpAny_loadPart_at hx ?_) | (rw [hxc, cut_len]; (with_reducible refine Looks.at hs ?_)) | (with_reducible refine newFields_at ?_) | wp_step | dsimp only))
  all_goals exact hQ

theorem su_ga {so D x C : Addr} {id TD B gid : String} {G : Builtin} {l₀ l : List Value} {K : Frag} {name : Str} {tk : Tok} {Q : Fin → Shared → Prop}
    (hso : h.get? so = some { cls := .type "super", dict := none, data := .fields #[.ref D, .ref x, .ref C], slots := #[] }) (hno : Looks (model prog w) h (opaqueClassAbove (.ref C)) none)
    (hC : Looks (model prog w) h (mroOf (.ref C)) l₀) (hl : (l₀.dropWhile (· != .ref D)).drop 1 = l) (X : K.In h)
    (hf : alongIn K name l = some (some (.builtin id))) (Y : GetsB prog w h x C id TD B gid G) (hxC : x ≠ C) (hn : (name == ("__class__" : Str)) = false)
    (hq : Q (.done (.ret (.ref h.objs.size))) ⟨h.push (bbObj B id x), g, d, t, os⟩) :
    wpAny (model prog w) A (Builtin.«super.__getattribute__» ⟨[.ref so, .str name tk], []⟩) Q E ⟨h, g, d, t, os⟩ := by
  have hlk := Y.slot.lookup
  have hne : (Value.ref x == Value.ref C) = false := by simp [hxC]
  have hty := Y.type
  have hTf : (⟨h, g, d, t, os⟩ : Shared).TypeIs (.builtin id) TD := hty
  have hdt : ({ cls := .type "super", dict := none, data := .fields #[.ref D, .ref x, .ref C], slots := #[] } : Obj).data = .fields #[.ref D, .ref x, .ref C] := rfl
  have f0 : (#[.ref D, .ref x, .ref C] : Array Value)[0]? = some (.ref D) := rfl
  have f1 : (#[.ref D, .ref x, .ref C] : Array Value)[1]? = some (.ref x) := rfl
  have f2 : (#[.ref D, .ref x, .ref C] : Array Value)[2]? = some (.ref C) := rfl
  unfold Builtin.«super.__getattribute__»
  repeat (first
    | (with_reducible refine wpAny_field hso hdt f0 ?_) | (with_reducible refine wpAny_field hso hdt f1 ?_) | (with_reducible refine wpAny_field hso hdt f2 ?_)
    | (with_reducible refine ks_wpAny_notOpaque hno ?_)
    | (with_reducible refine Looks.at hC ?_; rw [hl])
    | (refine ks_forIn_along X (fun _ _ => rfl) rfl ?_ hf)
    | (with_reducible refine wpAny_of_eq hty (wpAny_pure ?_))
    | (with_reducible refine wpAny_call_entry Y.slot hTf Y.entry (Y.gives _ _ _ _ _ _ _ ?_) (Y.args _ _ _))
    | (with_reducible refine ⟨_, rfl, ?_⟩)
    | (simp only [hn, hne, Bool.or_false, Bool.false_eq_true, if_false])
    | wp_step
    | dsimp only)
  all_goals exact hq
end
end Mine
end

/- Su2 -/
section
open PySem PySem.W PySem.Spec PySem.Calls PyProof.Rows PyProof.V
set_option Elab.async false
set_option maxRecDepth 100000
namespace Mine
theorem reset_Su2 {M : PySem.Model} {A : PySem.Around} {Q : PySem.Flow → PySem.Shared → Prop} {E : PySem.Value → PySem.Shared → Prop} {s : PySem.Shared} {env : PySem.Env} (h : Q .next s) : PySem.wpAny M A (PySem.execs [] env) Q E s := by
  w_top off
  first | (walk1; exact h) | exact PySem.wpAny_execs_nil h
section
variable {prog : Program} {w : World} {M : Model} {A : Around} {E : Value → Shared → Prop} {h : Heap} {g : Array GenState} {d : Drawn} {t : Nat} {os : OsState}
theorem su_getMethod {so D x C : Addr} {id TD B gid : String} {G : Builtin} {l₀ l : List Value} {K : Frag} {name : Str} {pl : Sem Bool} {Q : Value × List Value → Shared → Prop}
    (hso : h.get? so = some { cls := .type "super", dict := none, data := .fields #[.ref D, .ref x, .ref C], slots := #[] }) (hno : Looks (model prog w) h (opaqueClassAbove (.ref C)) none)
    (hC : Looks (model prog w) h (mroOf (.ref C)) l₀) (hl : (l₀.dropWhile (· != .ref D)).drop 1 = l) (X : K.In h)
    (hf : alongIn K name l = some (some (.builtin id))) (Y : GetsB prog w h x C id TD B gid G) (hxC : x ≠ C) (hn : (name == ("__class__" : Str)) = false)
    (hq : Q (.ref h.objs.size, []) ⟨h.push (bbObj B id x), g, d, t + 1, os⟩) :
    wpAny (model prog w) A (getMethod (.ref so) name pl) Q E ⟨h, g, d, t, os⟩ := by
  have hlk := F.ks_slot_super_ga.lookup
  have hcan := F.ks_canon_super_ga
  have hT : ∀ t', (⟨h, g, d, t', os⟩ : Shared).TypeIs (.ref so) "super" := fun _ => ⟨_, hso, rfl⟩
  unfold getMethod
  refine wpAny_bind (wpAny_specialOf (hT _) hlk ?_)
  show wpAny _ _ (if (Manifest.canonical "super.__getattribute__" != "object.__getattribute__") = true then _ else _) _ _ _
  rw [if_pos hcan]
  unfold getAttr getAttrBy
  refine wpAny_bind (wpAny_bind (wpAny_mkText (wpAny_holding (wpAny_bind (wpAny_typeOf (hT _) (wpAny_bind (wpAny_of_eq hlk ?_)))))))
  show wpAny _ _ (getAttrByItsOwn (.ref so) (.str name t) (.type "super") (.builtin "super.__getattribute__") true false) _ _ _
  unfold getAttrByItsOwn hookBefore callGetattribute boundAndCalled
  refine wpAny_bind (wpAny_of_eq (show (if onTheHeap (.type "super") then typeLookup (.type "super") "__getattr__" else pure none) = pure none from rfl) ?_)
  refine wpAny_bind (wpAny_attempt (wpAny_holding ?_))
  show wpAny _ _ (bindSpecial (.builtin "super.__getattribute__") (.ref so) >>= _) _ _ _
  refine wpAny_bind (wpAny_of_eq (F.ks_slot_super_ga.bind _) ?_)
  refine wpAny_mono (Q := fun v s' => v = .ref h.objs.size ∧ s' = ⟨h.push (bbObj B id x), g, d, t + 1, os⟩) (E := fun _ _ => False)
    (wpAny_call_entry F.ks_slot_super_ga (hT _) F.ks_entry_super_ga (su_ga hso hno hC hl X hf Y hxC hn ⟨_, rfl, rfl, rfl⟩) (F.ks_gaArgs_super _ _)) (fun v s' hv => ?_) fun _ _ z => z.elim
  obtain ⟨rfl, rfl⟩ := hv
  exact wpAny_pure (wpAny_pure hq)

/-- an object of a class over list, as the checks of builtins see it -/
structure InstL (M : Model) (h : Heap) (x C : Addr) (ox : Obj) : Prop where
  at_ : h.get? x = some ox
  cls : ox.cls = .ref C
  no : ∀ c, ox.data ≠ .cls c
  sub : Looks M h (isSubtype (.ref C) (.type "list")) true
theorem InstL.isList {x C : Addr} {ox : Obj} (I : InstL M h x C ox) : Looks M h (isInstance (.ref x) (.type "list")) true := by
  intro A Q E s k q
  unfold isInstance
  refine wpAny_bind (wpAny_bind (wpAny_loadPart (k _ _ I.at_) (wpAny_pure ?_)))
  rw [I.cls]
  exact I.sub A _ E s k q
theorem check_list {x C : Addr} {ox : Obj} {id n : String} {rest : List Value} {Q : Unit → Shared → Prop} (I : InstL M h x C ox) (hk : builtinKind id = some .slot ∨ builtinKind id = some .method) (hs : splitId id = some ("list", n))
    (ha : argsOk id ⟨.ref x :: rest, []⟩) (q : Q () ⟨h, g, d, t, os⟩) : wpAny M A (checkBuiltinCall id ⟨.ref x :: rest, []⟩) Q E ⟨h, g, d, t, os⟩ := by
  rcases hk with hk | hk <;>
  · simp only [checkBuiltinCall, hk, hs]
    refine wpAny_bind (I.isList.here ?_)
    simp only [Bool.not_true, Bool.false_eq_true, if_false]
    cases hsig : Manifest.signature? id with
    | none => exact wpAny_pure q
    | some sig =>
      simp only [argsOk, hsig] at ha
      have h2 : Bind.checkArgs id sig ⟨.ref x :: rest, []⟩ = pure () := ha
      show wpAny M A (Bind.checkArgs id sig ⟨.ref x :: rest, []⟩) Q E _
      rw [h2]; exact wpAny_pure q
theorem bound_slot {x : Addr} {id : String} {Q : Unit → Shared → Prop} (hk : builtinKind id = some .slot)
    (ha : argsOk id ⟨[.ref x], []⟩) (q : Q () ⟨h, g, d, t, os⟩) : wpAny M A (checkBoundCall id ⟨[.ref x], []⟩) Q E ⟨h, g, d, t, os⟩ := by
  unfold checkBoundCall
  cases hsig : Manifest.signature? id with
  | none => exact wpAny_pure q
  | some sig =>
    simp only [argsOk, hsig] at ha
    have h2 : Bind.checkArgs id sig ⟨[.ref x], []⟩ = pure () := ha
    simp only [hk]
    show wpAny M A (Bind.checkArgs id sig ⟨[.ref x], []⟩) Q E _
    rw [h2]; exact wpAny_pure q
/-- a call of a bound slot of list -/
theorem call_bound_slot {x q : Addr} {id : String} {b : Builtin} {R : Result → Shared → Prop} (hq : h.get? q = some (bbObj "method-wrapper" id x)) (hk : builtinKind id = some .slot) (ha : argsOk id ⟨[.ref x], []⟩) (hp : plainId id = true)
    (hb : entryFor table id = some b)
    (hc : wpAny (model prog w) A.in1 (b ⟨[.ref x], []⟩) (fun fin s' => match fin with | .done f => R (.ok f) s' | .again c' => c'.quiet = true ∧ codeAny (model prog w) A c' R s') (fun e s' => R (.error e) s') ⟨h, g, d, t, os⟩) :
    codeAny (model prog w) A (.call (.ref q) ⟨[], []⟩) R ⟨h, g, d, t, os⟩ := by
  refine codeAny_of_tree ?_
  show wpAny _ _ (callAny (.ref q) _) _ _ _
  refine nd_load hq ?_
  show wpAny _ _ (checkBoundCall id ⟨[.ref x], []⟩ >>= fun _ => again (.builtin id ⟨[.ref x], []⟩)) _ _ _
  refine wpAny_bind (bound_slot hk ha (wpAny_pure (a := Fin.again (.builtin id ⟨[.ref x], []⟩)) (And.intro (plainId_quiet hp _) (codeAny_builtin hb ?_))))
  rw [Around.under_plainId hp _]
  exact hc
theorem call_bound_pop {x q C : Addr} {ox : Obj} {od : Option Addr} {cd : ClassData} {sl : Array (Option Value)} {R : Result → Shared → Prop} (I : InstL (model prog w) h x C ox) (hm : Looks (model prog w) h (isSubtype (.ref C) (.type "module")) false)
    (hC : h.get? C = some ⟨.type "type", od, .cls cd, sl⟩) (hck : Bind.checkArgs "list.pop" ⟨.positional, s!"{cd.qualname.toString}.{Bind.lastOf "list.pop"}", "pop", .self, [⟨"index", .posOnly, false⟩]⟩ ⟨[.ref x], []⟩ = pure ()) (hq : h.get? q = some (bbObj "builtin_function_or_method" "list.pop" x))
    (hc : wpAny (model prog w) A.in1 (Builtin.«list.pop» ⟨[.ref x], []⟩) (fun fin s' => match fin with | .done f => R (.ok f) s' | .again c' => c'.quiet = true ∧ codeAny (model prog w) A c' R s') (fun e s' => R (.error e) s') ⟨h, g, d, t, os⟩) :
    codeAny (model prog w) A (.call (.ref q) ⟨[], []⟩) R ⟨h, g, d, t, os⟩ := by
  refine codeAny_of_tree ?_
  show wpAny _ _ (callAny (.ref q) _) _ _ _
  refine nd_load hq ?_
  show wpAny _ _ (checkBoundCall "list.pop" ⟨[.ref x], []⟩ >>= fun _ => again (.builtin "list.pop" ⟨[.ref x], []⟩)) _ _ _
  have fin : codeAny (model prog w) A (.builtin "list.pop" ⟨[.ref x], []⟩) R ⟨h, g, d, t, os⟩ := by
    refine codeAny_builtin PySem.F.entry_list_pop ?_
    rw [Around.under_plainId (by decide +kernel) _]
    exact hc
  have k1 : builtinKind "list.pop" = some .method := by decide +kernel
  have k2 : Manifest.varargsMethods.contains "list.pop" = false := by decide +kernel
  have k3 : Manifest.signature? "list.pop" = some ⟨.positional, "list.pop", "pop", .self, [⟨"index", .posOnly, false⟩]⟩ := by
    rw [signature?_of (id := "list.pop") (n := ['p', 'o', 'p']) (o := ['t', 's', 'i', 'l']) (by kernel_rfl) PySem.F.owner_list]
    kernel_rfl
  have i1 := I.at_
  have i2 := I.cls
  have i3 := I.no
  unfold checkBoundCall
  simp only [k1, k3]
  unfold isInstance classData
  repeat (first | (with_reducible refine wpAny_loadPart_at i1 ?_) | (rw [i2]; (with_reducible refine Looks.at hm ?_)) | (with_reducible refine ks_wpAny_isType_inst i1 i3 ?_) | (rw [hck]) | (rw [k2]) | wp_step | dsimp only)
  simp only [i2]
  repeat (first | (with_reducible refine wpAny_load (a := C) hC ?_) | (with_reducible refine wpAny_loadPart_at hC ?_) | (rw [hck]) | wp_step | dsimp only)
  all_goals exact And.intro (plainId_quiet (by decide +kernel) _) fin
theorem kind_init : builtinKind "list.__init__" = some .slot := by decide +kernel
theorem kind_len : builtinKind "list.__len__" = some .slot := by decide +kernel
theorem kind_pop : builtinKind "list.pop" = some .method := by decide +kernel
theorem kind_append : builtinKind "list.append" = some .method := by decide +kernel
theorem plain_init : plainId "list.__init__" = true := by decide +kernel
theorem plain_len : plainId "list.__len__" = true := by decide +kernel
theorem plain_pop : plainId "list.pop" = true := by decide +kernel
theorem plain_append : plainId "list.append" = true := by decide +kernel
theorem args_init (a : Value) : argsOk "list.__init__" ⟨[a], []⟩ := by unfold argsOk; kernel_rfl
theorem args_len (a : Value) : argsOk "list.__len__" ⟨[a], []⟩ := by unfold argsOk; kernel_rfl
theorem args_append (a b : Value) : argsOk "list.append" ⟨[a, b], []⟩ := by unfold argsOk; kernel_rfl
theorem entry_init : entryFor table "list.__init__" = some Builtin.«list.__init__» := entryFor_of_tree (by kernel_rfl)
theorem entry_len : entryFor table "list.__len__" = some Builtin.«list.__len__» := entryFor_of_tree (by kernel_rfl)
theorem entry_append : entryFor table "list.append" = some Builtin.«list.append» := entryFor_of_tree (by kernel_rfl)
theorem upd_at {x : Addr} {C dx : Addr} {xs : List Value} {n : Nat} {f : Array Value → Array Value} (hx : h.get? x = some (subObj C dx xs n)) : ∃ n', (h.update x (Obj.mapSeq f)).get? x = some (subObj C dx (f xs.toArray).toList n') := by
  have h1 := ((Heap.get?_eq_some h x _).mp hx).1
  refine ⟨if (f xs.toArray).size == xs.toArray.size then n else n + 1, (Heap.get?_eq_some _ _ _).mpr ⟨?_, rfl⟩⟩
  rw [Heap.objs_update_self, h1]
  simp [Option.map, Obj.mapSeq, subObj]
theorem list_init_L {x C dx : Addr} {n : Nat} {Q : Fin → Shared → Prop} (hx : h.get? x = some (subObj C dx [] n))
    (hq : ∀ h' n', h'.get? x = some (subObj C dx [] n') → Heap.SameBut x h h' → Q (.done (.ret .none)) ⟨h', g, d, t, os⟩) :
    wpAny (model prog w) A (Builtin.«list.__init__» ⟨[.ref x], []⟩) Q E ⟨h, g, d, t, os⟩ := by
  unfold Builtin.«list.__init__»
  show wpAny _ _ (Builtin.List.listItems (.ref x) >>= fun old => Builtin.List.listUpdate (.ref x) (fun _ => #[]) >>= fun _ => letGo old.toList.reverse >>= fun _ => ret .none) _ _ _
  refine wpAny_bind (listItems_at hx rfl (wpAny_bind (listUpdate_at hx rfl ?_)))
  refine wpAny_bind (wpAny_pure (wpAny_pure ?_))
  obtain ⟨n', e⟩ := upd_at (f := fun _ => #[]) hx
  exact hq _ n' e (Heap.SameBut.update ..)
theorem list_len_L {x C dx : Addr} {xs : List Value} {n : Nat} {Q : Fin → Shared → Prop} (hx : h.get? x = some (subObj C dx xs n)) (hsz : xs.length ≤ 1000)
    (hq : ∀ t' k, Q (.done (.ret (.int xs.length t'))) ⟨h, g, d, k, os⟩) :
    wpAny (model prog w) A (Builtin.«list.__len__» ⟨[.ref x], []⟩) Q E ⟨h, g, d, t, os⟩ := by
  unfold Builtin.«list.__len__» seqSize
  repeat (first | (with_reducible refine wpAny_loadPart_at hx ?_) | wp_step | dsimp only)
  all_goals (rw [List.size_toArray]; exact hq _ _)
theorem list_pop_L {x C dx : Addr} {xs : List Value} {v : Value} {n : Nat} {Q : Fin → Shared → Prop} (hx : h.get? x = some (subObj C dx (xs ++ [v]) n)) (hsz : xs.length ≤ 1000)
    (hq : ∀ h' n', h'.get? x = some (subObj C dx xs n') → Heap.SameBut x h h' → Q (.done (.ret v)) ⟨h', g, d, t, os⟩) :
    wpAny (model prog w) A (Builtin.«list.pop» ⟨[.ref x], []⟩) Q E ⟨h, g, d, t, os⟩ := by
  unfold Builtin.«list.pop»
  repeat (first | (with_reducible refine listItems_at hx rfl ?_) | wp_step | dsimp only)
  have e : ((seqIndex? (-1) (xs ++ [v]).toArray.size).bind fun k => Option.map (fun x => (k, x)) (xs ++ [v]).toArray[k]?) = some (xs.length, v) := by
    have : seqIndex? (-1) (xs ++ [v]).toArray.size = some xs.length := by
      rw [List.size_toArray, List.length_append, seqIndex_neg (by decide) (by simp only [List.length_cons, List.length_nil]; lia)]
      congr 1
      simp only [List.length_cons, List.length_nil]
      lia
    rw [this]
    simp
  rw [e]
  dsimp only
  have e0 : (xs ++ [v]).toArray.eraseIdxIfInBounds xs.length = xs.toArray := by
    simp [Array.eraseIdxIfInBounds, List.eraseIdx_append_of_length_le]
  have e1 : (xs ++ [v]).toArray.size ≤ sizeLine := by rw [List.size_toArray, List.length_append, sizeLine_eq]; simp only [List.length_cons, List.length_nil]; lia
  refine wpAny_bind (listUpdate_at hx rfl (wpAny_pure ?_) e1 ?_)
  · obtain ⟨n', e⟩ := upd_at (f := (·.eraseIdxIfInBounds xs.length)) hx
    refine hq _ n' ?_ (Heap.SameBut.update ..)
    rw [e0] at e
    exact e
  · show ((xs ++ [v]).toArray.eraseIdxIfInBounds xs.length).size ≤ _
    rw [e0, List.size_toArray, sizeLine_eq]
    lia
theorem list_append_L {x C dx : Addr} {xs : List Value} {v : Value} {n : Nat} {Q : Fin → Shared → Prop} (hx : h.get? x = some (subObj C dx xs n)) (hsz : xs.length ≤ 1000)
    (hq : ∀ h' n', h'.get? x = some (subObj C dx (xs ++ [v]) n') → Heap.SameBut x h h' → Q (.done (.ret .none)) ⟨h', g, d, t, os⟩) :
    wpAny (model prog w) A (Builtin.«list.append» ⟨[.ref x, v], []⟩) Q E ⟨h, g, d, t, os⟩ := by
  unfold Builtin.«list.append»
  show wpAny _ _ (Builtin.List.listUpdate (.ref x) (·.push v) >>= fun _ => ret .none) _ _ _
  refine wpAny_bind (listUpdate_at hx rfl (wpAny_pure ?_) (by show xs.toArray.size ≤ _; rw [List.size_toArray, sizeLine_eq]; lia) (by show (xs.toArray.push v).size ≤ _; rw [Array.size_push, List.size_toArray, sizeLine_eq]; lia))
  obtain ⟨n', e⟩ := upd_at (f := (·.push v)) hx
  exact hq _ n' (by simpa using e) (Heap.SameBut.update ..)
end
end Mine
end

section
open PySem PySem.W PySem.Spec PySem.Calls PyProof.Rows PyProof.V Mine
local macro_rules | `(tactic| walk_at "mine stop") => `(tactic| (k_here; refine Stop.out ?_))
local macro_rules | `(tactic| walk_at "mine mem") => `(tactic| first | assumption | exact List.Mem.head _ | (refine List.Mem.tail _ ?_; walk_at "mine mem") | (refine List.mem_append_left _ ?_; walk_at "mine mem") | (refine List.mem_append_right _ ?_; walk_at "mine mem"))
local macro_rules | `(tactic| walk_at "mine perm") => `(tactic| first | (refine List.forall_mem_cons.mpr ⟨by walk_at "mine mem", ?_⟩; walk_at "mine perm") | (refine List.forall_mem_append.mpr ⟨?_, ?_⟩ <;> walk_at "mine perm") | (exact fun p hp => absurd hp List.not_mem_nil) | (intro p hp; walk_at "mine mem"))
local macro_rules | `(tactic| walk_at "mine past") => `(tactic| repeat (first | ((with_reducible rename News _ _ _ _ => zz'); clear zz') | ((with_reducible rename Fr _ _ _ _ => zz'); clear zz') | ((with_reducible rename IsRange _ _ _ _ _ _ _ _ => zz'); clear zz')))
local macro_rules | `(tactic| walk_at "mine item") => `(tactic| (k_here; (with_reducible show wpAny _ _ (subscriptTail _ _ (Value.bytes _ _) (Value.int _ _)) _ _ _); refine item_b (by lia) (by lia) (by lia) ?_))
local macro_rules | `(tactic| walk_at "mine size") => `(tactic| (simp only [List.size_toArray, PySem.sizeLine_eq]; lia))
local macro_rules | `(tactic| walk_at "mine frame") => `(tactic| (intro z h1 h2 h3; simp only [List.forall_mem_cons] at h2; first | (simp [kstB, h1, h2, h3]; done) | (simp only [List.contains_cons, List.contains_nil, Bool.or_false, Bool.or_eq_false_iff, beq_eq_false_iff_ne, ne_eq] at h3; simp [kstB, h1, h2, h3])))
local macro_rules | `(tactic| walk_at "mine len") => `(tactic| (k_here; (with_reducible show wpAny _ _ (call (Value.builtin "len") [Value.bytes _ _]) _ _ _); refine PyProof.Rows.len_bytes (by lia) ?_))
local macro_rules | `(tactic| walk_at "G_enter") => `(tactic| (refine' codeG_def ?k1 ?k2 ?k3 ?k4 ?k5 ?kA ?kF ?kK ?k6 ?k7 ?k8 ?k9 ?kB ?_ ?c2 ?c3 ?c4 ?c5; (case kA => exact rfl); (case kF => exact rfl); (case kK => assumption); (case k1 => k_asm); (case k2 => k_asm); (case k3 => k_asm); (case k4 => k_asm); (case k5 => k_asm); (case k6 => k_is); (case k7 => k_is); (case k8 => ktr_room); (case k9 => exact BindsTo.of_eq rfl); (case c5 => decide); (case kB => exact locs rfl); (case c2 => exact rfl); (case c3 => exact rfl); (case c4 => exact rfl)))
/- H1 -/
section
open PySem PySem.W PySem.Spec PySem.Calls PyProof.Rows PyProof.V
set_option Elab.async false
set_option maxRecDepth 100000
namespace Mine
theorem reset_H1 {M : PySem.Model} {A : PySem.Around} {Q : PySem.Flow → PySem.Shared → Prop} {E : PySem.Value → PySem.Shared → Prop} {s : PySem.Shared} {env : PySem.Env} (h : Q .next s) : PySem.wpAny M A (PySem.execs [] env) Q E s := by
  w_top off
  first | (walk1; exact h) | exact PySem.wpAny_execs_nil h
set_option maxHeartbeats 4000000
local macro_rules | `(tactic| walk_at "pyIter ref") => `(tactic| walk_at "mine stop")
local macro_rules | `(tactic| walk_at "subscriptTail") => `(tactic| walk_at "mine item")
local macro_rules | `(tactic| size_fits) => `(tactic| walk_at "mine size")
local macro_rules | `(tactic| k_all) => `(tactic| assumption)
local macro_rules | `(tactic| walk_at "InvEndN") => `(tactic| refine Stop.out ?_)
local macro_rules | `(tactic| walk_at "FrameRest") => `(tactic| (intro z h1 h2 h3; simp only [List.forall_mem_cons] at h2; simp [kstB, h1, h2, h3]))
theorem up_true {x : Nat} {u : Bool} (h : x = if u then 108 else 103) (hx : (x : Int) = 108) : u = true := by
  cases u with
  | true => rfl
  | false => simp at h; lia
theorem up_false {x : Nat} {u : Bool} (h : x = if u then 108 else 103) (hx : ¬ (x : Int) = 108) : u = false := by
  cases u with
  | false => rfl
  | true => simp at h; lia
noncomputable def hgt (up : Nat → Bool) : Nat → Int
  | 0 => 0
  | i + 1 => hgt up i + if up i then 1 else -1
noncomputable def begs (up : Nat → Bool) : Nat → List Int
  | 0 => []
  | i + 1 => if up i then begs up i ++ [hgt up i] else begs up i
noncomputable abbrev RetInts (h₀ : Heap) (L : Addr) (m : Str → Option Value) (news : List (Addr × Obj)) (s : Shared) (Q : Value → Shared → Prop) (ns : List Int) : Prop :=
  ∀ (D : Addr) (us : List Value) (cnt : Nat) (h' : Heap) (tk' : Nat), IntsAre us ns → Fr h₀ L h' m → News h₀ L h' ((D, listOf us.toArray cnt) :: news) → (∀ p ∈ news, p.1 < D) → Q (.ref D) { s with heap := h', toks := tk' }

theorem c_heights (w : World) (news : List (Addr × Obj)) (b : Array UInt8) (tb : Tok) (n : Nat) (hb : b.size = 4 * n) (hn : n ≤ 8) (up : Nat → Bool)
    (hup : ∀ i, i < n → (b.toList.getD (1 + 4 * i) 0).toNat = if up i then 108 else 103) :
    Claim w 166 news [.bytes b tb] (fun h₀ L m s Q => RetInts h₀ L m news s Q (begs up n)) := by
  unfold Claim
  k_fill
  intro p loose mean mg mb dp un gd cn cs a ccd cl outer A₀ base h₀ L m s Q E B F X N T hk hd hu hret
  try dsimp only at hret
  refine wpAny_call ?_
  k_dflt cell_enter
  k_steps
  unfold Stop
  rename IsRange _ _ _ _ _ _ _ _ => hR
  rename News _ _ _ _ => N1
  rename Fr _ _ _ _ => F1
  rename (∀ p ∈ news, p.1 < _) => l1
  obtain ⟨D, eD⟩ := nameHead N1
  subst eD
  refine range_my (σ := Int × Tok × List Value × Nat) (n := n) (fun c => (D, listOf c.2.2.1.toArray c.2.2.2) :: news) (fun c => [("height", .int c.1 c.2.1), ("begun", .ref D)]) ["height"] (fun i c => c.1 = hgt up i ∧ IntsAre c.2.2.1 (begs up i) ∧ c.2.2.1.length ≤ i) rfl hR ?_ ?_ F1 N1 ?_ ?_ ?_
  · rw [hb]
    have : n = 0 ∨ n = 1 ∨ n = 2 ∨ n = 3 ∨ n = 4 ∨ n = 5 ∨ n = 6 ∨ n = 7 ∨ n = 8 := le8 (by assumption)
    rcases this with h | h | h | h | h | h | h | h | h <;> subst h <;> decide
  · rw [hb]
    have : n = 0 ∨ n = 1 ∨ n = 2 ∨ n = 3 ∨ n = 4 ∨ n = 5 ∨ n = 6 ∨ n = 7 ∨ n = 8 := le8 (by assumption)
    rcases this with h | h | h | h | h | h | h | h | h <;> subst h <;> decide
  · refine start_my ⟨_, _, _, _⟩ rfl (List.forall_mem_cons.mpr ⟨rfl, List.forall_mem_cons.mpr ⟨rfl, fun _ h => nomatch h⟩⟩) ⟨rfl, .nil, Nat.le_refl _⟩
  · rintro ⟨ht, tt, us, cnt⟩ i t u h tk own hi hoff ⟨hP1, hP2, hP3⟩ F2 N2
    dsimp only at F2 N2 hP1 hP2 hP3 ⊢
    clear hR F1 N1
    k_fold
    have off := off_my l1 hoff (List.mem_cons_self ..)
    simp only [List.cons_append] at N2
    k_steps
    · unfold Stop
      rename News _ _ _ _ => N4
      rename Fr _ _ _ _ => F4
      rename ((_ : Int) = 108) => hb108
      rw [List.push_toArray] at N4
      have hu1 : up i = true := by
        rw [show (1 + (i : Int) * 4).toNat = 1 + 4 * i by lia] at hb108
        exact up_true (hup i hi) hb108
      refine end_my ⟨_, _, _, _⟩ F4 N4 (List.forall_mem_cons.mpr ⟨.head _, fun p hp => .tail _ (List.mem_append_left _ hp)⟩) (fun p hp => .tail _ (List.mem_append_right _ hp)) rfl (List.forall_mem_cons.mpr ⟨rfl, List.forall_mem_cons.mpr ⟨rfl, fun _ h => nomatch h⟩⟩) ?_ ⟨?_, ?_, ?_⟩
      · walk_at "FrameRest"
      · simp only [hgt, hu1, hP1, if_true]
      · simp only [begs, hu1, if_true]
        rw [← hP1]
        exact hP2.append (.cons _ _ .nil)
      · simp only [List.length_append, List.length_cons, List.length_nil]; lia
    · unfold Stop
      rename News _ _ _ _ => N4
      rename Fr _ _ _ _ => F4
      rename (¬ (_ : Int) = 108) => hb108
      have hu1 : up i = false := by
        rw [show (1 + (i : Int) * 4).toNat = 1 + 4 * i by lia] at hb108
        exact up_false (hup i hi) hb108
      refine end_my ⟨_, _, _, _⟩ F4 N4 (List.forall_mem_cons.mpr ⟨.head _, fun p hp => .tail _ (List.mem_append_left _ hp)⟩) (fun p hp => .tail _ (List.mem_append_right _ hp)) rfl (List.forall_mem_cons.mpr ⟨rfl, List.forall_mem_cons.mpr ⟨rfl, fun _ h => nomatch h⟩⟩) ?_ ⟨?_, ?_, ?_⟩
      · walk_at "FrameRest"
      · simp only [hgt, hu1, hP1, if_false]; rfl
      · simp only [begs, hu1, if_false]
        exact hP2
      · dsimp only; lia
  · rintro ⟨ht, tt, us, cnt⟩ u h tk ⟨hP1, hP2, hP3⟩ F2 N2
    dsimp only at F2 N2 hP1 hP2 hP3 ⊢
    clear hR F1 N1
    k_steps
    exact hret D us cnt _ _ hP2 (by assumption) (by assumption) l1
end Mine
end

/- H2 -/
section
open PySem PySem.W PySem.Spec PySem.Calls PyProof.Rows PyProof.V
set_option Elab.async false
set_option maxRecDepth 100000
namespace Mine
theorem reset_H2 {M : PySem.Model} {A : PySem.Around} {Q : PySem.Flow → PySem.Shared → Prop} {E : PySem.Value → PySem.Shared → Prop} {s : PySem.Shared} {env : PySem.Env} (h : Q .next s) : PySem.wpAny M A (PySem.execs [] env) Q E s := by
  w_top off
  first | (walk1; exact h) | exact PySem.wpAny_execs_nil h
set_option maxHeartbeats 4000000
local macro_rules | `(tactic| walk_at "pyIter ref") => `(tactic| walk_at "mine stop")
local macro_rules | `(tactic| walk_at "subscriptTail") => `(tactic| walk_at "mine item")
local macro_rules | `(tactic| size_fits) => `(tactic| walk_at "mine size")
local macro_rules | `(tactic| k_all) => `(tactic| assumption)
local macro_rules | `(tactic| walk_at "InvEndN") => `(tactic| refine Stop.out ?_)
local macro_rules | `(tactic| walk_at "FrameRest") => `(tactic| (intro z h1 h2 h3; simp only [List.forall_mem_cons] at h2; simp [kstB, h1, h2, h3]))
noncomputable def cntU (up : Nat → Bool) : Nat → Int
  | 0 => 0
  | i + 1 => if up i then cntU up i + 1 else cntU up i
noncomputable def nums (up : Nat → Bool) : Nat → List Int
  | 0 => []
  | i + 1 => nums up i ++ [if up i then cntU up i else -1]
theorem c_numbers (w : World) (news : List (Addr × Obj)) (b : Array UInt8) (tb : Tok) (n : Nat) (hb : b.size = 4 * n) (hn : n ≤ 8) (up : Nat → Bool)
    (hup : ∀ i, i < n → (b.toList.getD (1 + 4 * i) 0).toNat = if up i then 108 else 103) :
    Claim w 173 news [.bytes b tb] (fun h₀ L m s Q => RetInts h₀ L m news s Q (nums up n)) := by
  unfold Claim
  k_fill
  intro p loose mean mg mb dp un gd cn cs a ccd cl outer A₀ base h₀ L m s Q E B F X N T hk hd hu hret
  try dsimp only at hret
  refine wpAny_call ?_
  k_dflt cell_enter
  k_steps
  unfold Stop
  rename IsRange _ _ _ _ _ _ _ _ => hR
  rename News _ _ _ _ => N1
  rename Fr _ _ _ _ => F1
  rename (∀ p ∈ news, p.1 < _) => l1
  obtain ⟨D, eD⟩ := nameHead N1
  subst eD
  refine range_my (σ := Int × Tok × List Value × Nat) (n := n) (fun c => (D, listOf c.2.2.1.toArray c.2.2.2) :: news) (fun c => [("opened", .int c.1 c.2.1), ("marks", .ref D)]) ["opened"] (fun i c => c.1 = cntU up i ∧ IntsAre c.2.2.1 (nums up i) ∧ c.2.2.1.length ≤ i) rfl hR ?_ ?_ F1 N1 ?_ ?_ ?_
  · rw [hb]
    have : n = 0 ∨ n = 1 ∨ n = 2 ∨ n = 3 ∨ n = 4 ∨ n = 5 ∨ n = 6 ∨ n = 7 ∨ n = 8 := le8 (by assumption)
    rcases this with h | h | h | h | h | h | h | h | h <;> subst h <;> decide
  · rw [hb]
    have : n = 0 ∨ n = 1 ∨ n = 2 ∨ n = 3 ∨ n = 4 ∨ n = 5 ∨ n = 6 ∨ n = 7 ∨ n = 8 := le8 (by assumption)
    rcases this with h | h | h | h | h | h | h | h | h <;> subst h <;> decide
  · refine start_my ⟨_, _, _, _⟩ rfl (List.forall_mem_cons.mpr ⟨rfl, List.forall_mem_cons.mpr ⟨rfl, fun _ h => nomatch h⟩⟩) ⟨rfl, .nil, Nat.le_refl _⟩
  · rintro ⟨ht, tt, us, cnt⟩ i t u h tk own hi hoff ⟨hP1, hP2, hP3⟩ F2 N2
    dsimp only at F2 N2 hP1 hP2 hP3 ⊢
    clear hR F1 N1
    k_fold
    have off := off_my l1 hoff (List.mem_cons_self ..)
    simp only [List.cons_append] at N2
    k_steps
    · unfold Stop
      rename News _ _ _ _ => N4
      rename Fr _ _ _ _ => F4
      rename ((_ : Int) = 108) => hb108
      rw [List.push_toArray] at N4
      have hu1 : up i = true := by
        rw [show (1 + (i : Int) * 4).toNat = 1 + 4 * i by lia] at hb108
        exact up_true (hup i hi) hb108
      refine end_my ⟨_, _, _, _⟩ F4 N4 (List.forall_mem_cons.mpr ⟨.head _, fun p hp => .tail _ (List.mem_append_left _ hp)⟩) (fun p hp => .tail _ (List.mem_append_right _ hp)) rfl (List.forall_mem_cons.mpr ⟨rfl, List.forall_mem_cons.mpr ⟨rfl, fun _ h => nomatch h⟩⟩) ?_ ⟨?_, ?_, ?_⟩
      · walk_at "FrameRest"
      · simp only [cntU, hu1, hP1, if_true]
      · simp only [nums, hu1, if_true]
        rw [← hP1]
        exact hP2.append (.cons _ _ .nil)
      · simp only [List.length_append, List.length_cons, List.length_nil]; lia
    · unfold Stop
      rename News _ _ _ _ => N4
      rename Fr _ _ _ _ => F4
      rename (¬ (_ : Int) = 108) => hb108
      rw [List.push_toArray] at N4
      have hu1 : up i = false := by
        rw [show (1 + (i : Int) * 4).toNat = 1 + 4 * i by lia] at hb108
        exact up_false (hup i hi) hb108
      refine end_my ⟨_, _, _, _⟩ F4 N4 (List.forall_mem_cons.mpr ⟨.head _, fun p hp => .tail _ (List.mem_append_left _ hp)⟩) (fun p hp => .tail _ (List.mem_append_right _ hp)) rfl (List.forall_mem_cons.mpr ⟨rfl, List.forall_mem_cons.mpr ⟨rfl, fun _ h => nomatch h⟩⟩) ?_ ⟨?_, ?_, ?_⟩
      · walk_at "FrameRest"
      · simp only [cntU, hu1, hP1]; rfl
      · simp only [nums, hu1]
        exact hP2.append (.cons _ _ .nil)
      · simp only [List.length_append, List.length_cons, List.length_nil]; lia
  · rintro ⟨ht, tt, us, cnt⟩ u h tk ⟨hP1, hP2, hP3⟩ F2 N2
    dsimp only at F2 N2 hP1 hP2 hP3 ⊢
    clear hR F1 N1
    k_steps
    exact hret D us cnt _ _ hP2 (by assumption) (by assumption) l1
end Mine
end

/- H4 -/
section
open PySem PySem.W PySem.Spec PySem.Calls PyProof.Rows PyProof.V
set_option Elab.async false
set_option maxRecDepth 100000
namespace Mine
theorem reset_H4 {M : PySem.Model} {A : PySem.Around} {Q : PySem.Flow → PySem.Shared → Prop} {E : PySem.Value → PySem.Shared → Prop} {s : PySem.Shared} {env : PySem.Env} (h : Q .next s) : PySem.wpAny M A (PySem.execs [] env) Q E s := by
  w_top off
  first | (walk1; exact h) | exact PySem.wpAny_execs_nil h
theorem stIn_length {d : List UInt8} {w q i j : Nat} (hd : d.length = q * w) (hi : i < q) (hj : j ≤ w) : (stIn d w q i j).length = q * w := by
  have hl := revChunks_length hd i (by lia)
  have hle : (i + 1) * w ≤ q * w := Nat.mul_le_mul_right _ hi
  rw [Nat.add_mul, Nat.one_mul] at hle
  have e : (q - i - 1) * w + (i * w + w) = q * w := by
    have : q = (q - i - 1) + (i + 1) := by lia
    conv => rhs; rw [this]
    rw [Nat.add_mul, Nat.add_mul, Nat.one_mul]
  simp only [stIn, List.length_append, List.length_replicate, List.length_reverse, List.length_take, List.length_drop, hl, hd]
  lia
theorem News.sub {h₀ h : Heap} {L : Addr} {l l' : List (Addr × Obj)} (N : News h₀ L h l) (hs : ∀ p ∈ l', p ∈ l) : News h₀ L h l' := fun p hp => N p (hs p hp)
set_option maxHeartbeats 4000000
local macro_rules | `(tactic| walk_at $k:str) => if (["pyIter ref", "setItem"] : List String).contains k.getString then `(tactic| walk_at "mine stop") else Lean.Macro.throwUnsupported
local macro_rules | `(tactic| walk_at "InvEndN") => `(tactic| refine Stop.out ?_)
local macro_rules | `(tactic| walk_at "subscriptTail") => `(tactic| walk_at "mine item")
local macro_rules | `(tactic| walk_at "FrameRest") => `(tactic| walk_at "mine frame")
local macro_rules | `(tactic| walk_at "call type:bytes") => `(tactic| (k_here; (with_reducible show wpAny _ _ (call (Value.type "bytes") [Value.ref _]) _ _ _); refine Stop.out ?_))
theorem c_byteswap (w : World) (news : List (Addr × Obj)) (b : Array UInt8) (tb tw : Tok) (q v : Nat) (hb : b.size = q * v) (hq : q ≤ 8) (hv : v ≤ 100) (hv0 : 0 < v) :
    ClaimG 20 w 119 news [.bytes b tb, .int (v : Int) tw] (fun h₀ L m s Q => Ret h₀ L m news s Q fun t => .bytes (revChunks b.toList v q).toArray t) := by
  unfold ClaimG
  k_fill
  intro p loose mean mg mb dp un gd cn cs a ccd cl outer A₀ base h₀ L m s Q B F X N T hk hd hu hret
  have hsz : b.size ≤ 1000 := by rw [hb]; exact Nat.le_trans (Nat.mul_le_mul hq hv) (by decide)
  refine wpG_call ?_
  k_dflt (walk_at "G_enter")
  intro g L' h1 FG F1 N1 B1 X1 T1
  dsimp only
  refine G_execs_cons (G_Assign_Name (G_Call ?_))
  k_steps
  refine G_callWith_type (wpG_of_any ?_)
  k_steps
  rename News _ _ _ _ => N2
  rename Fr _ _ _ _ => F2
  refine ba_new_K (by lia) (by lia) F2 N2 ?_
  intro D h2 F3 N3 l1
  clear F2 N2
  k_steps
  refine wpG_of_any ?_
  k_fold
  k_steps
  unfold Stop
  rename IsRange _ _ _ _ _ _ _ _ => hR
  rename News _ _ _ _ => N4
  rename Fr _ _ _ _ => F4
  rw [show (((b.size : Nat) : Int)).toNat = b.size from rfl] at N4
  refine range_my (σ := Array UInt8) (n := q) (fun c => (D, baObj c) :: news) (fun c => [("swapped_data", .ref D), ("data", .bytes b tb), ("width", .int (v : Int) tw)]) ["j"] (fun i c => c.toList = stOut b.toList v q i) rfl hR ?_ ?_ F4 N4 ?_ ?_ ?_
  · exact small_of (by decide) (by decide) (by lia) (by lia) (by lia) (by lia)
  · rw [hb]; exact rangeSize_mul hv0
  · refine start_my _ rfl (List.forall_mem_cons.mpr ⟨rfl, List.forall_mem_cons.mpr ⟨rfl, List.forall_mem_cons.mpr ⟨rfl, fun _ h => nomatch h⟩⟩⟩) ?_
    rw [Array.toList_replicate, hb]
    simp [stOut, revChunks]
  · rintro c i t u h3 tk own hi hoff hP F5 N5
    dsimp only at F5 N5 ⊢
    k_fold
    have off := off_my l1 hoff (List.mem_cons_self ..)
    simp only [List.cons_append] at N5
    clear hR F4 N4
    k_steps
    unfold Stop
    rename IsRange _ _ _ _ _ _ _ _ => hR
    rename News _ _ _ _ => N6
    rename Fr _ _ _ _ => F6
    have hle : (i + 1) * v ≤ q * v := Nat.mul_le_mul_right _ hi
    rw [Nat.add_mul, Nat.one_mul] at hle
    refine range_my (σ := Array UInt8) (n := v) (fun c => (D, baObj c) :: (news ++ own)) (fun c => [("swapped_data", .ref D), ("data", .bytes b tb), ("width", .int (v : Int) tw), ("i", .int ((i : Int) * (v : Int)) t)]) [] (fun j c => c.toList = stIn b.toList v q i j) rfl hR ?_ ?_ F6 N6 ?_ ?_ ?_
    · exact small_of (by decide) (by decide) (by lia) (by lia) (by lia) (by lia)
    · have := rangeSize_one (a := 0) (n := v); rwa [Int.zero_add] at this
    · refine start_my _ rfl (List.forall_mem_cons.mpr ⟨rfl, List.forall_mem_cons.mpr ⟨rfl, List.forall_mem_cons.mpr ⟨rfl, List.forall_mem_cons.mpr ⟨?_, fun _ h => nomatch h⟩⟩⟩⟩) ?_
      · show some (Value.int (0 + (i : Int) * (v : Int)) t) = _
        rw [Int.zero_add]
      · rw [hP]; exact out_in hi
    · rintro c2 j t2 u2 h4 tk2 own2 hj hoff2 hP2 F7 N7
      dsimp only at F7 N7 ⊢
      k_fold
      have off2 : ∀ p ∈ (news ++ own) ++ own2, p.1 ≠ D := fun p hp => (List.mem_append.mp hp).elim (off p) fun h => hoff2 p h D (List.mem_cons_self ..)
      have hc2 : c2.size = q * v := by
        have := congrArg List.length hP2
        rw [stIn_length (by simpa using hb) hi (by lia), Array.length_toList] at this
        exact this
      simp only [List.cons_append] at N7
      clear hR F6 N6
      k_steps
      unfold Stop
      rename News _ _ _ _ => N8
      rename Fr _ _ _ _ => F8
      have hlt : (b.toList.getD ((i : Int) * (v : Int) + (0 + (j : Int) * 1)).toNat 0).toNat < 256 := UInt8.toNat_lt _
      refine ba_set_K F8 N8 off2 (by lia) (by lia) (by lia) (by lia) (by lia) ?_
      intro h5 F9 N9
      clear F8 N8
      k_steps
      unfold Stop
      rename News _ _ _ _ => N10
      rename Fr _ _ _ _ => F10
      refine end_my _ F10 N10 (List.forall_mem_cons.mpr ⟨.head _, fun p hp => .tail _ (List.mem_append_left _ hp)⟩) (fun p hp => .tail _ (List.mem_append_right _ hp)) rfl
        (List.forall_mem_cons.mpr ⟨rfl, List.forall_mem_cons.mpr ⟨rfl, List.forall_mem_cons.mpr ⟨rfl, List.forall_mem_cons.mpr ⟨rfl, fun _ h => nomatch h⟩⟩⟩⟩) ?_ ?_
      · walk_at "FrameRest"
      · rw [Array.toList_setIfInBounds, hP2]
        have e1 : ((i : Int) * (v : Int) + (v : Int) - 1 - (0 + (j : Int) * 1)).toNat = i * v + v - 1 - j := by
          rw [← Int.natCast_mul]; lia
        have e2 : ((i : Int) * (v : Int) + (0 + (j : Int) * 1)).toNat = i * v + j := by
          rw [← Int.natCast_mul]; lia
        rw [e1, e2, Int.toNat_natCast]
        have e3 : ∀ x : UInt8, x.toNat.toUInt8 = x := fun x => UInt8.ofNat_toNat
        rw [e3]
        exact set_step (by simpa using hb) hi hj
    · rintro c2 u2 h4 tk2 hP2 F7 N7
      dsimp only at F7 N7 ⊢
      clear hR F6 N6
      k_steps
      unfold Stop
      refine end_my c2 F7 N7 (List.forall_mem_cons.mpr ⟨.head _, fun p hp => .tail _ (List.mem_append_left _ hp)⟩) (fun p hp => .tail _ (List.mem_append_right _ hp)) rfl
        (List.forall_mem_cons.mpr ⟨rfl, List.forall_mem_cons.mpr ⟨rfl, List.forall_mem_cons.mpr ⟨rfl, fun _ h => nomatch h⟩⟩⟩) ?_ ?_
      · walk_at "FrameRest"
      · rw [hP2, in_out]
  · rintro c u h3 tk hP F5 N5
    dsimp only at F5 N5 ⊢
    clear hR F4 N4
    k_steps
    unfold Stop
    have hc : c = (revChunks b.toList v q).toArray := by
      have : c.toList = revChunks b.toList v q := by rw [hP]; simp [stOut]
      rw [← this]
    subst hc
    refine ba_bytes_K N5 ?_ ?_
    · rw [List.size_toArray, revChunks_length (by simpa using hb) q (Nat.le_refl _), ← hb]; exact hsz
    · intro t1 k1
      k_steps
      exact hret _ _ _ (by assumption) (News.sub (by assumption) fun p hp => .tail _ hp)
end Mine
end

/- H5 -/
section
open PySem PySem.W PySem.Spec PySem.Calls PyProof.Rows PyProof.V
set_option Elab.async false
set_option maxRecDepth 100000
namespace Mine
theorem reset_H5 {M : PySem.Model} {A : PySem.Around} {Q : PySem.Flow → PySem.Shared → Prop} {E : PySem.Value → PySem.Shared → Prop} {s : PySem.Shared} {env : PySem.Env} (h : Q .next s) : PySem.wpAny M A (PySem.execs [] env) Q E s := by
  w_top off
  first | (walk1; exact h) | exact PySem.wpAny_execs_nil h
set_option maxHeartbeats 600000
local macro_rules | `(tactic| walk_at "pyIter ref") => `(tactic| walk_at "mine stop")
local macro_rules | `(tactic| walk_at "InvEndN") => `(tactic| refine Stop.out ?_)
local macro_rules | `(tactic| walk_at "FrameRest") => `(tactic| walk_at "mine frame")
local macro_rules | `(tactic| walk_at "call builtin:len") => `(tactic| walk_at "mine len")
theorem slice_b {prog : Program} {w : World} {A : Around} {E : Value → Shared → Prop} {s : Shared} {value slice : PySem.Expr} {b : Array UInt8} {t : Tok} {h₀ : Heap} {L : Addr} {m : PySem.Str → Option Value} {news : List (Addr × Obj)} {l u : Value} {lo hi : Option Int} {Q : Value → Shared → Prop}
    (hF : Fr h₀ L s.heap m) (hN : News h₀ L s.heap news) (hl : IsPart l lo) (hu : IsPart u hi) (hz : b.size ≤ 16777216)
    (h : ∀ h' t' k, Fr h₀ L h' m → News h₀ L h' news → Q (.bytes (KBy.picked b lo hi) t') { s with heap := h', toks := k })
    (hs : subscripted slice false (.bytes b t) (.ref s.heap.objs.size) = operate [.ref s.heap.objs.size, .bytes b t] (getItem (.bytes b t) (.ref s.heap.objs.size)) := by with_unfolding_all rfl)
    (ht : ∀ r, letTemporaryGo value (.bytes b t) r = pure () := by intro _; with_unfolding_all rfl) :
    wpAny (model prog w) A (subscriptTail value slice (.bytes b t) (.ref s.heap.objs.size)) Q E { s with heap := s.heap.push { cls := .type "slice", data := .fields #[l, u, .none] } } :=
  KBc.slice_K hF hN rfl hl hu (by rw [KBw.ints_length]; exact hz) (fun h' t' k F N _ => h h' t' k F N) hs ht
theorem noI_bytes_add : typeLookup (.type "bytes") (dunderI "add") = pure none := by rw [typeLookup_type, builtinLookup_eq_fast]; kernel_rfl
theorem iadd_bytes {prog : Program} {w : World} {A : Around} {E : Value → Shared → Prop} {s : Shared} {b c : Array UInt8} {t u : Tok} {Q : Value → Shared → Prop} (hsz : b.size + c.size ≤ 16777216) (h : ∀ t' k, Q (.bytes (b ++ c) t') { s with toks := k }) : wpAny (model prog w) A (inplaceOp .Add (.bytes b t) (.bytes c u)) Q E s := by
  refine iconcat_gives (typeIs_bytes s b t) (typeIs_bytes s c u) noI_bytes_add KBy.noFill_bytes_add KBy.seq_bytes_add FB.slot_bytes_add FB.entry_bytes_add (FB.args_bytes_add_2 _ _) (KBy.gives_bytes_add (KBy.tooLong_not hsz)) ?_
  by_cases hb : b.isEmpty = true
  · rw [if_pos hb]
    have e : b = #[] := Array.isEmpty_iff.1 hb
    have h' := h u s.toks
    rw [e, Array.empty_append] at h'
    exact h'
  · rw [if_neg hb]
    by_cases hc : c.isEmpty = true
    · rw [if_pos hc]
      have e : c = #[] := Array.isEmpty_iff.1 hc
      have h' := h t s.toks
      rw [e, Array.append_empty] at h'
      exact h'
    · rw [if_neg hc]
      exact ⟨by rw [Array.size_append, sizeLine_eq]; exact hsz, h s.toks (s.toks + 1)⟩
theorem cutrev_len {l : List UInt8} {a c B : Nat} (h : l.length ≤ B) : ((l.drop a).take c).reverse.length ≤ B := by
  rw [List.length_reverse, List.length_take, List.length_drop]
  exact Nat.le_trans (Nat.min_le_right _ _) (Nat.le_trans (Nat.sub_le _ _) h)
theorem revCut (l : List UInt8) (x y : Nat) (hxy : x ≤ y) (hy : y ≤ l.length) : ((l.reverse.drop x).take (y - x)).reverse = (l.drop (l.length - y)).take (y - x) := by
  rw [List.drop_reverse, List.take_reverse, List.reverse_reverse, List.length_take, List.drop_take]
  congr 1
  · lia
  · congr 1; lia
theorem name4 {h₀ h : Heap} {L a b c d : Addr} {oa ob oc od : Obj} {r : List (Addr × Obj)} (_N : News h₀ L h ((a, oa) :: (b, ob) :: (c, oc) :: (d, od) :: r)) : ∃ a' b' c' d', a' = a ∧ b' = b ∧ c' = c ∧ d' = d := ⟨a, b, c, d, rfl, rfl, rfl, rfl⟩
theorem tailOf {h₀ h : Heap} {L : Addr} {p : Addr × Obj} {r : List (Addr × Obj)} (_N : News h₀ L h (p :: r)) : ∃ led, led = r := ⟨r, rfl⟩
theorem all_of_allLt {d : Nat} : ∀ {l : List (Addr × Obj)}, AllLt d l → ∀ p ∈ l, p.1 < d
  | [], _, _, hq => nomatch hq
  | p :: r, h, q, hq => by
    rcases List.mem_cons.mp hq with rfl | hq
    · exact h.1
    · exact all_of_allLt h.2 q hq
noncomputable def tupObj (vs : List Value) : Obj := { cls := .type "tuple", data := .seq vs.toArray }
local macro_rules | `(tactic| walk_at "subscriptTail") => `(tactic| (k_here; (with_reducible show wpAny _ _ (subscriptTail _ (Expr.Slice _ _ none _) (Value.bytes _ _) (Value.ref _)) _ _ _); (with_reducible rename Fr _ _ _ _ => F'); (with_reducible rename News _ _ _ _ => N'); (refine slice_b (s := ⟨_, _, _, _, _⟩) F' N' (by constructor) (by constructor) (by simp only [List.size_toArray]; lia) ?_); intro _ _ _ _ _))
noncomputable def turned (b : Array UInt8) (k : Nat) : Array UInt8 := (b.toList.drop (4 * k + 4) ++ ((b.toList.drop (4 * k)).take 4 ++ b.toList.take (4 * k))).toArray
theorem c_turned (w : World) (news : List (Addr × Obj)) (b : Array UInt8) (tb tp : Tok) (n k : Nat) (hb : b.size = 4 * n) (hn : n ≤ 8) (hkn : k < n) :
    ClaimG 40 w 159 news [.bytes b tb, .int (4 * (k : Int)) tp] (fun h₀ L m s Q => Ret h₀ L m news s Q fun t => .bytes (turned b k) t) := by
  unfold ClaimG
  k_fill
  intro p loose mean mg mb dp un gd cn cs a ccd cl outer A₀ base h₀ L m s Q B F X N T hk hdp hu hret
  refine wpG_call ?_
  k_dflt (walk_at "G_enter")
  intro g L' h1 FG F1 N1 B1 X1 T1
  dsimp only
  refine G_execs_cons (G_Assign_Name (G_Call ?_))
  k_steps
  refine G_callWith (K := Mine.hd.heap_1 w.params) (by k_is) (wpG_of_any ?_)
  k_steps
  rename News _ _ _ _ => N2
  rename Fr _ _ _ _ => F2
  refine c_byteswap w _ b tb _ 1 b.size (by lia) (by lia) (by lia) (by lia) p loose mean mg mb _ _ _ _ _ _ _ _ _ _ _ _ _ _ _ _ B1 F2 X1 N2 T1 rfl (by show dp + 1 + 20 < recursionLimit; lia) (by show un + 3 + 10 * 20 < cLine; lia) ?_
  intro tb2 h2 tk2 F3 N3
  clear F2 N2
  k_steps
  refine G_execs_cons (wpG_of_any ?_)
  k_steps
  refine G_execs_cons (wpG_of_any ?_)
  k_steps
  refine G_execs_cons (G_For ?_)
  k_steps
  unfold Stop
  rename News _ _ _ _ => N4
  rename Fr _ _ _ _ => F4
  rename (_ ∧ _ ∧ _ ∧ AllLt _ news) => lt4
  obtain ⟨l, T3, T2, T1', e1, e2, e3, e4⟩ := name4 N4
  subst e1; subst e2; subst e3; subst e4
  have hr : ((b.size : Int) - 4 * (k : Int) - 4) = ((4 * n - 4 * k - 4 : Nat) : Int) := by lia
  rw [hr] at N4 F4
  generalize hrr : 4 * n - 4 * k - 4 = r at N4 F4 hr
  obtain ⟨led, hled⟩ := tailOf N4
  rw [← hled] at N4
  have hRl : (revChunks b.toList b.size 1).length = b.size := by rw [revChunks_length (q := 1) (by simp) 1 (Nat.le_refl _)]; lia
  generalize hR : revChunks b.toList b.size 1 = R at F4 hRl
  let acc : Nat → List UInt8 := fun i => match i with
    | 0 => []
    | 1 => ((R.drop 0).take (r - 0)).reverse
    | 2 => ((R.drop 0).take (r - 0)).reverse ++ ((R.drop r).take (r + 4 - r)).reverse
    | _ => ((R.drop 0).take (r - 0)).reverse ++ ((R.drop r).take (r + 4 - r)).reverse ++ ((R.drop (r + 4)).take (b.size - (r + 4))).reverse
  have hR9 : R.length ≤ 100 := by lia
  have hacl : ∀ i, (acc i).length ≤ 300 := by
    intro i
    rcases i with _ | _ | _ | i
    · exact Nat.zero_le _
    · exact Nat.le_trans (cutrev_len hR9) (by decide)
    · show List.length (_ ++ _) ≤ 300
      rw [List.length_append]
      exact Nat.le_trans (Nat.add_le_add (cutrev_len hR9) (cutrev_len hR9)) (by decide)
    · show List.length (_ ++ _ ++ _) ≤ 300
      rw [List.length_append, List.length_append]
      exact Nat.le_trans (Nat.add_le_add (Nat.add_le_add (cutrev_len hR9) (cutrev_len hR9)) (cutrev_len hR9)) (by decide)
  refine listG_my (x := "begin") (σ := Array UInt8 × Tok) (vs := [.ref T1', .ref T2, .ref T3]) (fun c => led) (fun c => [("made", .bytes c.1 c.2), ("back", .bytes R.toArray tb2)]) ["end"] (fun i c => c.1.toList = acc i) rfl F4 N4 ?_ ?_ ?_ ?_ ?_
  · rw [hled]
    refine List.forall_mem_cons.mpr ⟨Nat.ne_of_lt lt4.1, List.forall_mem_cons.mpr ⟨Nat.ne_of_lt lt4.2.1, List.forall_mem_cons.mpr ⟨Nat.ne_of_lt lt4.2.2.1, fun p hp => Nat.ne_of_lt ?_⟩⟩⟩
    exact all_of_allLt lt4.2.2.2 p hp
  · exact start_my (_, _) rfl (List.forall_mem_cons.mpr ⟨rfl, List.forall_mem_cons.mpr ⟨rfl, fun _ h => nomatch h⟩⟩) rfl
  · rintro ⟨mb1, tm⟩ i v u h5 tk own hv hoff hP F5 N5
    have hvv : ∃ (T : Addr) (x y : Nat) (tx ty : Tok), v = .ref T ∧ (T, tupObj [.int (x : Int) tx, .int (y : Int) ty]) ∈ led ∧ x ≤ y ∧ y ≤ b.size ∧ acc (i + 1) = acc i ++ ((R.drop x).take (y - x)).reverse := by
      rcases i with _ | _ | _ | i
      · have hv' : v = .ref T1' := (Option.some.inj hv).symm
        subst hv'
        exact ⟨T1', 0, r, _, _, rfl, by rw [hled]; exact .tail _ (.tail _ (.head _)), by lia, by lia, by simp [acc]⟩
      · have hv' : v = .ref T2 := (Option.some.inj hv).symm
        subst hv'
        exact ⟨T2, r, r + 4, _, _, rfl, by rw [hled]; exact .tail _ (.head _), by lia, by lia, by simp [acc]⟩
      · have hv' : v = .ref T3 := (Option.some.inj hv).symm
        subst hv'
        exact ⟨T3, r + 4, b.size, _, _, rfl, by rw [hled]; exact .head _, by lia, by lia, by simp [acc]⟩
      · simp at hv
    obtain ⟨T, x, y, tx, ty, rfl, hT, hxy, hy, hacc⟩ := hvv
    have N6 : News g L' h5 ((T, tupObj [.int (x : Int) tx, .int (y : Int) ty]) :: (led ++ own)) := fun p hp => by
      rcases List.mem_cons.mp hp with rfl | hp
      · exact N5 _ (List.mem_append_left _ hT)
      · exact N5 _ hp
    unfold tupObj at N6
    clear N5
    dsimp only at F5 hP ⊢
    k_steps
    refine G_execs_cons (G_If ?_)
    k_steps
    · refine G_execs_cons (G_AugAssign_Name ?_)
      k_steps
      refine G_Call ?_
      k_steps
      refine G_callWith (K := Mine.hd.heap_1 w.params) (by k_is) (wpG_of_any ?_)
      k_steps
      rename ((x : Int) < (y : Int)) => hlt
      have e1 : (y : Int) - (x : Int) = ((y - x : Nat) : Int) := by lia
      have e2 : KBy.picked R.toArray (some (x : Int)) (some (y : Int)) = ((R.drop x).take (y - x)).toArray := by
        rw [KBc.picked_eq]
        simp only [Option.elim, clipAt_nat, List.size_toArray, hRl]
        rw [Nat.min_eq_left (by lia), Nat.min_eq_left (by lia)]
      rw [e1, e2]
      have hlen : ((R.drop x).take (y - x)).length = y - x := by rw [List.length_take, List.length_drop, hRl]; lia
      rename News _ _ _ _ => N7
      rename Fr _ _ _ _ => F7
      refine c_byteswap w _ _ _ _ 1 (y - x) (by rw [List.size_toArray, hlen]; lia) (by lia) (by lia) (by lia) p loose mean mg mb _ _ _ _ _ _ _ _ _ _ _ _ _ _ _ _ B1 F7 X1 N7 T1 rfl (by show dp + 1 + 20 < recursionLimit; lia) (by show un + 3 + 10 * 20 < cLine; lia) ?_
      intro tb3 h6 tk6 F8 N8
      have e3 : revChunks ((R.drop x).take (y - x)).toArray.toList (y - x) 1 = ((R.drop x).take (y - x)).reverse := by
        simp only [revChunks, Nat.zero_mul, List.drop_zero, List.nil_append]
        rw [List.take_of_length_le (Nat.le_of_eq hlen)]
      rw [e3]
      clear F7 N7
      have hmb : mb1.size ≤ 300 := by
        have := congrArg List.length hP
        rw [Array.length_toList] at this
        rw [this]
        exact hacl i
      have hsz3 : (List.take (y - x) (List.drop x R)).reverse.toArray.size = y - x := (List.size_toArray ..).trans ((List.length_reverse ..).trans hlen)
      refine iadd_bytes (by lia) ?_
      intro t7 k7
      k_steps
      refine G_execs_nil (G_execs_nil ?_)
      k_steps
      unfold Stop
      rename News _ _ _ _ => N9
      rename Fr _ _ _ _ => F9
      refine end_my (_, _) F9 N9 (fun p hp => .tail _ (List.mem_append_left _ hp)) (fun p hp => .tail _ (List.mem_append_right _ hp)) rfl
        (List.forall_mem_cons.mpr ⟨rfl, List.forall_mem_cons.mpr ⟨rfl, fun _ h => nomatch h⟩⟩) ?_ ?_
      · walk_at "FrameRest"
      · show (mb1 ++ _).toList = _
        rw [Array.toList_append, hP, hacc]
    · refine G_execs_nil (G_execs_nil ?_)
      k_steps
      unfold Stop
      rename (¬ (x : Int) < (y : Int)) => hge
      rename News _ _ _ _ => N9
      rename Fr _ _ _ _ => F9
      refine end_my (_, _) F9 N9 (fun p hp => .tail _ (List.mem_append_left _ hp)) (fun p hp => .tail _ (List.mem_append_right _ hp)) rfl
        (List.forall_mem_cons.mpr ⟨rfl, List.forall_mem_cons.mpr ⟨rfl, fun _ h => nomatch h⟩⟩) ?_ ?_
      · walk_at "FrameRest"
      · show mb1.toList = _
        rw [hP, hacc, show y - x = 0 by lia]
        simp
  · rintro ⟨mb1, tm⟩ u h5 tk hP F5 N5
    dsimp only at F5 N5 hP ⊢
    refine wpG_of_any ?_
    k_steps
    have hfin : mb1 = turned b k := by
      have hl : b.toList.length = b.size := Array.length_toList
      have hR' : R = b.toList.reverse := by
        rw [← hR]
        simp only [revChunks, Nat.zero_mul, List.drop_zero, List.nil_append]
        rw [List.take_of_length_le (Nat.le_of_eq hl)]
      have h3 : mb1.toList = (turned b k).toList := by
        rw [hP]
        show _ ++ _ ++ _ = _
        rw [hR', revCut _ 0 r (by lia) (by lia), revCut _ r (r + 4) (by lia) (by lia), revCut _ (r + 4) b.size (by lia) (by lia)]
        simp only [turned, hl]
        rw [show b.size - r = 4 * k + 4 by lia, show b.size - (r + 4) = 4 * k by lia, show r - 0 = b.size - (4 * k + 4) by lia, show r + 4 - r = 4 by lia, Nat.sub_self, List.drop_zero, List.take_of_length_le (by rw [List.length_drop, hl]; lia), List.append_assoc]
      exact Array.ext' h3
    rw [hfin]
    exact hret _ _ _ (by assumption) (News.sub (by assumption) fun p hp => by rw [hled]; exact .tail _ (.tail _ (.tail _ hp)))
  · intro I i v s2 Q2 hv hit hQ
    rcases i with _ | _ | _ | i
    · obtain rfl : v = .ref T1' := (Option.some.inj hv).symm
      exact wpAny_letOwnedTupleGo_listiter hit hQ
    · obtain rfl : v = .ref T2 := (Option.some.inj hv).symm
      exact wpAny_letOwnedTupleGo_listiter hit hQ
    · obtain rfl : v = .ref T3 := (Option.some.inj hv).symm
      exact wpAny_letOwnedTupleGo_listiter hit hQ
    · simp at hv
end Mine
end

/- M1 -/
section
open PySem PySem.W PySem.Spec PySem.Calls PyProof.Rows PyProof.V
set_option Elab.async false
set_option maxRecDepth 100000
namespace Mine
theorem reset_M1 {M : PySem.Model} {A : PySem.Around} {Q : PySem.Flow → PySem.Shared → Prop} {E : PySem.Value → PySem.Shared → Prop} {s : PySem.Shared} {env : PySem.Env} (h : Q .next s) : PySem.wpAny M A (PySem.execs [] env) Q E s := by
  w_top off
  first | (walk1; exact h) | exact PySem.wpAny_execs_nil h
set_option maxHeartbeats 1000000
/-- a call of the def at f from a def's frame, with room for sl more frames -/
noncomputable abbrev ClaimS (sl : Nat) (w : World) (f : Addr) (news : List (Addr × Obj)) (vs : List Value)
    (ret : Heap → Addr → (Str → Option Value) → Shared → (Value → Shared → Prop) → Prop) : Prop :=
  ∀ (p : Program) (loose : List Str) (mean : ExcName → Option Value) (mg mb : Str → Option Value)
    (dp un : Nat) (gd : Option (List Code)) (cn : Str) (cs : Scope) (a : Addr) (ccd : Value) (cl : List (Str × Addr)) (outer : List Env) (A₀ : Around) (base h₀ : Heap) (L : Addr) (m : Str → Option Value) (s : Shared) (Q E : Value → Shared → Prop),
    Below A₀ base outer h₀ → Fr h₀ L s.heap m → (hd.heap_1 w.params).In h₀ → News h₀ L s.heap news → Top p loose mean mg mb h₀ → cs.kind = .function →
    dp + sl < recursionLimit → un + 10 * sl < cLine → ret h₀ L m s Q →
      wpAny (model PySem.Challenge.rw_xp0013_01.row.prog w) (ktrTop dp un gd cn cs L a ccd cl outer) (call (.ref f) vs) Q E s
section
variable {prog : Program} {w : World} {A : Around} {E : Value → Shared → Prop} {s : Shared} {h₀ : Heap} {L : Addr} {m mg mb : Str → Option Value} {news : List (Addr × Obj)} {K : Frag} {x C D so dx q : Addr} {xs : List Value} {n : Nat}
theorem newsSub {h : Heap} {l l' : List (Addr × Obj)} (N : News h₀ L h l) (hs : ∀ p ∈ l', p ∈ l) : News h₀ L h l' := fun p hp => N p (hs p hp)
theorem instL_of {M : Model} {h : Heap} (X : K.In h) (hx : h.get? x = some (subObj C dx xs n)) (hm : mroIn K C (.type "list") = some true) : InstL M h x C (subObj C dx xs n) :=
  ⟨hx, rfl, fun c e => (by cases e), looks_mroIn X hm⟩
theorem inst_of_newsL {h : Heap} {od : Obj} (N : News h₀ L h news) (h1 : (x, subObj C dx xs n) ∈ news) (h2 : (dx, od) ∈ news) :
    W.InstAt h x (subObj C dx xs n) C (some od) := ⟨(N _ h1).1, rfl, rfl, (N _ h2).1⟩
theorem su_method {id TD B gid : String} {G : Builtin} {name : Str} {pl : Sem Bool} {Q : Value × List Value → Shared → Prop} (F : Fr h₀ L s.heap m) (X₀ : K.In h₀) (N : News h₀ L s.heap news) (hso : (so, ks_superObj D x C) ∈ news) (hx : (x, subObj C dx xs n) ∈ news) (ho : nsIn K cStatics "thirdparty.any" = some none)
    (hm : ks_superIn K C D name = some (some (.builtin id))) (hl : mroIn K C (.type "list") = some true) (hn : (name == ("__class__" : Str)) = false)
    (Y : ∀ h, h.get? x = some (subObj C dx xs n) → Looks (model prog w) h (isSubtype (.ref C) (.type "list")) true → GetsB prog w h x C id TD B gid G)
    (h : ∀ q h', Fr h₀ L h' m → News h₀ L h' ((q, bbObj B id x) :: news) → (∀ p ∈ news, p.1 < q) → Q (.ref q, []) { s with heap := h', toks := s.toks + 1 }) : wpAny (model prog w) A (getMethod (.ref so) name pl) Q E s := by
  have X : K.In s.heap := X₀.keeps F.keep
  obtain ⟨hh, g, d, t, os⟩ := s
  cases hc : clsIn K C with
  | none => unfold ks_superIn at hm; rw [hc] at hm; cases hm
  | some cd =>
    unfold ks_superIn at hm
    rw [hc] at hm
    have hxo := (N _ hx).1
    have hne : x ≠ C := by
      rintro rfl
      unfold clsIn at hc
      split at hc
      · rename_i c d cd' sl ho
        have e := X _ _ ho
        rw [hxo] at e
        cases e
      · cases hc
    refine su_getMethod (N _ hso).1 (looks_opaque X ho) (l₀ := cd.mro) ?_ rfl X hm (Y hh hxo (looks_mroIn X hl)) hne hn ?_
    · exact fun A Q E s k q => wpAny_bind ((looks_clsIn X hc) A _ E s k (wpAny_pure q))
    · obtain ⟨F', N', l'⟩ := ks_newsPush (s := ⟨hh, g, d, t, os⟩) (o := bbObj B id x) F N rfl (Heap.get?_push_at rfl rfl) (fun b o e => Heap.get?_push_of_some _ e)
      exact h _ _ F' N' l'
theorem method_L {TF ga : String} {name : Str} {pl : Sem Bool} {f : Value} {od : Obj} {Q : Value × List Value → Shared → Prop} (F : Fr h₀ L s.heap m) (X₀ : K.In h₀) (I : W.InstAt s.heap x (subObj C dx xs n) C (some od))
    (hga : findIn K (.ref C) "__getattribute__" = some (some (.builtin ga))) (hcan : (Manifest.canonical ga != "object.__getattribute__") = false) (hk : findIn K (.ref C) "__getattr__" = some none)
    (hf : findIn K (.ref C) name = some (some f)) (ht : typeIn K f = some (.type TF)) (htf : (Value.type TF != .type "function" && Value.type TF != .type "method_descriptor" && Value.type TF != .type "wrapper_descriptor") = false)
    (hs : shadowIn (some od) name = some false) (h : Q (f, [.ref x]) s) :
    wpAny (model prog w) A (getMethod (.ref x) name pl) Q E s := by
  have X : K.In s.heap := X₀.keeps F.keep
  unfold getMethod specialOf
  refine wpAny_bind (wpAny_bind (I.type.here ((looks_findIn X hga).here ?_)))
  dsimp only
  rw [hcan, if_neg (by decide)]
  refine wpAny_bind (wpAny_bind (I.type.here ((looks_findIn X hk).here ?_)))
  refine wpAny_bind (wpAny_bind (I.type.here ((looks_findIn X hf).here (wpAny_bind ((looks_typeIn X ht).here ?_)))))
  rw [htf, if_neg (by decide)]
  refine wpAny_bind (wpAny_loadPart I.at_ ?_)
  have hd := I.dict
  obtain ⟨r, a, b⟩ := Option.map_eq_some_iff.mp hs
  refine wpAny_bind (wpAny_bind (wpAny_loadPart hd ?_))
  rw [nsLook_of a]
  refine wpAny_pure ?_
  rw [b]
  exact wpAny_bind (wpAny_rule (wpAny_pure h))
theorem append_L {v : Value} {Q : Value → Shared → Prop} {pre post : List (Addr × Obj)} (F : Fr h₀ L s.heap m) (X₀ : K.In h₀) (N : News h₀ L s.heap (pre ++ (x, subObj C dx xs n) :: post)) (off1 : ∀ p ∈ pre, p.1 ≠ x) (off2 : ∀ p ∈ post, p.1 ≠ x) (hl : mroIn K C (.type "list") = some true) (hsz : xs.length ≤ 1000)
    (h : ∀ h' n', Fr h₀ L h' m → News h₀ L h' (pre ++ (x, subObj C dx (xs ++ [v]) n') :: post) → Q .none { s with heap := h' }) : wpAny (model prog w) A (call (.builtin "list.append") [.ref x, v]) Q E s := by
  have X : K.In s.heap := X₀.keeps F.keep
  have z := N (x, subObj C dx xs n) (List.mem_append_right _ (.head _))
  obtain ⟨hh, g, d, t, os⟩ := s
  refine wpAny_call (codeAny_call_builtin plain_append entry_append (check_list (n := "append") (instL_of X z.1 hl) (.inr kind_append) (by decide +kernel) (args_append _ _) (list_append_L z.1 hsz fun h' n' e hs => ?_)))
  exact h h' n' (F.change hs z.2.1 z.2.2) (news_set N off1 off2 hs e)
theorem pop_L {v : Value} {Q : Value → Shared → Prop} {pre post : List (Addr × Obj)} {od : Option Addr} {cd : ClassData} {sl : Array (Option Value)} (F : Fr h₀ L s.heap m) (X₀ : K.In h₀) (N : News h₀ L s.heap (pre ++ (x, subObj C dx (xs ++ [v]) n) :: post)) (hq : (q, bbObj "builtin_function_or_method" "list.pop" x) ∈ pre ++ (x, subObj C dx (xs ++ [v]) n) :: post) (off1 : ∀ p ∈ pre, p.1 ≠ x) (off2 : ∀ p ∈ post, p.1 ≠ x) (hl : mroIn K C (.type "list") = some true) (hmd : mroIn K C (.type "module") = some false) (hsz : xs.length ≤ 1000)
    (hC : K.lookup C = some ⟨.type "type", od, .cls cd, sl⟩) (hck : ∀ x, Bind.checkArgs "list.pop" ⟨.positional, s!"{cd.qualname.toString}.{Bind.lastOf "list.pop"}", "pop", .self, [⟨"index", .posOnly, false⟩]⟩ ⟨[.ref x], []⟩ = pure ())
    (h : ∀ h' n', Fr h₀ L h' m → News h₀ L h' (pre ++ (x, subObj C dx xs n') :: post) → Q v { s with heap := h' }) : wpAny (model prog w) A (call (.ref q) []) Q E s := by
  have X : K.In s.heap := X₀.keeps F.keep
  have z := N (x, subObj C dx (xs ++ [v]) n) (List.mem_append_right _ (.head _))
  obtain ⟨hh, g, d, t, os⟩ := s
  refine wpAny_call (call_bound_pop (instL_of X z.1 hl) (looks_mroIn X hmd) (X _ _ hC) (hck _) (N _ hq).1 (list_pop_L z.1 hsz fun h' n' e hs => ?_))
  exact h h' n' (F.change hs z.2.1 z.2.2) (news_set N off1 off2 hs e)
theorem init_L {Q : Value → Shared → Prop} {pre post : List (Addr × Obj)} (F : Fr h₀ L s.heap m) (N : News h₀ L s.heap (pre ++ (x, subObj C dx [] n) :: post)) (hq : (q, bbObj "method-wrapper" "list.__init__" x) ∈ pre ++ (x, subObj C dx [] n) :: post) (off1 : ∀ p ∈ pre, p.1 ≠ x) (off2 : ∀ p ∈ post, p.1 ≠ x)
    (h : ∀ h' n', Fr h₀ L h' m → News h₀ L h' (pre ++ (x, subObj C dx [] n') :: post) → Q .none { s with heap := h' }) : wpAny (model prog w) A (call (.ref q) []) Q E s := by
  have z := N (x, subObj C dx [] n) (List.mem_append_right _ (.head _))
  obtain ⟨hh, g, d, t, os⟩ := s
  refine wpAny_call (call_bound_slot (N _ hq).1 kind_init (args_init _) plain_init entry_init (list_init_L z.1 fun h' n' e hs => ?_))
  exact h h' n' (F.change hs z.2.1 z.2.2) (news_set N off1 off2 hs e)
theorem callWith_bb {id B : String} {pos : Pos} {env : Env} {Q : Value → Shared → Prop} (N : News h₀ L s.heap news) (hq : (q, bbObj B id x) ∈ news) (hB : (Value.type B == .type "builtin_function_or_method" || Value.type B == .type "method-wrapper") = true) (hB' : (Value.type B != .type "method") = true)
    (h : wpAny (model prog w) A (call (.ref q) []) Q E s) : wpAny (model prog w) A (callWith pos (.ref q) [] (backTo pos (starEach [] env)) []) Q E s := by
  unfold callWith
  refine wpAny_bind (wpAny_holding (PyProof.Rows.evalArgs_none ?_))
  refine wpAny_bind (wpAny_standAt ?_)
  refine wpAny_bind (m := keeperOf (.ref q)) ?_
  unfold keeperOf
  refine wpAny_bind (wpAny_load (N _ hq).1 ?_)
  dsimp only
  rw [if_pos hB']
  refine wpAny_pure ?_
  rw [hB]
  exact wpAny_bind (wpAny_mono h (fun r s₂ hr => wpAny_bind (wpAny_holding (wpAny_point (wpAny_pure hr)))) fun _ _ x => x)
theorem su_len {Q : Value → Shared → Prop} (F : Fr h₀ L s.heap m) (N : News h₀ L s.heap news) (hq : (q, bbObj "method-wrapper" "list.__len__" x) ∈ news) (hx : (x, subObj C dx xs n) ∈ news) (hsz : xs.length ≤ 1000)
    (h : ∀ t' k, Q (.int xs.length t') { s with toks := k }) : wpAny (model prog w) A (call (.ref q) []) Q E s := by
  obtain ⟨hh, g, d, t, os⟩ := s
  refine wpAny_call (call_bound_slot (N _ hq).1 kind_len (args_len _) plain_len entry_len (list_len_L (N _ hx).1 hsz fun t' k => h t' k))
end
local macro_rules | `(tactic| k_inst) => `(tactic| (refine' inst_of_newsL ?N ?h1 ?h2; (case N => k_asm); (case h1 => k_mem); (case h2 => k_mem)))
local macro_rules | `(tactic| walk_at "call ref") => `(tactic| (k_here; refine' su_len ?k1 ?k2 ?k3 ?k4 ?k5 ?_; (case k1 => k_asm); (case k2 => k_asm); (case k3 => k_mem); (case k4 => k_mem); (case k5 => lia); intro _ _))
local macro_rules | `(tactic| walk_at "callWith ref") => `(tactic| (k_here; refine' callWith_bb ?k1 ?k2 ?k3 ?k4 ?_; (case k1 => k_asm); (case k2 => k_mem); (case k3 => decide); (case k4 => decide)))
local macro_rules | `(tactic| walk_at "cell_enter") => `(tactic| (refine' ks_code_super ?k1 ?k2 ?k3 ?k4 ?k5 ?kA ?kF ?kK ?k6 ?k7 ?k8 ?k9 ?kB ?_ ?c1 ?c2 ?c3 ?c4; (case kA => exact rfl); (case kF => exact rfl); (case kK => first | assumption | exact rfl); (case k1 => k_asm); (case k2 => k_asm); (case k3 => k_asm); (case k4 => k_asm); (case k5 => k_asm); (case k6 => k_is); (case k7 => k_is); (case k8 => ktr_room); (case k9 => exact BindsTo.of_eq rfl); (case kB => exact locs rfl); (case c1 => decide); (case c2 => exact rfl); (case c3 => exact rfl); (case c4 => exact rfl); intro g' L' h' FG' F' N' B' X' T' l1; (try k_lt l1); (try dsimp only); (try k_lift B')))
local macro_rules | `(tactic| walk_at "getMethod ref") => `(tactic| (k_here; ks_any; k_dflt (refine' su_method (name := "__len__") ?k1 ?k2 ?k3 ?k4 ?k5 ?k6 ?k7 ?k8 ?k9 (fun _ hx hs => gets_len hx rfl hs) ?_; (case k1 => k_asm); (case k2 => k_asm); (case k3 => k_asm); (case k4 => k_mem); (case k5 => k_mem); (case k6 => k_is); (case k7 => ks_is); (case k8 => k_is); (case k9 => decide); intro q' h' F' N' l1; (try k_lt l1))))
theorem c_count {sl : Nat} (hsl : 5 ≤ sl) (w : World) (news : List (Addr × Obj)) (P d : Addr) (xs : List Value) (n : Nat) (dd : Obj) (hxs : xs.length ≤ 200) :
    ClaimS sl w 98 ((P, subObj 101 d xs n) :: (d, dd) :: news) [.ref P] (fun h₀ L m s Q => Ret h₀ L m ((P, subObj 101 d xs n) :: (d, dd) :: news) s Q fun t => .int xs.length t) := by
  unfold ClaimS
  k_fill
  intro p loose mean mg mb dp un gd cn cs a ccd cl outer A₀ base h₀ L m s Q E B F X N T hk hd hu hret
  refine wpAny_call ?_
  k_dflt (walk_at "cell_enter")
  k_steps
  exact hret _ _ _ (by assumption) (newsSub (by assumption) fun p hp => .tail _ (.tail _ hp))
end Mine
end

section
open PySem PySem.W PySem.Spec PySem.Calls PyProof.Rows PyProof.V Mine
local macro_rules | `(tactic| walk_at "mine inst") => `(tactic| (refine' inst_of_newsL ?N ?h1 ?h2; (case N => k_asm); (case h1 => k_mem); (case h2 => k_mem)))
local macro_rules | `(tactic| walk_at "mine callWith") => `(tactic| (k_here; refine' callWith_bb ?k1 ?k2 ?k3 ?k4 ?_; (case k1 => k_asm); (case k2 => k_mem); (case k3 => decide); (case k4 => decide)))
local macro_rules | `(tactic| walk_at "mine cell") => `(tactic| (refine' ks_code_super ?k1 ?k2 ?k3 ?k4 ?k5 ?kA ?kF ?kK ?k6 ?k7 ?k8 ?k9 ?kB ?_ ?c1 ?c2 ?c3 ?c4; (case kA => exact rfl); (case kF => exact rfl); (case kK => first | assumption | exact rfl); (case k1 => k_asm); (case k2 => k_asm); (case k3 => k_asm); (case k4 => k_asm); (case k5 => k_asm); (case k6 => k_is); (case k7 => k_is); (case k8 => ktr_room); (case k9 => exact BindsTo.of_eq rfl); (case kB => exact locs rfl); (case c1 => decide); (case c2 => exact rfl); (case c3 => exact rfl); (case c4 => exact rfl); intro g' L' h' FG' F' N' B' X' T' l1; (try k_lt l1); (try dsimp only); (try k_lift B')))
/- M2 -/
section
open PySem PySem.W PySem.Spec PySem.Calls PyProof.Rows PyProof.V
set_option Elab.async false
set_option maxRecDepth 100000
namespace Mine
theorem reset_M2 {M : PySem.Model} {A : PySem.Around} {Q : PySem.Flow → PySem.Shared → Prop} {E : PySem.Value → PySem.Shared → Prop} {s : PySem.Shared} {env : PySem.Env} (h : Q .next s) : PySem.wpAny M A (PySem.execs [] env) Q E s := by
  w_top off
  first | (walk1; exact h) | exact PySem.wpAny_execs_nil h
set_option maxHeartbeats 1000000
local macro_rules | `(tactic| k_inst) => `(tactic| walk_at "mine inst")
local macro_rules | `(tactic| walk_at "getMethod ref") => `(tactic| (k_here; k_dflt (refine' method_L ?k1 ?k2 ?k3 ?k4 ?k5 ?k6 ?k7 ?k8 ?k9 ?k10 ?_; (case k1 => k_asm); (case k2 => k_asm); (case k3 => k_inst); (case k4 => k_is); (case k5 => decide +kernel); (case k6 => k_is); (case k7 => k_is); (case k8 => k_is); (case k9 => decide); (case k10 => assumption))))
local macro_rules | `(tactic| walk_at "call builtin:list.append") => `(tactic| walk_at "mine stop")
theorem c_push (w : World) (news : List (Addr × Obj)) (P d : Addr) (xs : List Value) (n : Nat) (dd : Obj) (hxs : xs.length ≤ 100) (hdd : shadowIn (some dd) "append" = some false) (hP : ∀ p ∈ news, p.1 ≠ P) (hPd : d ≠ P) (a b : Str) (ta tb : Tok) :
    ClaimS 5 w 45 ((P, subObj 101 d xs n) :: (d, dd) :: news) [.ref P, .str a ta, .str b tb] (fun h₀ L m s Q =>
      ∀ (T : Addr) (n' : Nat) (h' : Heap) (tk' : Nat), Fr h₀ L h' m → News h₀ L h' ((T, { cls := .type "tuple", data := .seq #[.str a ta, .str b tb] }) :: (P, subObj 101 d (xs ++ [.ref T]) n') :: (d, dd) :: news) → (∀ p ∈ news, p.1 < T) → d < T → P < T → Q .none { s with heap := h', toks := tk' }) := by
  unfold ClaimS
  k_fill
  intro p loose mean mg mb dp un gd cn cs a ccd cl outer A₀ base h₀ L m s Q E B F X N T hk hd hu hret
  refine wpAny_call ?_
  k_dflt cell_enter
  k_steps
  unfold Stop
  rename News _ _ _ _ => N4
  rename Fr _ _ _ _ => F4
  rename (_ ∧ _ ∧ AllLt _ news) => lt4
  obtain ⟨T4, hT4⟩ := nameHead N4
  subst hT4
  refine append_L (pre := [(T4, _)]) (post := (d, dd) :: news) F4 (by assumption) N4 (fun p hp => by rw [List.mem_singleton.mp hp]; exact Nat.ne_of_gt lt4.1) (List.forall_mem_cons.mpr ⟨hPd, hP⟩) (by k_is) (by lia) ?_
  intro h5 n5 F5 N5
  clear F4 N4
  dsimp only [List.cons_append, List.nil_append] at N5
  k_steps
  exact hret _ _ _ _ (by assumption) (by assumption) (all_of_allLt lt4.2.2) lt4.2.1 lt4.1
local macro_rules | `(tactic| walk_at "cell_enter") => `(tactic| walk_at "mine cell")
local macro_rules | `(tactic| walk_at "callWith ref") => `(tactic| walk_at "mine callWith")
local macro_rules | `(tactic| walk_at "getMethod ref") => `(tactic| (k_here; ks_any; k_dflt (refine' su_method (name := "pop") ?k1 ?k2 ?k3 ?k4 ?k5 ?k6 ?k7 ?k8 ?k9 (fun _ hx hs => gets_pop hx rfl hs) ?_; (case k1 => k_asm); (case k2 => k_asm); (case k3 => k_asm); (case k4 => k_mem); (case k5 => k_mem); (case k6 => k_is); (case k7 => ks_is); (case k8 => k_is); (case k9 => decide); intro q' h' F' N' l1; (try k_lt l1))))
local macro_rules | `(tactic| walk_at "call ref") => `(tactic| walk_at "mine stop")
local macro_rules | `(tactic| walk_at "wpAt") => `(tactic| (ks_step "execs nil"; refine Stop.out ?_))
theorem c_pop (w : World) (news : List (Addr × Obj)) (P d : Addr) (xs : List Value) (v : Value) (n : Nat) (dd : Obj) (hxs : xs.length ≤ 100) (hdd : shadowIn (some dd) "part_count" = some false) (hP : ∀ p ∈ news, p.1 ≠ P) (hPd : d ≠ P) :
    ClaimS 10 w 61 ((P, subObj 101 d (xs ++ [v]) n) :: (d, dd) :: news) [.ref P] (fun h₀ L m s Q =>
      ∀ (n' : Nat) (h' : Heap) (tk' : Nat), Fr h₀ L h' m → News h₀ L h' ((P, subObj 101 d xs n') :: (d, dd) :: news) → Q v { s with heap := h', toks := tk' }) := by
  unfold ClaimS
  k_fill
  intro p loose mean mg mb dp un gd cn cs a ccd cl outer A₀ base h₀ L m s Q E B F X N T hk hd hu hret
  refine wpAny_call ?_
  k_dflt (walk_at "cell_enter")
  refine ks_wpAt_execs_cons (ks_wpAt_If (wpAt_of_wpAny ?_))
  k_steps
  unfold Stop
  rename News _ _ _ _ => N4
  rename Fr _ _ _ _ => F4
  rename Below _ _ _ _ => B4
  rename Frag.In _ _ => X4
  rename Top _ _ _ _ _ _ => T4
  refine c_count (sl := 5) (by decide) w news P d (xs ++ [v]) n dd (by rw [List.length_append]; simp only [List.length_cons, List.length_nil]; lia) p loose mean mg mb _ _ _ _ _ _ _ _ _ _ _ _ _ _ _ _ _ B4 F4 X4 N4 T4 rfl (by show dp + 1 + 5 < recursionLimit; lia) (by show un + 3 + 10 * 5 < cLine; lia) ?_
  intro tb2 h2 tk2 F3 N3
  clear F4 N4
  k_steps
  · rename ((xs ++ [v]).length : Int) = 0 => e0
    rw [List.length_append] at e0
    simp only [List.length_cons, List.length_nil] at e0
    lia
  unfold Stop
  refine wpAt_of_wpAny (wpAny_execs_nil ?_)
  refine ks_wpAt_execs_cons (ks_wpAt_Return_some (ks_wpAt_MethodCall ?_))
  k_steps
  unfold Stop
  rename (_ ∧ _ ∧ _ ∧ AllLt _ news) => lt5
  rename (_ ∧ _ ∧ AllLt _ news) => l1s
  rename News _ _ _ _ => N5
  rename Fr _ _ _ _ => F5
  rename Frag.In _ _ => X5
  obtain ⟨q5, so5, P5, d5, e1, e2, e3, e4⟩ := name4 N5
  subst e1; subst e2
  have hsP : P < so5 := l1s.1
  refine pop_L (pre := [(_, _), (_, _)]) (post := (d, dd) :: news) F5 X5 N5 (.head _) (List.forall_mem_cons.mpr ⟨Nat.ne_of_gt lt5.2.1, fun p hp => by rw [List.mem_singleton.mp hp]; exact Nat.ne_of_gt hsP⟩) (List.forall_mem_cons.mpr ⟨hPd, hP⟩) (by k_is) (by k_is) (by lia) (by exact rfl) (fun x => by kernel_rfl) ?_
  intro h6 n6 F6 N6
  clear F5 N5
  dsimp only [List.cons_append, List.nil_append] at N6
  k_steps
  exact hret _ _ _ (by assumption) (newsSub (by assumption) fun p hp => .tail _ (.tail _ hp))
theorem c_pop0 (w : World) (news : List (Addr × Obj)) (P d : Addr) (n : Nat) (dd : Obj) (hdd : shadowIn (some dd) "part_count" = some false) :
    ClaimS 10 w 61 ((P, subObj 101 d [] n) :: (d, dd) :: news) [.ref P] (fun h₀ L m s Q =>
      ∀ (T : Addr) (t1 t2 : Tok) (h' : Heap) (tk' : Nat), Fr h₀ L h' m → News h₀ L h' ((T, { cls := .type "tuple", data := .seq #[.str (Str.ofString "") t1, .str (Str.ofString "") t2] }) :: (P, subObj 101 d [] n) :: (d, dd) :: news) → (∀ p ∈ news, p.1 < T) → d < T → P < T → Q (.ref T) { s with heap := h', toks := tk' }) := by
  unfold ClaimS
  k_fill
  intro p loose mean mg mb dp un gd cn cs a ccd cl outer A₀ base h₀ L m s Q E B F X N T hk hd hu hret
  refine wpAny_call ?_
  k_dflt (walk_at "cell_enter")
  refine ks_wpAt_execs_cons (ks_wpAt_If (wpAt_of_wpAny ?_))
  k_steps
  unfold Stop
  rename News _ _ _ _ => N4
  rename Fr _ _ _ _ => F4
  rename Below _ _ _ _ => B4
  rename Frag.In _ _ => X4
  rename Top _ _ _ _ _ _ => T4
  refine c_count (sl := 5) (by decide) w news P d [] n dd (by simp) p loose mean mg mb _ _ _ _ _ _ _ _ _ _ _ _ _ _ _ _ _ B4 F4 X4 N4 T4 rfl (by show dp + 1 + 5 < recursionLimit; lia) (by show un + 3 + 10 * 5 < cLine; lia) ?_
  intro tb2 h2 tk2 F3 N3
  clear F4 N4
  k_steps
  rename (_ ∧ _ ∧ AllLt _ news) => lt5
  exact hret _ _ _ _ _ (by assumption) (by assumption) (all_of_allLt lt5.2.2) lt5.2.1 lt5.1
end Mine
end

/- El1 -/
section
open PySem PySem.W PySem.Spec PySem.Calls PyProof.Rows PyProof.V
set_option Elab.async false
set_option maxRecDepth 100000
namespace Mine
theorem reset_El1 {M : PySem.Model} {A : PySem.Around} {Q : PySem.Flow → PySem.Shared → Prop} {E : PySem.Value → PySem.Shared → Prop} {s : PySem.Shared} {env : PySem.Env} (h : Q .next s) : PySem.wpAny M A (PySem.execs [] env) Q E s := by
  w_top off
  first | (walk1; exact h) | exact PySem.wpAny_execs_nil h
set_option maxHeartbeats 2000000
section
variable {prog : Program} {w : World} {A : Around} {E : Value → Shared → Prop} {s : Shared} {env : Env} {h₀ : Heap} {L : Addr} {m : Str → Option Value} {x : Str} {body : List Stmt}
theorem del_K {l : Addr} {its its' : Array Value} {n k' : Nat} {k : Int} {t : Tok} {news : List (Addr × Obj)} {Q : Unit → Shared → Prop} (F : Fr h₀ L s.heap m) (N : News h₀ L s.heap ((l, W.listOf its n) :: news)) (off : ∀ p ∈ news, p.1 ≠ l) (hz : its.size ≤ 1000)
    (hfit : Builtin.List.listFitsIndex k = true) (hk : seqIndex? k its.size = some k') (he : its.eraseIdxIfInBounds k' = its')
    (h : ∀ h' n', Fr h₀ L h' m → News h₀ L h' ((l, W.listOf its' n') :: news) → Q () { s with heap := h' }) : wpAny (model prog w) A (delItem (.ref l) (.int k t)) Q E s := by
  have nl := N _ (.head _)
  refine delItem_list nl.1 hz hfit hk fun n' hn' => ?_
  have hs := Heap.SameBut.update s.heap l (Obj.mapSeq (·.eraseIdxIfInBounds k'))
  rw [he] at hn'
  refine h _ n' (kas_fr F hs nl.2.1 nl.2.2) fun p hp => ?_
  rcases List.mem_cons.mp hp with rfl | hp
  · exact ⟨hn', nl.2⟩
  · exact kas_news (fun p hp => N p (.tail _ hp)) hs off p hp
theorem del_first {l : Addr} {v : Value} {vs : List Value} {n : Nat} {t : Tok} {news : List (Addr × Obj)} {Q : Unit → Shared → Prop} (F : Fr h₀ L s.heap m) (N : News h₀ L s.heap ((l, W.listOf (v :: vs).toArray n) :: news)) (off : ∀ p ∈ news, p.1 ≠ l) (hz : vs.length ≤ 900)
    (h : ∀ h' n', Fr h₀ L h' m → News h₀ L h' ((l, W.listOf vs.toArray n') :: news) → Q () { s with heap := h' }) : wpAny (model prog w) A (delItem (.ref l) (.int 0 t)) Q E s := by
  refine del_K F N off (by rw [List.size_toArray, List.length_cons]; lia) (by decide) (k' := 0) ?_ (its' := vs.toArray) (by simp [Array.eraseIdxIfInBounds]) h
  rw [List.size_toArray, List.length_cons]
  unfold seqIndex?
  have e : (decide (0 ≤ (0 : Int)) && decide ((0 : Int) < ((vs.length + 1 : Nat) : Int))) = true := by simp
  simp only [Int.lt_irrefl, if_false]
  rw [if_pos e]
  rfl
theorem del_last {l : Addr} {v : Value} {vs : List Value} {n : Nat} {t : Tok} {news : List (Addr × Obj)} {Q : Unit → Shared → Prop} (F : Fr h₀ L s.heap m) (N : News h₀ L s.heap ((l, W.listOf (vs ++ [v]).toArray n) :: news)) (off : ∀ p ∈ news, p.1 ≠ l) (hz : vs.length ≤ 900)
    (h : ∀ h' n', Fr h₀ L h' m → News h₀ L h' ((l, W.listOf vs.toArray n') :: news) → Q () { s with heap := h' }) : wpAny (model prog w) A (delItem (.ref l) (.int (-1) t)) Q E s := by
  have hlen : (vs ++ [v]).toArray.size = vs.length + 1 := by simp
  refine del_K F N off (by rw [hlen]; lia) (by decide) (k' := vs.length) ?_ (its' := vs.toArray) (by simp [Array.eraseIdxIfInBounds, List.eraseIdx_append_of_length_le]) h
  rw [hlen]
  unfold seqIndex?
  have e : (decide (0 ≤ (-1 + ((vs.length + 1 : Nat) : Int))) && decide ((-1 + ((vs.length + 1 : Nat) : Int)) < ((vs.length + 1 : Nat) : Int))) = true := by
    rw [Bool.and_eq_true, decide_eq_true_iff, decide_eq_true_iff]; lia
  have e2 : (-1 + ((vs.length + 1 : Nat) : Int)).toNat = vs.length := by lia
  simp only [show ((-1 : Int) < 0) = True by simp, if_true]
  rw [if_pos e, e2]
theorem split_K {x y : Str} {t u : Tok} {news : List (Addr × Obj)} {Q : Value → Shared → Prop} (hF : Fr h₀ L s.heap m) (hN : News h₀ L s.heap news) (hy : (y.length == 0) = false) (hsz : x.length + 2 ≤ sizeLine)
    (h : ∀ (D : Addr) (l : List (Str × Tok)) (h' : Heap) (k : Nat), l.map (·.1) = Txt.split x y → Fr h₀ L h' m → News h₀ L h' ((D, W.listOf (l.map fun e => Value.str e.1 e.2).toArray 0) :: news) → (∀ p ∈ news, p.1 < D) → Q (.ref D) { s with heap := h', toks := k }) :
    wpAny (model prog w) A (call (.builtin "str.split") [.str x t, .str y u]) Q E s :=
  splitN1 hF hN hy (fun l h' k e F' N' => h _ l h' k e F' N' fun p hp => Heap.lt_size (hN p hp).1) hsz
theorem list_my {σ : Type} {l : Addr} {vs : List Value} {m₀ : Str → Option Value} {Q : Flow → Shared → Prop}
    (Led : σ → List (Addr × Obj)) (ps : σ → List (Str × Value)) (stored : List Str) (P : Nat → σ → Prop) {news : List (Addr × Obj)} {cnt : Nat}
    (hh : A.handled = none) (F : Fr h₀ env.locals s.heap m₀) (N : News h₀ env.locals s.heap ((l, W.listOf vs.toArray cnt) :: news)) (hl : ∀ p ∈ news, p.1 ≠ l) (hj : LoopS Led ps x stored m₀ P 0 m₀ news)
    (turn : ∀ (c : σ) (i : Nat) v (u : Str → Option Value) h tk own, vs[i]? = some v → OwnOff own (news.map (·.1)) → P i c →
      Fr h₀ env.locals h (fun y => if y = x then some v else kstB (fun z => if stored.contains z then u z else m₀ z) (ps c) y) → News h₀ env.locals h (Led c ++ own) →
      wpAny (model prog w) A (execs body env) (InvPostN h₀ env.locals (LoopS Led ps x stored m₀ P (i + 1)) own (news.map (·.1)) { s with heap := h, toks := tk } Q) E { s with heap := h, toks := tk })
    (done : ∀ (c : σ) (u : Str → Option Value) h tk, P vs.length c → Fr h₀ env.locals h (fun y => if y = x then u y else kstB (fun z => if stored.contains z then u z else m₀ z) (ps c) y) → News h₀ env.locals h (Led c) → Q .next { s with heap := h, toks := tk }) :
    wpAny (model prog w) A (pyIter (.ref l)) (fun it s₂ => LoopAtV prog w A h₀ env x body Q E it s₂) E s := by
  have Nl := N (l, W.listOf vs.toArray cnt) (.head _)
  have N' : News h₀ env.locals s.heap news := fun p hp => N p (.tail _ hp)
  have hls : s.heap.IsList l vs.toArray := ⟨_, Nl.1, rfl, cnt, rfl⟩
  have hlt : l < s.heap.objs.size := Heap.lt_size Nl.1
  have hne : l ≠ s.heap.objs.size := Nat.ne_of_lt hlt
  refine wpAny_pyIter_list hls ?_
  have W := Walks.list (prog := prog) (w := w) hh s.heap.objs.size l hne vs.toArray
  rw [List.size_toArray] at W
  refine loop_my (fun i _ => vs.getD i .none) Led ps stored P W (fun i v hi hV => ⟨0, ?_⟩) ?_ ?_ ?_ ?_ ⟨⟨_, Heap.get?_push_size _ rfl, rfl, rfl⟩, hls.at fun o e => Heap.get?_push_of_some _ e⟩ (F.push _) (fun p hp => ⟨Heap.get?_push_of_some _ (N' p hp).1, (N' p hp).2⟩) hj ?_ done
  · have hV' : vs[i]? = some v := by simpa using hV
    simp [List.getD, hV']
  · intro hm
    rcases List.mem_cons.mp hm with e | hm
    · exact absurd F.ns.lt (e ▸ Nat.lt_irrefl _)
    · exact Nl.2.1 (List.mem_singleton.mp hm).symm
  · intro b hb
    rw [List.mem_singleton.mp hb]
    exact next_is_new F
  · intro p hp hI
    exact absurd (Heap.lt_size (N' p hp).1) ((List.mem_singleton.mp hI) ▸ Nat.lt_irrefl _)
  · intro p hp hI
    rcases List.mem_cons.mp hI with e | hI
    · exact absurd (Heap.lt_size (N' p hp).1) (e ▸ Nat.lt_irrefl _)
    · exact hl p hp (List.mem_singleton.mp hI)
  · intro c i t u h tk own hi hoff hP F' N'
    refine turn c i _ u h tk own ?_ hoff hP F' N'
    have hi' : i < vs.length := by simpa using hi
    simp [List.getD, hi']
end
theorem frIntE {h₀ h : Heap} {L : Addr} {m : Str → Option Value} (_F : Fr h₀ L h m) (x : Str) {i : Int} {t : Tok} (e : m x = some (.int i t)) : ∃ t, m x = some (.int i t) := ⟨t, e⟩
noncomputable abbrev hasS (x y : Str) : Bool := !(Builtin.Str.occurrences x y 0 x.length 1).isEmpty
noncomputable def ellRun (got : Str) (e : Int) : List Str → Int → Option Int
  | [], s => some s
  | w :: ws, s => if find4 got w s e < 0 then none else ellRun got e ws (find4 got w s e + w.length)
theorem ellRun_app (got : Str) (e : Int) : ∀ (a b : List Str) (s : Int), ellRun got e (a ++ b) s = (ellRun got e a s).bind (ellRun got e b)
  | [], b, s => rfl
  | w :: a, b, s => by
    simp only [List.cons_append, ellRun]
    split
    · rfl
    · exact ellRun_app got e a b _
theorem ellRun_step {got : Str} {e sp : Int} {mid : List Str} {i : Nat} {x : Str} {a : Int} (h : ellRun got e (mid.take i) a = some sp) (hx : mid[i]? = some x) (hf : ¬ find4 got x sp e < 0) : ellRun got e (mid.take (i + 1)) a = some (find4 got x sp e + x.length) := by
  rw [List.take_add_one, hx, ellRun_app, h]
  show (if find4 got x sp e < 0 then none else some _) = _
  rw [if_neg hf]
theorem ellRun_fail {got : Str} {e sp : Int} {mid : List Str} {i : Nat} {x : Str} {a : Int} (h : ellRun got e (mid.take i) a = some sp) (hx : mid[i]? = some x) (hf : find4 got x sp e < 0) : ellRun got e mid a = none := by
  have e1 : mid = mid.take i ++ mid.drop i := (List.take_append_drop i mid).symm
  have hi : i < mid.length := by
    rcases Nat.lt_or_ge i mid.length with q | q
    · exact q
    · rw [List.getElem?_eq_none q] at hx; cases hx
  have e2 : mid.drop i = x :: mid.drop (i + 1) := by
    rw [List.drop_eq_getElem_cons hi]
    rw [List.getElem?_eq_getElem hi] at hx
    rw [Option.some.inj hx]
  rw [e1, ellRun_app, h, e2]
  show (if find4 got x sp e < 0 then none else _) = _
  rw [if_pos hf]
end Mine
end

/- El2 -/
section
open PySem PySem.W PySem.Spec PySem.Calls PyProof.Rows PyProof.V
set_option Elab.async false
set_option maxRecDepth 100000
namespace Mine
theorem reset_El2 {M : PySem.Model} {A : PySem.Around} {Q : PySem.Flow → PySem.Shared → Prop} {E : PySem.Value → PySem.Shared → Prop} {s : PySem.Shared} {env : PySem.Env} (h : Q .next s) : PySem.wpAny M A (PySem.execs [] env) Q E s := by
  w_top off
  first | (walk1; exact h) | exact PySem.wpAny_execs_nil h
set_option maxHeartbeats 2000000
local macro_rules | `(tactic| walk_at $k:str) => if (["pyIter ref", "compareOp NotIn str str", "call builtin:str.split", "call builtin:str.find", "subscriptTail", "exec Delete"] : List String).contains k.getString then `(tactic| walk_at "mine stop") else Lean.Macro.throwUnsupported
local macro_rules | `(tactic| size_fits) => `(tactic| walk_at "mine size")
local macro_rules | `(tactic| k_all) => `(tactic| assumption)
local macro_rules | `(tactic| walk_at "InvEndN") => `(tactic| refine Stop.out ?_)
local macro_rules | `(tactic| walk_at "FrameRest") => `(tactic| walk_at "mine frame")
local macro_rules | `(tactic| walk_at "call builtin:len") => `(tactic| (k_here; (with_reducible show wpAny _ _ (call (Value.builtin "len") [Value.str _ _]) _ _ _); refine PySem.len_str (by lia) ?_))
local macro_rules | `(tactic| walk_at "call builtin:len") => `(tactic| (k_here; (with_reducible show wpAny _ _ (call (Value.builtin "len") [Value.ref _]) _ _ _); refine Stop.out ?_))
theorem lst_of {g h : Heap} {L D : Addr} {its : Array Value} {c : Nat} {nw : List (Addr × Obj)} (N : News g L h ((D, W.listOf its c) :: nw)) : h.IsList D its := ⟨_, (N _ (.head _)).1, rfl, _, rfl⟩
theorem news_tail {g h : Heap} {L : Addr} {p : Addr × Obj} {nw : List (Addr × Obj)} (N : News g L h (p :: nw)) : News g L h nw := fun q hq => N q (.tail _ hq)
theorem item_neg {prog : Program} {w : World} {A : Around} {E : Value → Shared → Prop} {s : Shared} {value slice : Expr} {l : Addr} {items : Array Value} {k : Int} {u : Tok} {x : Value} {Q : Value → Shared → Prop} (hl : s.heap.IsList l items)
    (h0 : k < 0) (h1 : -(items.size : Int) ≤ k) (hfit : -(2 ^ 63) ≤ k) (hx : items[(k + items.size).toNat]? = some x) (h : Q x s)
    (hs : subscripted slice false (.ref l) (.int k u) = operate [.ref l, .int k u] (getItem (.ref l) (.int k u)) := by with_unfolding_all rfl) (hg : ∀ r, letTemporaryGo value (.ref l) r = pure () := by intro _; with_unfolding_all rfl) :
    wpAny (model prog w) A (subscriptTail value slice (.ref l) (.int k u)) Q E s :=
  subscriptTail_builtin hl.typeIs slot_list_getitem.lookup (wpAny_getItem_list_neg hl h0 h1 hfit hx h) hs hg
theorem last_at (vs : List Value) (v : Value) : (vs ++ [v]).toArray[((-1 : Int) + ((vs ++ [v]).toArray.size : Nat)).toNat]? = some v := by
  have e : ((-1 : Int) + ((vs ++ [v]).toArray.size : Nat)).toNat = vs.length := by
    rw [List.size_toArray, List.length_append]; simp only [List.length_cons, List.length_nil]; lia
  rw [e]; simp
theorem c_ell (w : World) (news : List (Addr × Obj)) (want got w0 wl : Str) (mid : List Str) (tw tg : Tok) (hhas : hasS want (Str.ofString "...") = true) (hwl : want.length ≤ 100) (hgl : got.length ≤ 100)
    (hsp : Txt.split want (Str.ofString "...") = w0 :: (mid ++ [wl])) (h0 : w0.length = 1) (h1 : wl.length = 1) (hst : Txt.startswith got w0 = true) (hen : Txt.endswith got wl = true) (hg2 : 2 ≤ got.length) (hm : mid.length ≤ 20) (hm1 : ∀ x ∈ mid, x.length = 1) :
    ClaimS 20 w 112 news [.str want tw, .str got tg] (fun h₀ L m s Q => Ret h₀ L m news s Q fun _ => .bool (ellRun got (got.length - 1) mid 1).isSome) := by
  unfold ClaimS
  k_fill
  intro p loose mean mg mb dp un gd cn cs a ccd cl outer A₀ base h₀ L m s Q E B F X N T hk hd hu hret
  refine wpAny_call ?_
  k_dflt cell_enter
  have hhas' : (!(Builtin.Str.occurrences want (Str.ofString "...") 0 want.length 1).isEmpty) = true := hhas
  k_steps
  unfold Stop
  refine notIn_str ?_
  rw [hhas']
  k_steps
  unfold Stop
  rename News _ _ _ _ => N3
  rename Fr _ _ _ _ => F3
  refine split_K F3 N3 (by decide +kernel) (by rw [sizeLine_eq]; lia) ?_
  intro W l h4 k4 hl F4 N4 lW
  rw [hsp] at hl
  obtain ⟨⟨w0', t0⟩, l2, rfl, e0, hl2⟩ := List.map_eq_cons_iff.mp hl
  clear hl
  obtain rfl : w0' = w0 := e0
  obtain ⟨lm, ll, rfl, hlm, hll⟩ := List.map_eq_append_iff.mp hl2
  clear hl2
  obtain ⟨⟨wl', tl⟩, ll2, rfl, e1, hll2⟩ := List.map_eq_cons_iff.mp hll
  clear hll
  obtain rfl : wl' = wl := e1
  obtain rfl := List.map_eq_nil_iff.mp hll2
  simp only [List.map_cons, List.map_append, List.map_nil] at N4
  clear F3 N3
  have hml : lm.length = mid.length := by rw [← hlm, List.length_map]
  k_steps
  unfold Stop
  rename News _ _ _ _ => N5
  refine len_list (lst_of N5) (by simp; lia) ?_
  simp only [List.size_toArray, List.length_cons, List.length_append, List.length_map, List.length_nil, hml]
  k_steps
  unfold Stop
  rename News _ _ _ _ => N6
  replace N6 := news_tail N6
  have hW6 := lst_of N6
  refine item_list hW6 (by decide) (by decide) (x := .str w0' t0) rfl ?_
  clear hW6
  k_steps
  rotate_left
  · rename ((w0'.length : Int) = 0) => hz
    lia
  unfold Stop
  refine wpAny_Delete (wpAny_deleteEach_cons (delete_Subscript ?_))
  k_steps
  rename News _ _ _ _ => N7
  rename Fr _ _ _ _ => F7
  refine del_first F7 N7 (fun p hp => Nat.ne_of_lt (lW p hp)) (by simp; lia) ?_
  intro h8 n8 F8 N8
  clear F7 N7
  refine wpAny_release (wpAny_deleteEach_nil ?_)
  k_steps
  unfold Stop
  have hW8 := lst_of N8
  refine item_neg hW8 (by decide) (by simp; lia) (by decide) (x := .str wl' tl) (last_at _ _) ?_
  clear hW8
  k_steps
  rotate_left
  · rename ((wl'.length : Int) = 0) => hz
    lia
  unfold Stop
  refine wpAny_Delete (wpAny_deleteEach_cons (delete_Subscript ?_))
  k_steps
  rename News _ _ _ _ => N9
  rename Fr _ _ _ _ => F9
  refine del_last F9 N9 (fun p hp => Nat.ne_of_lt (lW p hp)) (by simp; lia) ?_
  intro h10 n10 F10 N10
  clear F9 N9
  refine wpAny_release (wpAny_deleteEach_nil ?_)
  k_steps
  obtain ⟨te, hte⟩ := frIntE F10 "endpos" (i := (got.length : Int) - (wl'.length : Int)) rfl
  obtain ⟨ts0, hts⟩ := frIntE F10 "startpos" (i := (w0'.length : Int)) rfl
  with_unfolding_all refine' For_invVF F10 ?k1 ?k2 ?_
  case k1 => exact rfl
  case k2 => exact rfl
  k_steps
  unfold Stop
  refine list_my (σ := Int × Tok) (fun c => news) (fun c => [("startpos", .int c.1 c.2), ("got", .str got tg), ("endpos", .int ((got.length : Int) - (wl'.length : Int)) te)]) [] (fun i c => ellRun got ((got.length : Int) - (wl'.length : Int)) (mid.take i) 1 = some c.1) rfl F10 N10 (fun p hp => Nat.ne_of_lt (lW p hp)) ?_ ?_ ?_
  · refine start_my ((w0'.length : Int), ts0) rfl (List.forall_mem_cons.mpr ⟨hts, List.forall_mem_cons.mpr ⟨rfl, List.forall_mem_cons.mpr ⟨hte, fun _ h => nomatch h⟩⟩⟩) ?_
    rw [h0]; rfl
  · rintro ⟨sp, ts⟩ i v u h tk own hv hoff hP F2 N2
    dsimp only at F2 N2 hP ⊢
    clear F10 N10
    have hvi : ∃ x t, v = .str x t ∧ mid[i]? = some x := by
      rw [← hlm, List.getElem?_map]
      rw [List.getElem?_map] at hv
      cases hq : lm[i]? with
      | none => rw [hq] at hv; cases hv
      | some q => rw [hq] at hv; exact ⟨q.1, q.2, (Option.some.inj hv).symm, rfl⟩
    obtain ⟨xw, xt, rfl, hxi⟩ := hvi
    k_steps
    unfold Stop
    refine find_4 ?_
    have hx1 : xw.length = 1 := hm1 _ (List.mem_of_getElem? hxi)
    k_steps
    · rename (find4 _ _ _ _ < 0) => hf
      rw [h1] at hf hP
      have e : ellRun got ((got.length : Int) - 1) mid 1 = none := ellRun_fail hP hxi hf
      rw [e] at hret
      exact hret 0 _ _ (by assumption) (newsSub (by assumption) (fun p hp => List.mem_append_left _ hp))
    · unfold Stop
      rename (¬ find4 _ _ _ _ < 0) => hf
      have e := ellRun_step hP hxi hf
      rename News _ _ _ _ => N9
      rename Fr _ _ _ _ => F9
      refine end_my (_, _) F9 N9 (fun p hp => List.mem_append_left _ hp) (fun p hp => List.mem_append_right _ hp) rfl (List.forall_mem_cons.mpr ⟨rfl, List.forall_mem_cons.mpr ⟨rfl, List.forall_mem_cons.mpr ⟨rfl, fun _ h => nomatch h⟩⟩⟩) ?_ ?_
      · walk_at "FrameRest"
      · exact e
  · rintro ⟨sp, ts⟩ u h tk hP F2 N2
    dsimp only at F2 N2 hP ⊢
    clear F10 N10
    rw [List.length_map, hml, List.take_length] at hP
    rw [h1] at hP
    have e : ellRun got ((got.length : Int) - 1) mid 1 = some sp := hP
    rw [e] at hret
    k_steps
    exact hret 0 _ _ (by assumption) (by assumption)
end Mine
end

/- Grow -/
section
open PySem PySem.W PySem.Spec PySem.Calls PyProof.Rows PyProof.V
set_option Elab.async false
set_option maxRecDepth 100000
namespace Mine
theorem reset_Grow {M : PySem.Model} {A : PySem.Around} {Q : PySem.Flow → PySem.Shared → Prop} {E : PySem.Value → PySem.Shared → Prop} {s : PySem.Shared} {env : PySem.Env} (h : Q .next s) : PySem.wpAny M A (PySem.execs [] env) Q E s := by
  w_top off
  first | (walk1; exact h) | exact PySem.wpAny_execs_nil h
/-- the end of a turn of a loop whose ledger may grow -/
noncomputable def GrowEnd {σ : Type} (h₀ : Heap) (L : Addr) (Led : σ → List (Addr × Obj)) (ps : σ → List (Str × Value)) (x : Str) (stored : List Str) (m₀ : Str → Option Value) (P : σ → Prop) (I : Addr) (io : Obj) (s₁ s₂ : Shared) : Prop :=
  ∃ (c : σ) (h' : Heap) (tk : Nat) (m' : Str → Option Value), s₂ = { s₁ with heap := h', toks := tk } ∧ Fr h₀ L h' m' ∧ News h₀ L h' (Led c ++ [(I, io)]) ∧ (∀ p ∈ Led c, p.1 ≠ I) ∧
    (∀ p ∈ ps c, m' p.1 = some p.2) ∧ (∀ z, z ≠ x → (∀ p ∈ ps c, z ≠ p.1) → stored.contains z = false → m' z = m₀ z) ∧ P c
noncomputable def GrowPost {σ : Type} (h₀ : Heap) (L : Addr) (Led : σ → List (Addr × Obj)) (ps : σ → List (Str × Value)) (x : Str) (stored : List Str) (m₀ : Str → Option Value) (P : σ → Prop) (I : Addr) (io : Obj) (s₁ : Shared) (Q : Flow → Shared → Prop) (f : Flow) (s₂ : Shared) : Prop :=
  match f with
  | .ret v => Q (.ret v) s₂
  | .brk => Q .next s₂
  | _ => GrowEnd h₀ L Led ps x stored m₀ P I io s₁ s₂
section
variable {prog : Program} {w : World} {A : Around} {E : Value → Shared → Prop} {s : Shared} {env : Env} {h₀ : Heap} {x : Str} {body : List Stmt} {Q : Flow → Shared → Prop}
theorem range_grow {σ : Type} {r : Addr} {a₀ b₀ c₁ : Int} {t₀ u₀ v₀ : Tok} {n : Nat} {m₀ : Str → Option Value}
    (Led : σ → List (Addr × Obj)) (ps : σ → List (Str × Value)) (stored : List Str) (P : Nat → σ → Prop) (c₀ : σ)
    (hh : A.handled = none) (hr : IsRange s.heap r a₀ b₀ c₁ t₀ u₀ v₀) (hsmall : Builtin.Range.small a₀ b₀ c₁ = true) (hn : Builtin.Range.rangeSize a₀ b₀ c₁ = (n : Int)) (F : Fr h₀ env.locals s.heap m₀) (N : News h₀ env.locals s.heap (Led c₀)) (hk : ∀ p ∈ ps c₀, m₀ p.1 = some p.2) (hp : P 0 c₀)
    (turn : ∀ (c : σ) (i : Nat) t (u : Str → Option Value) h tk (I : Addr) (io : Obj), i < n → (∀ p ∈ Led c, p.1 ≠ I) → P i c →
      Fr h₀ env.locals h (fun y => if y = x then some (.int (a₀ + (i : Int) * c₁) t) else kstB (fun z => if stored.contains z then u z else m₀ z) (ps c) y) → News h₀ env.locals h (Led c ++ [(I, io)]) →
      wpAny (model prog w) A (execs body env) (GrowPost h₀ env.locals Led ps x stored m₀ (P (i + 1)) I io { s with heap := h, toks := tk } Q) E { s with heap := h, toks := tk })
    (done : ∀ (c : σ) (u : Str → Option Value) h tk, P n c → Fr h₀ env.locals h (fun y => if y = x then u y else kstB (fun z => if stored.contains z then u z else m₀ z) (ps c) y) → News h₀ env.locals h (Led c) → Q .next { s with heap := h, toks := tk }) :
    wpAny (model prog w) A (pyIter (.ref r)) (fun it s₂ => LoopAtV prog w A h₀ env x body Q E it s₂) E s := by
  refine wpAny_pyIter_range hr hsmall ?_
  have W : Walks prog w A s.heap.objs.size [s.heap.objs.size] [s.heap.objs.size] n (fun i v => i < n ∧ ∃ t, v = .int (a₀ + i * c₁) t)
      (fun i h => IsRangeIter h s.heap.objs.size (a₀ + (i : Nat) * c₁) ((n : Int) - (i : Nat)) c₁) := (Walks.range hh _ a₀ c₁ n).bound
  generalize hI : s.heap.objs.size = I at W
  have hIL : env.locals ≠ I := by rw [← hI]; exact fun e => absurd F.ns.lt (e ▸ Nat.lt_irrefl _)
  refine ⟨I, [I], [I], n, _, _, m₀, Led c₀, fun i m nx => LoopS Led ps x stored m₀ P i m nx, by rw [← hI], W, fun h => hIL (List.mem_singleton.mp h), ?_, ?_, ?_, F.push _, fun p hp => ⟨Heap.get?_push_of_some _ (N p hp).1, (N p hp).2⟩, ⟨c₀, rfl, hk, fun _ _ _ _ => rfl, hp⟩, ?_, ?_⟩
  · intro b hb
    rw [List.mem_singleton.mp hb, ← hI]
    exact next_is_new F
  · intro p hp hq
    exact absurd (Heap.lt_size (N p hp).1) (by rw [List.mem_singleton.mp hq, hI]; exact Nat.lt_irrefl _)
  · rw [← hI]
    show IsRangeIter _ _ _ _ _
    rw [hn]
    simpa using Heap.get?_push_size _ rfl
  · rintro i v m₁ nx s₁ own ⟨hh', tk', rfl⟩ hin ⟨hlt, tv, rfl⟩ ⟨c, rfl, h1, h2, hP⟩ hnw hown hget hall hst F₁ N₁
    obtain ⟨io, hio⟩ : ∃ io, hh'.get? I = some io := ⟨_, hst⟩
    have hmem : (I, io) ∈ own := hall I (.head _) (by rw [← hI]; exact next_is_new F) io hio
    have hoff : ∀ p ∈ Led c, p.1 ≠ I := fun p hp e => hnw p hp (e ▸ .head _)
    have N₂ : News h₀ env.locals hh' (Led c ++ [(I, io)]) := fun p hp => by
      rcases List.mem_append.mp hp with hp | hp
      · exact N₁ p (List.mem_append_right _ hp)
      · rw [List.mem_singleton.mp hp]; exact N₁ _ (List.mem_append_left _ hmem)
    refine wpAny_mono (turn c i tv m₁ hh' tk' I io hin hoff hP (kst_fr h1 h2 F₁) N₂) (fun f s₂ p => ?_) fun _ _ e => e
    have fin : GrowEnd h₀ env.locals Led ps x stored m₀ (P (i + 1)) I io { s with heap := hh', toks := tk' } s₂ → LoopStepU h₀ env.locals [I] own (fun m nx => LoopS Led ps x stored m₀ P (i + 1) m nx) { s with heap := hh', toks := tk' } .next s₂ := by
      rintro ⟨c', h', tk, m', rfl, F', N', hne, q1, q2, q3⟩
      refine ⟨rfl, h', tk, m', Led c', rfl, F', fun p hp => ?_, fun p hp hq => hne p hp (List.mem_singleton.mp hq), ⟨c', rfl, q1, q2, q3⟩⟩
      rcases List.mem_append.mp hp with hp | hp
      · have e1 : p.1 = I := List.mem_singleton.mp (hown p hp)
        have e2 : p = (I, io) := by
          have := hget p hp
          rw [e1] at this
          have e3 : hh'.get? I = some p.2 := this
          rw [hio] at e3
          exact Prod.ext e1 (Option.some.inj e3).symm
        rw [e2]
        exact N' _ (List.mem_append_right _ (.head _))
      · exact N' p (List.mem_append_left _ hp)
    cases f with
    | ret v => exact .ret p
    | brk => exact .brk p
    | next => exact .next (fin p)
    | cont => exact .cont (fin p)
  · rintro h' tk m' nx F' N' _ ⟨c, rfl, h1, h2, hP⟩
    exact done c m' h' tk hP (kst_frOut h1 h2 F') N'
end
end Mine
end

/- Lg -/
section
open PySem PySem.W PySem.Spec PySem.Calls PyProof.Rows PyProof.V
set_option Elab.async false
set_option maxRecDepth 100000
namespace Mine
theorem reset_Lg {M : PySem.Model} {A : PySem.Around} {Q : PySem.Flow → PySem.Shared → Prop} {E : PySem.Value → PySem.Shared → Prop} {s : PySem.Shared} {env : PySem.Env} (h : Q .next s) : PySem.wpAny M A (PySem.execs [] env) Q E s := by
  w_top off
  first | (walk1; exact h) | exact PySem.wpAny_execs_nil h
noncomputable def CutP (P : Shared → Prop) (f : Flow) (s' : Shared) : Prop := f = .next ∧ P s'
section
variable {prog : Program} {w : World} {A : Around} {s : Shared} {env : Env} {Q : Flow → Shared → Prop}
/-- a cut behind a statement -/
theorem cutG {st : Stmt} {rest : List Stmt} (P : Shared → Prop) (h1 : wpG (model prog w) A (exec st env) (CutP P) s) (h2 : ∀ s', P s' → wpG (model prog w) A (execs rest env) Q s') : wpG (model prog w) A (execs (st :: rest) env) Q s := by
  refine G_execs_cons (wpG_mono h1 fun f s' h => ?_)
  obtain ⟨rfl, h⟩ := h
  exact h2 s' h
end
/-- the state between two statements -/
noncomputable def Mid (h₀ : Heap) (L : Addr) (s : Shared) (led : List (Addr × Obj)) (ps : List (Str × Value)) (s' : Shared) : Prop :=
  ∃ h' tk m', s' = { s with heap := h', toks := tk } ∧ Fr h₀ L h' (kstB m' ps) ∧ News h₀ L h' led
theorem mid_intro {h₀ : Heap} {L : Addr} {s : Shared} {h' : Heap} {tk : Nat} {m : Str → Option Value} {led led' : List (Addr × Obj)} {ps : List (Str × Value)} (F : Fr h₀ L h' m) (N : News h₀ L h' led') (hs : ∀ p ∈ led, p ∈ led') (hp : ∀ p ∈ ps, m p.1 = some p.2) : Mid h₀ L s led ps { s with heap := h', toks := tk } := by
  refine ⟨h', tk, m, rfl, ?_, fun p hp => N p (hs p hp)⟩
  have e : kstB m ps = m := by
    funext y
    exact kstB_eq hp fun _ => rfl
  rw [e]; exact F
/-- the end of a turn of a loop whose ledger may change and whose frame is free but for some names -/
noncomputable def FreePost {σ : Type} (h₀ : Heap) (L : Addr) (Led : σ → List (Addr × Obj)) (ps : σ → List (Str × Value)) (P : σ → Prop) (I : Addr) (io : Obj) (s₁ : Shared) (Q : Flow → Shared → Prop) (f : Flow) (s₂ : Shared) : Prop :=
  match f with
  | .ret v => Q (.ret v) s₂
  | .brk => Q .next s₂
  | _ => ∃ c, P c ∧ (∀ p ∈ Led c, p.1 ≠ I) ∧ Mid h₀ L s₁ (Led c ++ [(I, io)]) (ps c) s₂
section
variable {prog : Program} {w : World} {A : Around} {s : Shared} {env : Env} {h₀ : Heap} {body : List Stmt} {Q : Flow → Shared → Prop}
theorem kst_free {L : Addr} {h : Heap} {ps : List (Str × Value)} {m : Str → Option Value} (h1 : ∀ p ∈ ps, m p.1 = some p.2) (F : Fr h₀ L h m) : Fr h₀ L h (kstB m ps) := by
  have e : kstB m ps = m := by
    funext y
    exact kstB_eq h1 fun _ => rfl
  rw [e]; exact F
theorem rangeG_free {σ : Type} {target : Expr} {r : Addr} {a₀ b₀ c₁ : Int} {t₀ u₀ v₀ : Tok} {n : Nat} {m₀ : Str → Option Value}
    (Led : σ → List (Addr × Obj)) (ps : σ → List (Str × Value)) (P : Nat → σ → Prop) (c₀ : σ)
    (hps : ∀ (c : σ) (m : Str → Option Value), ∀ p ∈ ps c, kstB m (ps c) p.1 = some p.2) (hh : A.handled = none) (hr : IsRange s.heap r a₀ b₀ c₁ t₀ u₀ v₀) (hsmall : Builtin.Range.small a₀ b₀ c₁ = true) (hn : Builtin.Range.rangeSize a₀ b₀ c₁ = (n : Int)) (F : Fr h₀ env.locals s.heap m₀) (N : News h₀ env.locals s.heap (Led c₀)) (hk : ∀ p ∈ ps c₀, m₀ p.1 = some p.2) (hp : P 0 c₀)
    (turn : ∀ (c : σ) (i : Nat) t (u : Str → Option Value) h tk (I : Addr) (io : Obj), i < n → (∀ p ∈ Led c, p.1 ≠ I) → P i c →
      Fr h₀ env.locals h (kstB u (ps c)) → News h₀ env.locals h (Led c ++ [(I, io)]) →
      wpAny (model prog w) A (assign target env (.int (a₀ + (i : Int) * c₁) t)) (fun _ s₂ => wpG (model prog w) A (execs body env) (FreePost h₀ env.locals Led ps (P (i + 1)) I io { s with heap := h, toks := tk } Q) s₂) (fun _ _ => False) { s with heap := h, toks := tk })
    (done : ∀ (c : σ) (u : Str → Option Value) h tk, P n c → Fr h₀ env.locals h (kstB u (ps c)) → News h₀ env.locals h (Led c) → Q .next { s with heap := h, toks := tk })
    (ht : ∀ I v, letOwnedTupleGo target (.ref I) v = pure () := by intro _ _; rfl) :
    wpAny (model prog w) A (pyIter (.ref r)) (fun it s₂ => codeG (model prog w) A (.forLoop target it body [] env) (fun r s' => match r with | .ok f => Q f s' | .error _ => False) s₂) (fun _ _ => False) s := by
  refine wpAny_pyIter_range hr hsmall ?_
  have W : Walks prog w A s.heap.objs.size [s.heap.objs.size] [s.heap.objs.size] n (fun i v => i < n ∧ ∃ t, v = .int (a₀ + i * c₁) t)
      (fun i h => IsRangeIter h s.heap.objs.size (a₀ + (i : Nat) * c₁) ((n : Int) - (i : Nat)) c₁) := (Walks.range hh _ a₀ c₁ n).bound
  generalize hI : s.heap.objs.size = I at W
  have hIL : env.locals ≠ I := by rw [← hI]; exact fun e => absurd F.ns.lt (e ▸ Nat.lt_irrefl _)
  have hI0 : h₀.get? I = none := by rw [← hI]; exact next_is_new F
  have hoff0 : ∀ p ∈ Led c₀, p.1 ≠ I := fun p hp e => absurd (Heap.lt_size (N p hp).1) (by rw [e, hI]; exact Nat.lt_irrefl _)
  have old : ∀ b o, h₀.get? b = some o → b ∉ [I] := fun b o e hb => by rw [List.mem_singleton.mp hb, hI0] at e; cases e
  generalize hs0 : s.heap.push _ = hp0
  have F0 : Fr h₀ env.locals hp0 m₀ := hs0 ▸ F.push _
  have N0 : News h₀ env.locals hp0 (Led c₀) := fun p hp => ⟨hs0 ▸ Heap.get?_push_of_some _ (N p hp).1, (N p hp).2⟩
  have hst0 : IsRangeIter hp0 I (a₀ + (0 : Nat) * c₁) ((n : Int) - (0 : Nat)) c₁ := by
    rw [← hs0, ← hI]
    show IsRangeIter _ _ _ _ _
    rw [hn]
    simpa using Heap.get?_push_size _ rfl
  refine codeG_forLoop
    (fun k s' => ∃ h' tk m' c i, s' = { s with heap := h', toks := tk } ∧ IsRangeIter h' I (a₀ + (i : Nat) * c₁) ((n : Int) - (i : Nat)) c₁ ∧ Fr h₀ env.locals h' m' ∧ News h₀ env.locals h' (Led c) ∧ (∀ p ∈ Led c, p.1 ≠ I) ∧ P i c ∧ (∀ p ∈ ps c, m' p.1 = some p.2) ∧ i ≤ n ∧ k = n + 1 - i) ?_ (n + 1)
    ⟨hp0, s.toks, m₀, c₀, 0, rfl, hst0, F0, N0, hoff0, hp, hk, Nat.zero_le _, rfl⟩
  rintro k s' ⟨h', tk, m', c, i, rfl, hst', F', N', hoff, hP, hk1, hi, rfl⟩
  have next : ∀ h₁ : Heap, (∀ b o, b ∉ [I] → h'.get? b = some o → h₁.get? b = some o) → Fr h₀ env.locals h₁ m' ∧ News h₀ env.locals h₁ (Led c) := fun h₁ hk₁ =>
    ⟨⟨F'.ns.at' fun o e => hk₁ _ o (fun q => hIL (List.mem_singleton.mp q)) e, fun b o e => hk₁ b o (old b o e) (F'.keep b o e), F'.above⟩, fun p hp => ⟨hk₁ _ _ (fun q => hoff p hp (List.mem_singleton.mp q)) (N' p hp).1, (N' p hp).2⟩⟩
  by_cases hlt : i < n
  · refine W.item i _ _ _ hlt hst' fun v h₁ tk₁ hV hst₁ hk₁ => ?_
    obtain ⟨F₁, N₁⟩ := next h₁ hk₁
    obtain ⟨_, tv, rfl⟩ := hV
    obtain ⟨io, hio⟩ : ∃ io, h₁.get? I = some io := ⟨_, hst₁⟩
    have N₂ : News h₀ env.locals h₁ (Led c ++ [(I, io)]) := fun p hp => by
      rcases List.mem_append.mp hp with hp | hp
      · exact N₁ p hp
      · rw [List.mem_singleton.mp hp]; exact ⟨hio, Ne.symm hIL, hI0⟩
    refine wpAny_of_eq (ht _ _) ?_
    refine wpAny_mono (turn c i tv m' h₁ tk₁ I io hlt hoff hP (kst_free hk1 F₁) N₂) (fun _ s₂ h₂ => wpG_mono h₂ fun f s₃ h₃ => ?_) fun _ _ e => e
    have fin : (∃ c, P (i + 1) c ∧ (∀ p ∈ Led c, p.1 ≠ I) ∧ Mid h₀ env.locals { s with heap := h₁, toks := tk₁ } (Led c ++ [(I, io)]) (ps c) s₃) →
        ∃ m, m < n + 1 - i ∧ ∃ h' tk m' c j, s₃ = { s with heap := h', toks := tk } ∧ IsRangeIter h' I (a₀ + (j : Nat) * c₁) ((n : Int) - (j : Nat)) c₁ ∧ Fr h₀ env.locals h' m' ∧ News h₀ env.locals h' (Led c) ∧ (∀ p ∈ Led c, p.1 ≠ I) ∧ P j c ∧ (∀ p ∈ ps c, m' p.1 = some p.2) ∧ j ≤ n ∧ m = n + 1 - j := by
      rintro ⟨c', q3, hne, h₃', tk₃, m₂, rfl, F₃, N₃⟩
      refine ⟨n + 1 - (i + 1), by lia, h₃', tk₃, kstB m₂ (ps c'), c', i + 1, rfl, ?_, F₃, fun p hp => N₃ p (List.mem_append_left _ hp), hne, q3, hps c' m₂, hlt, rfl⟩
      refine W.frame _ _ _ hst₁ fun b hb o e => ?_
      rw [List.mem_singleton.mp hb] at e ⊢
      rw [hio] at e
      rw [← Option.some.inj e]
      exact (N₃ _ (List.mem_append_right _ (.head _))).1
    cases f with
    | ret v => exact h₃
    | brk => exact h₃
    | cont => exact fin h₃
    | next => exact fin h₃
  · have hin : i = n := by lia
    subst hin
    refine W.done _ _ _ hst' fun h₁ tk₁ hk₁ => ?_
    obtain ⟨F₁, N₁⟩ := next h₁ hk₁
    exact done c m' h₁ tk₁ hP (kst_free hk1 F₁) N₁
end
end Mine
end

/- Tb -/
section
open PySem PySem.W PySem.Spec PySem.Calls PyProof.Rows PyProof.V
set_option Elab.async false
set_option maxRecDepth 100000
namespace Mine
theorem reset_Tb {M : PySem.Model} {A : PySem.Around} {Q : PySem.Flow → PySem.Shared → Prop} {E : PySem.Value → PySem.Shared → Prop} {s : PySem.Shared} {env : PySem.Env} (h : Q .next s) : PySem.wpAny M A (PySem.execs [] env) Q E s := by
  w_top off
  first | (walk1; exact h) | exact PySem.wpAny_execs_nil h
structure CEnt where
  T : Addr
  a : Bool
  b : Bool
noncomputable abbrev CEnt.cell (e : CEnt) : Addr × Obj := (e.T, { cls := .type "tuple", data := .seq #[.bool e.a, .bool e.b] })
noncomputable def tup2 (q : Bool × Bool) : PyData := .tuple [.bool q.1, .bool q.2]
theorem tups_read {h : Heap} : ∀ (l : List CEnt), (∀ e ∈ l, h.get? e.T = some e.cell.2) → ReadsAll h (l.map fun e => Value.ref e.T) (l.map fun e => tup2 (e.a, e.b)) []
  | [], _ => .nil
  | e :: l, H => .cons (as := []) (.tuple (H e (.head _)) rfl rfl (.cons (as := []) (.bool e.a) (.cons (as := []) (.bool e.b) .nil))) (tups_read l fun e he => H e (.tail _ he))
theorem tups_lay : ∀ l : List (Bool × Bool), PyData.canLayAll0 (l.map tup2) = true
  | [] => by simp [PyData.canLayAll0]
  | q :: l => by simp [PyData.canLayAll0, PyData.canLay0, tup2, tups_lay l]
theorem tups_depth : ∀ l : List (Bool × Bool), PyData.depthAll (l.map tup2) ≤ 1
  | [] => by simp [PyData.depthAll]
  | q :: l => by
    have := tups_depth l
    simp only [List.map_cons, PyData.depthAll]
    have e : PyData.depth (tup2 q) ≤ 1 := by simp [PyData.depth, PyData.depthAll, tup2]
    lia
theorem tups_eqv : ∀ l : List (Bool × Bool), PyData.eqvAll (l.map tup2) (l.map tup2) = true
  | [] => by simp [PyData.eqvAll]
  | q :: l => by simp [PyData.eqvAll, PyData.eqv, tup2, tups_eqv l]
theorem tups_shaped (l : List (Bool × Bool)) : SeqAt.shaped (.list (l.map tup2)) = true := by
  have := tups_depth l
  refine Bool.and_eq_true_iff.mpr ⟨?_, decide_eq_true ?_⟩
  · simp only [PyData.canLay0, tups_lay]
  · simp only [PyData.depth]; lia
theorem ne_tups {prog : Program} {w : World} {A : Around} {E : Value → Shared → Prop} {s : Shared} {h₀ : Heap} {L : Addr} {news : List (Addr × Obj)} {a b : Addr} {ca cb : Nat} {la lb : List CEnt} {l : List (Bool × Bool)} {Q : Value → Shared → Prop}
    (N : News h₀ L s.heap news) (ha : (a, W.listOf (la.map fun e => Value.ref e.T).toArray ca) ∈ news) (hb : (b, W.listOf (lb.map fun e => Value.ref e.T).toArray cb) ∈ news) (hA : ∀ e ∈ la, e.cell ∈ news) (hB : ∀ e ∈ lb, e.cell ∈ news) (oa : la.map (fun e => (e.a, e.b)) = l) (ob : lb.map (fun e => (e.a, e.b)) = l) (hu : A.units + 64 < cLine)
    (h : Q (.bool false) s) : wpAny (model prog w) A (compareOp .NotEq (.ref a) (.ref b)) Q E s := by
  have ea : la.map (fun e => tup2 (e.a, e.b)) = l.map tup2 := by rw [← oa, List.map_map]; rfl
  have eb : lb.map (fun e => tup2 (e.a, e.b)) = l.map tup2 := by rw [← ob, List.map_map]; rfl
  have ra := tups_read la fun e he => (N _ (hA e he)).1
  have rb := tups_read lb fun e he => (N _ (hB e he)).1
  rw [ea] at ra
  rw [eb] at rb
  refine ne_dataH (da := .list (l.map tup2)) (db := .list (l.map tup2)) (Reads.list (N _ ha).1 rfl rfl ra) (Reads.list (N _ hb).1 rfl rfl rb) (tups_shaped l) (tups_shaped l) hu ?_
  have e : PyData.eqv (.list (l.map tup2)) (.list (l.map tup2)) = true := by simp [PyData.eqv, tups_eqv]
  rw [e]
  exact h
end Mine
end

/- Osa -/
section
open PySem PySem.W PySem.Spec PySem.Calls PyProof.Rows PyProof.V
set_option Elab.async false
set_option maxRecDepth 100000
open Builtin Builtin.ObjectAttr
namespace Mine
theorem reset_Osa {M : PySem.Model} {A : PySem.Around} {Q : PySem.Flow → PySem.Shared → Prop} {E : PySem.Value → PySem.Shared → Prop} {s : PySem.Shared} {env : PySem.Env} (h : Q .next s) : PySem.wpAny M A (PySem.execs [] env) Q E s := by
  w_top off
  first | (walk1; exact h) | exact PySem.wpAny_execs_nil h
theorem refuse_list (self : Value) : refuseLoop self "__setattr__" [.type "list", .type "object"] = pure () := by kernel_rfl
noncomputable def listOver (K : Frag) (C : Addr) : Bool := (clsIn K C).any fun cd => cd.mro == [.ref C, .type "list", .type "object"]
section
variable {prog : Program} {w : World} {A : Around} {s : Shared} {h₀ : Heap} {L : Addr} {m : Str → Option Value} {K : Frag} {x C dx : Addr} {R : Result → Shared → Prop}
theorem osaL_open {ox : Obj} {od : Option Obj} {name : Str} {tk : Tok} {v : Value} {r : Option Value} (X : K.In s.heap) (I : W.InstAt s.heap x ox C od) (hp : listOver K C = true) (ht : takerIn K C name = some r)
    (h : ∀ b, wpAny (model prog w) A.in1 (match r with | some a => setByDescriptor a (.ref x) v | none => storeInOwnDict (.ref x) (.ref C) (.str name tk) name v b)
      (fun fin s' => match fin with | .done f => R (.ok f) s' | .again c' => c'.quiet = true ∧ codeAny (model prog w) A c' R s') (fun e s' => R (.error e) s') s) :
    codeAny (model prog w) A (.call (.builtin "object.__setattr__") ⟨[.ref x, .str name tk, v], []⟩) R s := by
  have SF := PySem.F.store_object
  obtain ⟨cd, hc, ho⟩ := any_some hp
  have ho : cd.mro = [.ref C, .type "list", .type "object"] := beq_iff_eq.mp ho
  have ne : cd.mro.isEmpty = false := by rw [ho]; rfl
  have sub : Looks (model prog w) s.heap (isInstance (.ref x) (.type "object")) true := I.type.andThen (looks_mroIn X (by unfold mroIn; rw [hc, Option.bind_some, if_neg (by rw [ne]; decide), ho]; rfl))
  refine codeAny_call_builtin SF.slot.plain SF.entry (@check_slot (model prog w) _ _ s "object.__setattr__" "object" "__setattr__" (.ref x) [.str name tk, v] [] _ SF.kind SF.split sub (SF.args (.ref x) (.str name tk) v) ?_)
  obtain ⟨attr, ha, hr⟩ := Option.bind_eq_some_iff.mp ht
  have hm : Looks (model prog w) s.heap (mroOf (.ref C)) cd.mro := (looks_clsIn X hc).andThen .now
  have L3 : Looks (model prog w) s.heap (storeTaker? attr) r := by
    cases attr with
    | none => cases hr; exact .now
    | some a =>
      obtain ⟨b, hb, rfl⟩ := Option.map_eq_some_iff.mp hr
      refine (looks_takesIn X hb).andThen ?_
      cases b <;> exact .now
  rw [osa_eq, refuse_eq]
  refine wpAny_bind (wpAny_bind (I.type.here (wpAny_bind (hm.here ?_))))
  rw [ho, refuseLoop_ref, refuse_list]
  refine wpAny_pure (wpAny_bind (I.type.here (wpAny_bind ((looks_findIn X ha).here (wpAny_bind (L3.here ?_))))))
  exact h _

theorem osaL_dict {ox od od' : Obj} {name : Str} {tk : Tok} {v : Value} {pre post : List (Addr × Obj)} {es : List DictEntry} {n : Nat} (F : Fr h₀ L s.heap m) (N : News h₀ L s.heap (pre ++ (dx, od) :: post)) (X : K.In s.heap)
    (I : W.InstAt s.heap x ox C (some od)) (hd : ox.dict = some dx) (hp : listOver K C = true) (ht : takerIn K C name = some none) (hh : (clsIn K C).any (·.hasDict) = true)
    (hl : (lookIn name od).isSome = true) (h1 : ∀ p ∈ pre, p.1 ≠ dx) (h2 : ∀ p ∈ post, p.1 ≠ dx)
    (e : Obj.putName name (PyData.keyHash w.params name) (.str name s.toks) v od = od') (e' : od'.data = .dict es.toArray n) (hz : es.length ≤ 1000)
    (h : ∀ h', Fr h₀ L h' m → News h₀ L h' (pre ++ (dx, od') :: post) → R (.ok (.ret .none)) { s with heap := h', toks := s.toks + 1 }) :
    codeAny (model prog w) A (.call (.builtin "object.__setattr__") ⟨[.ref x, .str name tk, v], []⟩) R s := by
  refine osaL_open X I hp ht fun b => ?_
  obtain ⟨cd, hc, hd'⟩ := any_some hh
  obtain ⟨U1, U2⟩ := news_upd (f := Obj.putName name (PyData.keyHash w.params name) (.str name s.toks) v) F N h1 h2 e (by obtain ⟨_, _, dd, _⟩ := od'; cases e'; rfl)
  have D := (N (dx, od) (by simp)).1
  have D' := (U2 (dx, od') (by simp)).1
  obtain ⟨hx, hcl, hn, -⟩ := I
  obtain ⟨oc, odi, oda, osl⟩ := ox
  dsimp only at hcl hd
  subst hcl hd
  refine wpAny_bind (wpAny_pure (wpAny_bind (wpAny_bind (wpAny_loadPart hx (wpAny_bind ((looks_clsIn X hc).here ?_))))))
  rw [hd']
  refine wpAny_pure (a := some dx) (wpAny_bind (wpAny_pure (wpAny_bind ?_)))
  unfold nsSet
  refine wpAny_bind (wpAny_bind (wpAny_askSetting (wpAny_pure (wpAny_bind (wpAny_mkText (wpAny_bind (wpAny_loadPart D ?_)))))))
  unfold lookIn at hl
  split at hl
  · rename_i es₀ n₀ q
    rw [q]
    dsimp only
    have c : (!es₀.any (·.key.isStr name) && es₀.any (·.refKey)) = false := by
      rw [← Array.any_toList, ← Array.any_toList]
      split at hl
      · rename_i en he
        rw [List.any_eq_true.mpr ⟨en, List.mem_of_find?_eq_some he, List.find?_some he⟩]; rfl
      · split at hl
        · cases hl
        · rename_i z; rw [Bool.not_eq_true] at z; rw [z, Bool.and_false]
    rw [aRefKeyMayBeTheName_at, c]
    refine wpAny_updatePart D ?_
    refine wpAny_bind (wpAny_lookBehind D' (by rw [e']; exact pastItsLine_dict (by rw [List.size_toArray, sizeLine_eq]; lia)) ?_)
    exact wpAny_pure (h _ U1 U2)
  · cases hl
theorem set_dictL {E : Value → Shared → Prop} {news news' : List (Addr × Obj)} {name : Str} {v : Value} {es es' : List DictEntry} {n n' : Nat} {xs : List Value} {k : Nat} {Q : Unit → Shared → Prop} (F : Fr h₀ L s.heap m) (X₀ : K.In h₀) (N : News h₀ L s.heap news) (I : W.InstAt s.heap x (subObj C dx xs k) C (some (dictOf es n)))
    (hs : findIn K (.ref C) "__setattr__" = some (some (.builtin "object.__setattr__"))) (hp : listOver K C = true) (ht : takerIn K C name = some none) (hh : hasDictIn K C = true) (hl : (getL name es).isSome = true)
    (e : (putL name (PyData.keyHash w.params name) (.str name (s.toks + 1)) v es, putN name es n) = (es', n')) (U : Upd dx (dictOf es n) (dictOf es' n') news news') (hz : es'.length ≤ 1000)
    (h : ∀ h', Fr h₀ L h' m → News h₀ L h' news' → Q () { s with heap := h', toks := s.toks + 2 }) :
    wpAny (model prog w) A (setAttr (.ref x) name v) Q E s := by
  obtain ⟨pre, post, rfl, rfl, a, b⟩ := U.split
  obtain ⟨e1, e2⟩ := Prod.mk.inj e
  exact set_plain (X₀.keeps F.keep) I hs (osaL_dict (s := { s with toks := s.toks + 1 }) F N (X₀.keeps F.keep) I rfl hp ht hh hl a b (by rw [putName_dict, e1, e2]) rfl hz fun h' F' N' => h h' F' N')
end
end Mine
end

/- P1 -/
section
open PySem PySem.W PySem.Spec PySem.Calls PyProof.Rows PyProof.V
set_option Elab.async false
set_option maxRecDepth 100000
namespace Mine
theorem reset_P1 {M : PySem.Model} {A : PySem.Around} {Q : PySem.Flow → PySem.Shared → Prop} {E : PySem.Value → PySem.Shared → Prop} {s : PySem.Shared} {env : PySem.Env} (h : Q .next s) : PySem.wpAny M A (PySem.execs [] env) Q E s := by
  w_top off
  first | (walk1; exact h) | exact PySem.wpAny_execs_nil h
set_option maxHeartbeats 1000000
local macro_rules | `(tactic| k_inst) => `(tactic| walk_at "mine inst")
theorem frInt {h₀ h : Heap} {L : Addr} {m : Str → Option Value} (_F : Fr h₀ L h m) (x : Str) {i : Int} {t : Tok} (e : m x = some (.int i t)) : ∃ t, m x = some (.int i t) := ⟨t, e⟩
theorem nameObj5 {h₀ h : Heap} {L d : Addr} {a b c e : Addr × Obj} {od : Obj} {r : List (Addr × Obj)} (_N : News h₀ L h (a :: b :: c :: e :: (d, od) :: r)) : ∃ od', od' = od := ⟨od, rfl⟩
local macro_rules | `(tactic| size_fits) => `(tactic| walk_at "mine size")
local macro_rules | `(tactic| walk_at "call builtin:len") => `(tactic| walk_at "mine len")
/-- a mark as it is written -/
noncomputable def pc (u : Bool) : Array UInt8 := if u then #[38, 108, 116, 59] else #[38, 103, 116, 59]
noncomputable def ps (u : Bool) : Str := if u then Str.ofString "&lt;" else Str.ofString "&gt;"
structure PL where
  stk : List (Nat × Bool)
  home : Int
  rise : Int
  met : List Str
noncomputable def plStep (up : Nat → Bool) (lt : Nat → Str) (k : Nat) (s : PL) : PL :=
  match s.stk.getLast? with
  | none => { s with stk := [(k, up k)], rise := if up k then 4 * (k : Int) else s.rise }
  | some (j, u) => if u = up k then { s with stk := s.stk ++ [(k, up k)] } else
     { s with stk := s.stk.dropLast, met := s.met ++ [lt j ++ lt k], home := if up k && decide (s.home < 0) && s.stk.dropLast.isEmpty then 4 * (k : Int) else s.home }
noncomputable def plRun (up : Nat → Bool) (lt : Nat → Str) : Nat → PL
  | 0 => ⟨[], -1, -1, []⟩
  | i + 1 => plStep up lt i (plRun up lt i)
structure PEnt where
  T : Addr
  let_ : Str
  pie : Str
  t1 : Tok
  t2 : Tok
noncomputable abbrev PEnt.cell (e : PEnt) : Addr × Obj := (e.T, { cls := .type "tuple", data := .seq #[.str e.let_ e.t1, .str e.pie e.t2] })
structure PSt where
  ents : List PEnt
  home : Int
  th : Tok
  rise : Int
  tr : Tok
  met : List (Str × Tok)
  nP : Nat
  nM : Nat
noncomputable abbrev PLed (P d M : Addr) (dd : Obj) (news : List (Addr × Obj)) (c : PSt) : List (Addr × Obj) :=
  (M, W.listOf (c.met.map fun e => Value.str e.1 e.2).toArray c.nM) :: (P, subObj 101 d (c.ents.map fun e => .ref e.T) c.nP) :: (d, dd) :: (c.ents.map PEnt.cell ++ news)
noncomputable def PInv (up : Nat → Bool) (lt : Nat → Str) (P M d : Addr) (i : Nat) (c : PSt) : Prop :=
  c.home = (plRun up lt i).home ∧ c.rise = (plRun up lt i).rise ∧ c.met.map (·.1) = (plRun up lt i).met ∧ c.ents.map (fun e => (e.let_, e.pie)) = (plRun up lt i).stk.map (fun q => (lt q.1, ps q.2)) ∧ (∀ e ∈ c.ents, e.T ≠ P ∧ e.T ≠ M ∧ e.T ≠ d ∧ e.let_.length = 1 ∧ PyData.strOk e.let_ = true) ∧ c.ents.length ≤ i ∧ c.met.length ≤ i
local macro_rules | `(tactic| walk_at $k:str) => if (["pyIter ref", "call builtin:list.append", "call builtin:bytes.decode", "call ref"] : List String).contains k.getString then `(tactic| walk_at "mine stop") else Lean.Macro.throwUnsupported
local macro_rules | `(tactic| walk_at "callWith ref") => `(tactic| walk_at "mine callWith")
local macro_rules | `(tactic| walk_at "getMethod ref") => `(tactic| (k_here; ks_any; k_dflt (refine' su_method (name := "__init__") ?k1 ?k2 ?k3 ?k4 ?k5 ?k6 ?k7 ?k8 ?k9 (fun _ hx hs => gets_init hx rfl hs) ?_; (case k1 => k_asm); (case k2 => k_asm); (case k3 => k_asm); (case k4 => k_mem); (case k5 => k_mem); (case k6 => k_is); (case k7 => ks_is); (case k8 => k_is); (case k9 => decide); intro q' h' F' N' l1; (try k_lt l1))))
local macro_rules | `(tactic| walk_at "cell_enter") => `(tactic| (refine' ks_code_super ?k1 ?k2 ?k3 ?k4 ?k5 ?kA ?kF ?kK ?k6 ?k7 ?k8 ?k9 ?kB ?_ ?c1 ?c2 ?c3 ?c4; (case kA => exact rfl); (case kF => exact rfl); (case kK => first | assumption | exact rfl); (case k1 => k_asm); (case k2 => k_asm); (case k3 => k_asm); (case k4 => k_asm); (case k5 => k_asm); (case k6 => k_is); (case k7 => k_is); (case k8 => first | ktr_room | (show dp + 1 < recursionLimit; lia)); (case k9 => first | exact BindsTo.of_eq rfl | exact binds_K (by k_in) rfl (by k_is) rfl rfl rfl); (case kB => exact locs rfl); (case c1 => decide); (case c2 => exact rfl); (case c3 => exact rfl); (case c4 => exact rfl); intro g' L' h' FG' F' N' B' X' T' l1; (try k_lt l1); (try dsimp only); (try k_lift B')))
local macro_rules | `(tactic| walk_at "setAttr ref") => `(tactic| (k_here; k_dflt (refine' set_dictL ?k1 ?k2 ?k3 ?k4 ?k6 ?k7 ?k8 ?k9 ?k10 ?k11 ?k12 ?k13 ?_; (case k1 => k_asm); (case k2 => k_asm); (case k3 => k_asm); (case k4 => k_inst); (case k6 => k_is); (case k7 => kernel_rfl); (case k8 => k_is); (case k9 => k_is); (case k10 => k_get); (case k11 => k_put); (case k12 => k_upd); (case k13 => exact Nat.le_of_ble_eq_true rfl); intro h' F' N'; (try k_sweep))))
local macro_rules | `(tactic| walk_at "wpAt") => `(tactic| ((try dsimp only); ks_step "execs cons"; refine Stop.out ?_))
local macro_rules | `(tactic| walk_at "subscriptTail") => `(tactic| (k_here; (with_reducible show wpAny _ _ (subscriptTail _ (Expr.Slice _ _ none _) (Value.bytes _ _) (Value.ref _)) _ _ _); (with_reducible rename Fr _ _ _ _ => F'); (with_reducible rename News _ _ _ _ => N'); (refine slice_b (s := ⟨_, _, _, _, _⟩) F' N' (by constructor) (by constructor) (by lia) ?_); intro _ _ _ _ _))
local macro_rules | `(tactic| walk_at "getMethod ref") => `(tactic| (k_here; k_dflt (refine' method_L ?k1 ?k2 ?k3 ?k4 ?k5 ?k6 ?k7 ?k8 ?k9 ?k10 ?_; (case k1 => k_asm); (case k2 => k_asm); (case k3 => k_inst); (case k4 => k_is); (case k5 => decide +kernel); (case k6 => k_is); (case k7 => k_is); (case k8 => k_is); (case k9 => decide); (case k10 => assumption))))
theorem pl_empty {up : Nat → Bool} {lt : Nat → Str} {k : Nat} {s : PL} (h : s.stk = []) : plStep up lt k s = { s with stk := [(k, up k)], rise := if up k then 4 * (k : Int) else s.rise } := by
  unfold plStep; rw [h]; rfl
theorem pl_same {up : Nat → Bool} {lt : Nat → Str} {k j : Nat} {u : Bool} {st : List (Nat × Bool)} {s : PL} (h : s.stk = st ++ [(j, u)]) (hu : u = up k) : plStep up lt k s = { s with stk := s.stk ++ [(k, up k)] } := by
  unfold plStep
  have : s.stk.getLast? = some (j, u) := by rw [h]; simp
  rw [this]
  dsimp only
  rw [if_pos hu]
theorem pl_diff {up : Nat → Bool} {lt : Nat → Str} {k j : Nat} {u : Bool} {st : List (Nat × Bool)} {s : PL} (h : s.stk = st ++ [(j, u)]) (hu : u ≠ up k) :
    plStep up lt k s = { s with stk := st, met := s.met ++ [lt j ++ lt k], home := if up k && decide (s.home < 0) && st.isEmpty then 4 * (k : Int) else s.home } := by
  unfold plStep
  have : s.stk.getLast? = some (j, u) := by rw [h]; simp
  have e2 : s.stk.dropLast = st := by rw [h]; simp
  rw [this]
  dsimp only
  rw [if_neg hu, e2]
theorem ps_eq (u : Bool) : (ps u == Str.ofString "&lt;") = u := by cases u <;> decide +kernel
theorem news_tup {h₀ h : Heap} {L T : Addr} {a b : Str} {t1 t2 : Tok} {r : List (Addr × Obj)} (N : News h₀ L h ((T, { cls := .type "tuple", data := .seq #[.str a t1, .str b t2] }) :: r)) : ∃ u1 u2, News h₀ L h ((T, { cls := .type "tuple", data := .seq #[.str a u1, .str b u2] }) :: r) := ⟨t1, t2, N⟩
theorem news_push {h₀ h : Heap} {L T : Addr} {a : Str} {t : Tok} {k : Nat} {l : List Value} {r : List (Addr × Obj)} (N : News h₀ L h ((T, W.listOf (l.toArray.push (Value.str a t)) k) :: r)) : ∃ u, News h₀ L h ((T, W.listOf (l ++ [Value.str a u]).toArray k) :: r) := ⟨t, by rw [← List.push_toArray]; exact N⟩
theorem pinv_diff {up : Nat → Bool} {lt : Nat → Str} {P M d : Addr} {i : Nat} {es : List PEnt} {e : PEnt} {hm hm' ri : Int} {th' tr : Tok} {met : List (Str × Tok)} {nP' nM' : Nat} {st : List (Nat × Bool)} {j : Nat} {u : Bool} {t' : Tok}
    (q1 : hm = (plRun up lt i).home) (q2 : ri = (plRun up lt i).rise) (q3 : met.map (·.1) = (plRun up lt i).met) (hst : st.map (fun q => (lt q.1, ps q.2)) = es.map (fun e => (e.let_, e.pie))) (hstk : (plRun up lt i).stk = st ++ [(j, u)])
    (q5 : ∀ e' ∈ es ++ [e], e'.T ≠ P ∧ e'.T ≠ M ∧ e'.T ≠ d ∧ e'.let_.length = 1 ∧ PyData.strOk e'.let_ = true) (q6 : (es ++ [e]).length ≤ i) (q7 : met.length ≤ i) (hu : u ≠ up i)
    (hh : hm' = if up i && decide (hm < 0) && st.isEmpty then 4 * (i : Int) else hm) : PInv up lt P M d (i + 1) ⟨es, hm', th', ri, tr, met ++ [(lt j ++ lt i, t')], nP', nM'⟩ := by
  refine ⟨?_, ?_, ?_, ?_, ?_, ?_, ?_⟩ <;> simp only [plRun, pl_diff hstk hu]
  · rw [hh, q1]
  · exact q2
  · rw [List.map_append, q3]; rfl
  · exact hst.symm
  · exact fun e' he => q5 e' (List.mem_append_left _ he)
  · rw [List.length_append] at q6; lia
  · rw [List.length_append]; simp only [List.length_cons, List.length_nil]; lia
theorem st_len {lt : Nat → Str} {st : List (Nat × Bool)} {es : List PEnt} (hst : st.map (fun q => (lt q.1, ps q.2)) = es.map (fun e => (e.let_, e.pie))) : st.isEmpty = decide (es.length = 0) := by
  have := congrArg List.length hst
  rw [List.length_map, List.length_map] at this
  rw [← this]
  cases st <;> simp
theorem ps_ok (u : Bool) : PyData.strOk (ps u) = true := by cases u <;> decide +kernel
theorem ps_inj {u v : Bool} : ps u = ps v ↔ u = v := by cases u <;> cases v <;> simp <;> decide +kernel
theorem idx4 (i : Nat) : (0 + (i : Int) * 4).fdiv 4 = (i : Int) := by
  rw [Int.zero_add, Int.fdiv_eq_ediv_of_nonneg _ (by decide)]
  lia
theorem grow_end {σ : Type} {h₀ : Heap} {L : Addr} {Led : σ → List (Addr × Obj)} {ps : σ → List (Str × Value)} {x : Str} {stored : List Str} {m₀ m' : Str → Option Value} {P : σ → Prop} {I : Addr} {io : Obj} {s₁ : Shared} {Q : Flow → Shared → Prop} {h' : Heap} {tk : Nat} (c' : σ)
    (F : Fr h₀ L h' m') (N : News h₀ L h' (Led c' ++ [(I, io)])) (off : ∀ p ∈ Led c', p.1 ≠ I) (hk : ∀ p ∈ ps c', m' p.1 = some p.2) (hr : ∀ z, z ≠ x → (∀ p ∈ ps c', z ≠ p.1) → stored.contains z = false → m' z = m₀ z) (hp : P c') :
    GrowPost h₀ L Led ps x stored m₀ P I io s₁ Q .next { s₁ with heap := h', toks := tk } := ⟨c', h', tk, m', rfl, F, N, off, hk, hr, hp⟩
local macro_rules | `(tactic| walk_at "FrameRest") => `(tactic| walk_at "mine frame")
theorem ascii_pc (u : Bool) : ascii (pc u) = ps u := by cases u <;> decide +kernel
theorem pc_size (u : Bool) : (pc u).size = 4 := by cases u <;> rfl
theorem pc_low (u : Bool) : ∀ x ∈ (pc u).toList, x.toNat < 128 := by cases u <;> decide
noncomputable abbrev RetPl (h₀ : Heap) (L : Addr) (m : Str → Option Value) (news : List (Addr × Obj)) (s : Shared) (Q : Value → Shared → Prop) (home rise : Int) (met : List Str) : Prop :=
  ∀ (T D : Addr) (t1 t2 : Tok) (mts : List (Str × Tok)) (cnt : Nat) (h' : Heap) (tk' : Nat), mts.map (·.1) = met → Fr h₀ L h' m →
    News h₀ L h' ((T, { cls := .type "tuple", data := .seq #[.int home t1, .int rise t2, .ref D] }) :: (D, W.listOf (mts.map fun e => Value.str e.1 e.2).toArray cnt) :: news) → (∀ p ∈ news, p.1 < D) → D < T → Q (.ref T) { s with heap := h', toks := tk' }
theorem c_places (w : World) (news : List (Addr × Obj)) (b : Array UInt8) (tb tl : Tok) (letters : Str) (n : Nat) (hb : b.size = 4 * n) (hn : n ≤ 8) (up : Nat → Bool) (hup : ∀ i, i < n → (b.toList.drop (4 * i)).take 4 = (pc (up i)).toList) (hle : n ≤ letters.length) (hok : ∀ i : Nat, i < n → PyData.strOk (Txt.item letters (i : Int)) = true) :
    ClaimS 20 w 152 news [.bytes b tb, .str letters tl] (fun h₀ L m s Q => RetPl h₀ L m news s Q (plRun up (fun i => Txt.item letters (i : Int)) n).home (plRun up (fun i => Txt.item letters (i : Int)) n).rise (plRun up (fun i => Txt.item letters (i : Int)) n).met) := by
  unfold ClaimS
  k_fill
  intro p loose mean mg mb dp un gd cn cs a ccd cl outer A₀ base h₀ L m s Q E B F X N T hk hdp hu hret
  refine wpAny_call ?_
  k_dflt cell_enter
  rename Fr h₀ L _ m => FG
  rename Below _ _ _ _ => BG
  rename Frag.In _ _ => XG
  rename Top _ _ _ _ _ _ => TG
  k_steps
  unfold Stop
  rename News _ _ _ _ => N1
  rename Fr _ _ _ _ => F1
  have X1 := XG
  refine call_L (fI := 38) F1 N1 X1 (lmakes_of (X1.keeps F1.keep) (by k_is) rfl rfl rfl rfl rfl rfl (by k_is) (by k_is)) (by k_is) (by k_is) ?_
  intro x dx h2 F2 N2 l1 l2
  clear F1 N1
  have l1c := l1
  have l2c := l2
  (try k_lt l1); (try k_lt2 l2)
  k_dflt (walk_at "cell_enter")
  refine ks_wpAt_execs_cons ?_
  k_steps
  unfold Stop
  refine ks_wpAt_execs_cons (ks_wpAt_Expr_any (ks_wpAt_MethodCall ?_))
  · k_steps
    unfold Stop
    rename (_ ∧ _ ∧ _ ∧ AllLt _ news) => lt5
    rename (_ ∧ _ ∧ AllLt _ news) => l1s
    rename News _ _ _ _ => N5
    rename Fr _ _ _ _ => F5
    obtain ⟨q5, so5, P5, d5, e1, e2, e3, e4⟩ := name4 N5
    subst e1; subst e2
    have hsP : x < so5 := l1s.1
    have offd : ∀ p ∈ news, p.1 ≠ dx := fun p hp => Nat.ne_of_lt (l1c p hp)
    have offx : ∀ p ∈ news, p.1 ≠ x := fun p hp => Nat.ne_of_lt (Nat.lt_trans (l1c p hp) l2c)
    have offdx : dx ≠ x := Nat.ne_of_lt l2c
    refine init_L (pre := [(_, _), (_, _)]) (post := (dx, _) :: news) F5 N5 (.head _) (List.forall_mem_cons.mpr ⟨Nat.ne_of_gt lt5.2.1, fun p hp => by rw [List.mem_singleton.mp hp]; exact Nat.ne_of_gt hsP⟩) (List.forall_mem_cons.mpr ⟨offdx, offx⟩) ?_
    intro h6 n6 F6 N6
    clear F5 N5
    dsimp only [List.cons_append, List.nil_append] at N6
    k_steps
    unfold Stop
    rename IsRange _ _ _ _ _ _ _ _ => hR
    rename News _ _ _ _ => N7
    rename Fr _ _ _ _ => F7
    rename (_ ∧ _ ∧ _ ∧ _ ∧ AllLt _ news) => lt7
    obtain ⟨M, eM⟩ := nameHead N7
    subst eM
    obtain ⟨dd, edd⟩ := nameObj5 N7
    rw [← edd] at N7
    have hs1 : shadowIn (some dd) "push" = some false := by rw [edd]; rfl
    have hs2 : shadowIn (some dd) "pop" = some false := by rw [edd]; rfl
    have hs3 : shadowIn (some dd) "part_count" = some false := by rw [edd]; rfl
    have hs4 : shadowIn (some dd) "append" = some false := by rw [edd]; rfl
    clear edd
    have ltM : ∀ p ∈ news, p.1 < M := all_of_allLt lt7.2.2.2.2
    have offM : ∀ p ∈ news, p.1 ≠ M := fun p hp => Nat.ne_of_lt (all_of_allLt lt7.2.2.2.2 p hp)
    have offMP : x ≠ M := Nat.ne_of_lt lt7.2.2.1
    have offMd : dx ≠ M := Nat.ne_of_lt lt7.2.2.2.1
    clear lt5 lt7 l1s l1c l2c hsP
    obtain ⟨t1, ht1⟩ := frInt F7 "home" rfl
    obtain ⟨t2, ht2⟩ := frInt F7 "rise" rfl
    refine range_grow (σ := PSt) (n := n) (PLed x dx M dd news) (fun c => [("home", .int c.home c.th), ("rise", .int c.rise c.tr)]) ["piece", "mate", "top"] (PInv up (fun i => Txt.item letters (i : Int)) x M dx) ⟨[], -1, t1, -1, t2, [], n6, 0⟩ rfl hR ?_ ?_ F7 (newsSub N7 ?hN) ?hk ?_ ?_ ?_
    case hk => exact List.forall_mem_cons.mpr ⟨ht1, List.forall_mem_cons.mpr ⟨ht2, fun _ h => nomatch h⟩⟩
    case hN =>
      intro p hp
      rcases List.mem_cons.mp hp with rfl | hp
      · exact .head _
      · exact .tail _ (.tail _ (.tail _ hp))
    · rw [hb]
      have : n = 0 ∨ n = 1 ∨ n = 2 ∨ n = 3 ∨ n = 4 ∨ n = 5 ∨ n = 6 ∨ n = 7 ∨ n = 8 := le8 (by assumption)
      rcases this with h | h | h | h | h | h | h | h | h <;> subst h <;> decide
    · rw [hb]
      have : n = 0 ∨ n = 1 ∨ n = 2 ∨ n = 3 ∨ n = 4 ∨ n = 5 ∨ n = 6 ∨ n = 7 ∨ n = 8 := le8 (by assumption)
      rcases this with h | h | h | h | h | h | h | h | h <;> subst h <;> decide
    · exact ⟨rfl, rfl, rfl, rfl, fun _ h => (by cases h), Nat.le_refl _, Nat.le_refl _⟩
    · rintro ⟨ents, hm, th, ri, tr, met, nP, nM⟩ i t u h tk I io hi hoff hP F8 N8
      dsimp only at F8 N8 hP hoff ⊢
      clear hR ht1 ht2
      (revert F8; revert N8; revert FG; walk_at "mine past"; intro FG N8 F8)
      k_fold
      k_steps
      unfold Stop
      have epk : KBy.picked b (some (0 + (i : Int) * 4)) (some (0 + (i : Int) * 4 + 4)) = pc (up i) := by
        rw [KBc.picked_eq]
        simp only [Option.elim]
        rw [show (0 + (i : Int) * 4) = ((4 * i : Nat) : Int) by lia, show (((4 * i : Nat) : Int) + 4) = ((4 * i + 4 : Nat) : Int) by lia]
        simp only [clipAt_nat, hb]
        rw [Nat.min_eq_left (by lia), Nat.min_eq_left (by lia), show 4 * i + 4 - 4 * i = 4 by lia]
        rw [hup i hi]
      rw [epk]
      refine decode_ascii (pc_low _) (by rw [pc_size]; decide) (by rw [pc_size]; decide) ?_
      intro tpc kpc
      rw [ascii_pc]
      obtain ⟨q1, q2, q3, q4, q5', q6, q7⟩ := hP
      dsimp only at q1 q2 q3 q4 q5' q6 q7
      rename News _ _ _ _ => N9
      rename Fr _ _ _ _ => F9
      (revert F9; revert N9; revert FG; walk_at "mine past"; intro FG N9 F9)
      have hxI : x ≠ I := hoff (x, _) (.tail _ (.head _))
      have hMI : M ≠ I := hoff (M, _) (.head _)
      have hdI : dx ≠ I := hoff (dx, _) (.tail _ (.tail _ (.head _)))
      have hnI : ∀ p ∈ news, p.1 ≠ I := fun p hp => hoff p (.tail _ (.tail _ (.tail _ (List.mem_append_right _ hp))))
      have heI : ∀ e ∈ ents, e.T ≠ I := fun e he => hoff e.cell (.tail _ (.tail _ (.tail _ (List.mem_append_left _ (List.mem_map_of_mem he)))))
      rcases List.eq_nil_or_concat ents with hents | ⟨es, e, hents⟩
      · subst hents
        have N10 := newsSub (l' := (x, subObj 101 dx [] nP) :: (dx, dd) :: (M, W.listOf (met.map fun e => Value.str e.1 e.2).toArray nM) :: (I, io) :: news) N9 (by walk_at "mine perm")
        (revert F9; revert N10; revert FG; walk_at "mine past"; intro FG N10 F9)
        k_steps
        unfold Stop
        refine c_pop0 w _ x dx nP dd hs3 p loose mean mg mb _ _ _ _ _ _ _ _ _ _ _ _ _ _ _ _ _ BG (by assumption) XG (by assumption) TG rfl (by show dp + 1 + 10 < recursionLimit; lia) (by show un + 3 + 10 * 10 < cLine; lia) ?_
        intro T1 ta1 tb1 h11 tk11 F11 N11 lt11 ltd ltP
        (revert F11; revert N11; revert FG; walk_at "mine past"; intro FG N11 F11)
        have offR : ∀ p ∈ ((M, W.listOf (met.map fun e => Value.str e.1 e.2).toArray nM) :: (I, io) :: news), p.1 ≠ x := List.forall_mem_cons.mpr ⟨Ne.symm offMP, List.forall_mem_cons.mpr ⟨Ne.symm hxI, offx⟩⟩
        k_steps
        all_goals unfold Stop
        · rename News _ _ _ _ => N12
          rename Fr _ _ _ _ => F12
          have N13 := newsSub (l' := (x, subObj 101 dx [] nP) :: (dx, dd) :: (M, W.listOf (met.map fun e => Value.str e.1 e.2).toArray nM) :: (I, io) :: news) N12 (by walk_at "mine perm")
          (revert F12; revert N13; revert FG; walk_at "mine past"; intro FG N13 F12)
          refine c_push w _ x dx [] nP dd (by simp) hs4 offR offdx _ _ _ _ p loose mean mg mb _ _ _ _ _ _ _ _ _ _ _ _ _ _ _ _ _ BG F12 XG N13 TG rfl (by show dp + 1 + 5 < recursionLimit; lia) (by show un + 3 + 10 * 5 < cLine; lia) ?_
          intro T2 n2 h14 tk14 F14 N14 lt14 ltd14 ltP14
          (revert F14; revert N14; revert FG; walk_at "mine past"; intro FG N14 F14)
          k_steps
          refine grow_end ⟨[⟨T2, Txt.item letters ((0 + (i : Int) * 4).fdiv 4), ps (up i), _, _⟩], hm, th, _, _, met, n2, nM⟩ F14 (newsSub N14 (by walk_at "mine perm")) (List.forall_mem_cons.mpr ⟨hMI, List.forall_mem_cons.mpr ⟨hxI, List.forall_mem_cons.mpr ⟨hdI, List.forall_mem_cons.mpr ⟨Nat.ne_of_gt (lt14 _ (.tail _ (.head _))), hnI⟩⟩⟩⟩)
            (List.forall_mem_cons.mpr ⟨rfl, List.forall_mem_cons.mpr ⟨rfl, fun _ h => nomatch h⟩⟩) ?_ ?_
          · walk_at "FrameRest"
          · have hstk : (plRun up (fun i => Txt.item letters (i : Int)) i).stk = [] := List.map_eq_nil_iff.mp q4.symm
            have hup1 : up i = true := by rename ((ps (up i) == _) = true) => e5; rw [ps_eq] at e5; exact e5
            refine ⟨?_, ?_, ?_, ?_, ?_, ?_, ?_⟩ <;> simp only [plRun, pl_empty hstk, hup1]
            · exact q1
            · simp only [if_true]; lia
            · exact q3
            · simp only [List.map_cons, List.map_nil, idx4]
            · intro e he
              rw [List.mem_singleton.mp he]
              exact ⟨Nat.ne_of_gt ltP14, Nat.ne_of_gt (lt14 _ (.head _)), Nat.ne_of_gt ltd14, by dsimp only; lia, by dsimp only; rw [idx4]; exact hok i hi⟩
            · simp
            · lia
        · rename News _ _ _ _ => N12
          rename Fr _ _ _ _ => F12
          have N13 := newsSub (l' := (x, subObj 101 dx [] nP) :: (dx, dd) :: (M, W.listOf (met.map fun e => Value.str e.1 e.2).toArray nM) :: (I, io) :: news) N12 (by walk_at "mine perm")
          (revert F12; revert N13; revert FG; walk_at "mine past"; intro FG N13 F12)
          refine c_push w _ x dx [] nP dd (by simp) hs4 offR offdx _ _ _ _ p loose mean mg mb _ _ _ _ _ _ _ _ _ _ _ _ _ _ _ _ _ BG F12 XG N13 TG rfl (by show dp + 1 + 5 < recursionLimit; lia) (by show un + 3 + 10 * 5 < cLine; lia) ?_
          intro T2 n2 h14 tk14 F14 N14 lt14 ltd14 ltP14
          (revert F14; revert N14; revert FG; walk_at "mine past"; intro FG N14 F14)
          k_steps
          refine grow_end ⟨[⟨T2, Txt.item letters ((0 + (i : Int) * 4).fdiv 4), ps (up i), _, _⟩], hm, th, ri, tr, met, n2, nM⟩ F14 (newsSub N14 (by walk_at "mine perm")) (List.forall_mem_cons.mpr ⟨hMI, List.forall_mem_cons.mpr ⟨hxI, List.forall_mem_cons.mpr ⟨hdI, List.forall_mem_cons.mpr ⟨Nat.ne_of_gt (lt14 _ (.tail _ (.head _))), hnI⟩⟩⟩⟩)
            (List.forall_mem_cons.mpr ⟨rfl, List.forall_mem_cons.mpr ⟨rfl, fun _ h => nomatch h⟩⟩) ?_ ?_
          · walk_at "FrameRest"
          · have hstk : (plRun up (fun i => Txt.item letters (i : Int)) i).stk = [] := List.map_eq_nil_iff.mp q4.symm
            have hup1 : up i = false := by rename ((ps (up i) == _) = false) => e5; rw [ps_eq] at e5; exact e5
            refine ⟨?_, ?_, ?_, ?_, ?_, ?_, ?_⟩ <;> simp only [plRun, pl_empty hstk, hup1]
            · exact q1
            · exact q2
            · exact q3
            · simp only [List.map_cons, List.map_nil, idx4]
            · intro e he
              rw [List.mem_singleton.mp he]
              exact ⟨Nat.ne_of_gt ltP14, Nat.ne_of_gt (lt14 _ (.head _)), Nat.ne_of_gt ltd14, by dsimp only; lia, by dsimp only; rw [idx4]; exact hok i hi⟩
            · simp
            · lia
      · have hents : ents = es ++ [e] := by rw [hents, List.concat_eq_append]
        subst hents
        obtain ⟨eT, el, ep, et1, et2⟩ := e
        simp only [PLed, List.map_append, List.map_cons, List.map_nil] at N9 q4
        obtain ⟨st, l2, hstk, hst, hl2⟩ := List.map_eq_append_iff.mp q4.symm
        obtain ⟨⟨j, u⟩, rfl, hje⟩ := List.map_eq_singleton_iff.mp hl2
        obtain ⟨hel, hep⟩ := Prod.mk.inj hje
        dsimp only at hel hep
        subst hep
        obtain ⟨eo1, eo2, eo3, eo4, eo5⟩ := q5' _ (List.mem_append_right _ (.head _))
        have eoI : eT ≠ I := heI _ (List.mem_append_right _ (.head _))
        dsimp only at eo1 eo2 eo3 eo4
        have offE : ∀ p ∈ es.map PEnt.cell ++ news, p.1 ≠ x := List.forall_mem_append.mpr ⟨fun p hp => (by obtain ⟨e, he, rfl⟩ := List.mem_map.mp hp; exact (q5' e (List.mem_append_left _ he)).1), offx⟩
        have offEM : ∀ p ∈ es.map PEnt.cell ++ news, p.1 ≠ M := List.forall_mem_append.mpr ⟨fun p hp => (by obtain ⟨e, he, rfl⟩ := List.mem_map.mp hp; exact (q5' e (List.mem_append_left _ he)).2.1), offM⟩
        have offEI : ∀ p ∈ es.map PEnt.cell ++ news, p.1 ≠ I := List.forall_mem_append.mpr ⟨fun p hp => (by obtain ⟨e, he, rfl⟩ := List.mem_map.mp hp; exact heI e (List.mem_append_left _ he)), hnI⟩
        have N10 := newsSub (l' := (x, subObj 101 dx (es.map (fun e => .ref e.T) ++ [.ref eT]) nP) :: (dx, dd) :: (M, W.listOf (met.map fun e => Value.str e.1 e.2).toArray nM) :: (eT, { cls := .type "tuple", data := .seq #[.str el et1, .str (ps u) et2] }) :: (I, io) :: (es.map PEnt.cell ++ news)) N9 (by walk_at "mine perm")
        have hlen : es.length ≤ 8 := by rw [List.length_append] at q6; lia
        generalize hled : es.map PEnt.cell ++ news = led at N10 offE offEM offEI
        have offR : ∀ p ∈ ((M, W.listOf (met.map fun e => Value.str e.1 e.2).toArray nM) :: (eT, { cls := .type "tuple", data := .seq #[.str el et1, .str (ps u) et2] }) :: (I, io) :: led), p.1 ≠ x := List.forall_mem_cons.mpr ⟨Ne.symm offMP, List.forall_mem_cons.mpr ⟨eo1, List.forall_mem_cons.mpr ⟨Ne.symm hxI, offE⟩⟩⟩
        (revert F9; revert N10; revert FG; walk_at "mine past"; intro FG N10 F9)
        k_steps
        unfold Stop
        refine c_pop w _ x dx (es.map (fun e => .ref e.T)) (.ref eT) nP dd (by simp; lia) hs3 offR offdx p loose mean mg mb _ _ _ _ _ _ _ _ _ _ _ _ _ _ _ _ _ BG (by assumption) XG (by assumption) TG rfl (by show dp + 1 + 10 < recursionLimit; lia) (by show un + 3 + 10 * 10 < cLine; lia) ?_
        intro n3 h11 tk11 F11 N11
        (revert F11; revert N11; revert FG; walk_at "mine past"; intro FG N11 F11)
        k_steps
        refine eq_dataH (da := .tuple [.str el, .str (ps u)]) (db := .tuple [.str (Str.ofString ""), .str (Str.ofString "")]) (by ke_read) (by ke_read) (shapedTup eo5 (ps_ok u)) (shapedTup (by decide +kernel) (by decide +kernel)) (by ke_room) ?_
        have efalse : (decide (el = Str.ofString "") && decide (ps u = Str.ofString "")) = false := by
          have : ¬ el = Str.ofString "" := by
            intro e
            rw [e] at eo4
            exact absurd eo4 (by decide +kernel)
          rw [decide_eq_false this, Bool.false_and]
        rw [eqvTup, efalse]
        have hps : (ps u == ps (up i)) = decide (u = up i) := by
          rw [Bool.eq_iff_iff, beq_iff_eq, decide_eq_true_iff, ps_inj]
        k_steps
        · unfold Stop
          rename News _ _ _ _ => N12
          rename Fr _ _ _ _ => F12
          have N13 := newsSub (l' := (x, subObj 101 dx (es.map fun e => .ref e.T) n3) :: (dx, dd) :: (M, W.listOf (met.map fun e => Value.str e.1 e.2).toArray nM) :: (I, io) :: led) N12 (by walk_at "mine perm")
          (revert F12; revert N13; revert FG; walk_at "mine past"; intro FG N13 F12)
          refine c_push w _ x dx (es.map fun e => .ref e.T) n3 dd (by rw [List.length_map]; lia) hs4 (List.forall_mem_cons.mpr ⟨Ne.symm offMP, List.forall_mem_cons.mpr ⟨Ne.symm hxI, offE⟩⟩) offdx _ _ _ _ p loose mean mg mb _ _ _ _ _ _ _ _ _ _ _ _ _ _ _ _ _ BG F12 XG N13 TG rfl (by show dp + 1 + 5 < recursionLimit; lia) (by show un + 3 + 10 * 5 < cLine; lia) ?_
          intro T2 n4 h14 tk14 F14 N14 lt14 ltd14 ltP14
          (revert F14; revert N14; revert FG; walk_at "mine past"; intro FG N14 F14)
          k_steps
          unfold Stop
          rename News _ _ _ _ => N15
          rename Fr _ _ _ _ => F15
          have N16 := newsSub (l' := (x, subObj 101 dx ((es.map fun e => .ref e.T) ++ [.ref T2]) n4) :: (dx, dd) :: (T2, { cls := .type "tuple", data := .seq #[.str el et1, .str (ps u) et2] }) :: (M, W.listOf (met.map fun e => Value.str e.1 e.2).toArray nM) :: (I, io) :: led) N15 (by walk_at "mine perm")
          (revert F15; revert N16; revert FG; walk_at "mine past"; intro FG N16 F15)
          refine c_push w _ x dx ((es.map fun e => .ref e.T) ++ [.ref T2]) n4 dd (by rw [List.length_append, List.length_map]; simp only [List.length_cons, List.length_nil]; lia) hs4 (List.forall_mem_cons.mpr ⟨Nat.ne_of_gt ltP14, List.forall_mem_cons.mpr ⟨Ne.symm offMP, List.forall_mem_cons.mpr ⟨Ne.symm hxI, offE⟩⟩⟩) offdx _ _ _ _ p loose mean mg mb _ _ _ _ _ _ _ _ _ _ _ _ _ _ _ _ _ BG F15 XG N16 TG rfl (by show dp + 1 + 5 < recursionLimit; lia) (by show un + 3 + 10 * 5 < cLine; lia) ?_
          intro T3 n5 h17 tk17 F17 N17 lt17 ltd17 ltP17
          (revert F17; revert N17; revert FG; walk_at "mine past"; intro FG N17 F17)
          k_steps
          rename ((ps u == ps (up i)) = true) => e5
          have hu1 : u = up i := by rw [hps] at e5; exact of_decide_eq_true e5
          rw [← hled] at N17
          obtain ⟨ta3, tb3, N18⟩ := news_tup N17
          refine grow_end ⟨es ++ [⟨T2, el, ps u, et1, et2⟩] ++ [⟨T3, Txt.item letters ((0 + (i : Int) * 4).fdiv 4), ps (up i), ta3, tb3⟩], hm, th, ri, tr, met, n5, nM⟩ F17 ?_ ?_
            (List.forall_mem_cons.mpr ⟨rfl, List.forall_mem_cons.mpr ⟨rfl, fun _ h => nomatch h⟩⟩) ?_ ?_
          · simp only [PLed, List.map_append, List.map_cons, List.map_nil]
            exact newsSub N18 (by walk_at "mine perm")
          · simp only [PLed, List.map_append, List.map_cons, List.map_nil]
            refine List.forall_mem_cons.mpr ⟨hMI, List.forall_mem_cons.mpr ⟨hxI, List.forall_mem_cons.mpr ⟨hdI, List.forall_mem_append.mpr ⟨List.forall_mem_append.mpr ⟨List.forall_mem_append.mpr ⟨fun p hp => ?_, List.forall_mem_cons.mpr ⟨?_, fun p hp => absurd hp List.not_mem_nil⟩⟩, List.forall_mem_cons.mpr ⟨?_, fun p hp => absurd hp List.not_mem_nil⟩⟩, hnI⟩⟩⟩⟩
            · exact offEI p (by rw [← hled]; exact List.mem_append_left _ hp)
            · exact Nat.ne_of_gt (lt14 _ (.tail _ (.head _)))
            · exact Nat.ne_of_gt (lt17 _ (.tail _ (.tail _ (.head _))))
          · walk_at "FrameRest"
          · refine ⟨?_, ?_, ?_, ?_, ?_, ?_, ?_⟩ <;> simp only [plRun, pl_same hstk hu1]
            · exact q1
            · exact q2
            · exact q3
            · simp only [List.map_append, List.map_cons, List.map_nil, idx4, hstk, hst, hel]
            · intro e he
              rcases List.mem_append.mp he with he | he
              · rcases List.mem_append.mp he with he | he
                · exact q5' e (List.mem_append_left _ he)
                · rw [List.mem_singleton.mp he]
                  exact ⟨Nat.ne_of_gt ltP14, Nat.ne_of_gt (lt14 _ (.head _)), Nat.ne_of_gt ltd14, eo4, eo5⟩
              · rw [List.mem_singleton.mp he]
                exact ⟨Nat.ne_of_gt ltP17, Nat.ne_of_gt (lt17 _ (.tail _ (.head _))), Nat.ne_of_gt ltd17, by dsimp only; lia, by dsimp only; rw [idx4]; exact hok i hi⟩
            · simp only [List.length_append, List.length_cons, List.length_nil] at q6 ⊢
              lia
            · lia
        · unfold Stop
          rename News _ _ _ _ => N12
          rename Fr _ _ _ _ => F12
          have N13 := newsSub (l' := (M, W.listOf (met.map fun e => Value.str e.1 e.2).toArray nM) :: (x, subObj 101 dx (es.map fun e => .ref e.T) n3) :: (dx, dd) :: (I, io) :: led) N12 (by walk_at "mine perm")
          (revert F12; revert N13; revert FG; walk_at "mine past"; intro FG N13 F12)
          refine append_K F12 N13 (.head (List.forall_mem_cons.mpr ⟨offMP, List.forall_mem_cons.mpr ⟨offMd, List.forall_mem_cons.mpr ⟨Ne.symm hMI, offEM⟩⟩⟩)) ?_ (by rw [List.size_toArray, List.length_map, sizeLine_eq]; lia)
          intro h14 F14 N14
          (revert F14; revert N14; revert FG; walk_at "mine past"; intro FG N14 F14)
          have hlt : Txt.item letters ((0 + (i : Int) * 4).fdiv 4) = Txt.item letters (i : Int) := by rw [idx4]
          rename ((ps u == ps (up i)) = false) => e5
          have hu1 : u ≠ up i := by rw [hps] at e5; exact of_decide_eq_false e5
          have hse := st_len (lt := fun i => Txt.item letters (i : Int)) hst
          k_steps
          · unfold Stop
            rename News _ _ _ _ => N15
            rename Fr _ _ _ _ => F15
            have N16 := newsSub (l' := (x, subObj 101 dx (es.map fun e => .ref e.T) n3) :: (dx, dd) :: (M, _) :: (I, io) :: led) N15 (by walk_at "mine perm")
            (revert F15; revert N16; revert FG; walk_at "mine past"; intro FG N16 F15)
            refine c_count (sl := 5) (by decide) w _ x dx (es.map fun e => .ref e.T) n3 dd (by rw [List.length_map]; lia) p loose mean mg mb _ _ _ _ _ _ _ _ _ _ _ _ _ _ _ _ _ BG F15 XG N16 TG rfl (by show dp + 1 + 5 < recursionLimit; lia) (by show un + 3 + 10 * 5 < cLine; lia) ?_
            intro tb17 h17 tk17 F17 N17
            (revert F17; revert N17; revert FG; walk_at "mine past"; intro FG N17 F17)
            k_steps
            · rename News _ _ _ _ => N18
              rename Fr _ _ _ _ => F18
              obtain ⟨t18, N19⟩ := news_push (newsSub (l' := (M, _) :: (x, subObj 101 dx (es.map fun e => .ref e.T) n3) :: (dx, dd) :: (I, io) :: led) N18 (by walk_at "mine perm"))
              rw [← hled] at N19
              refine grow_end ⟨es, 0 + (i : Int) * 4, t, ri, tr, met ++ [(el ++ Txt.item letters ((0 + (i : Int) * 4).fdiv 4), t18)], n3, nM + 1⟩ F18 ?_ ?_
                (List.forall_mem_cons.mpr ⟨rfl, List.forall_mem_cons.mpr ⟨rfl, fun _ h => nomatch h⟩⟩) ?_ ?_
              · simp only [PLed, List.map_append, List.map_cons, List.map_nil]
                exact newsSub N19 (by walk_at "mine perm")
              · simp only [PLed, List.map_append, List.map_cons, List.map_nil]
                exact List.forall_mem_cons.mpr ⟨hMI, List.forall_mem_cons.mpr ⟨hxI, List.forall_mem_cons.mpr ⟨hdI, List.forall_mem_append.mpr ⟨fun p hp => offEI p (by rw [← hled]; exact List.mem_append_left _ hp), hnI⟩⟩⟩⟩
              · walk_at "FrameRest"
              · rw [hlt, ← hel]
                refine pinv_diff q1 q2 q3 hst hstk q5' q6 q7 hu1 ?_
                rename (((es.map _).length : Int) = 0) => e8; rename ((ps (up i) == _) = true) => e6; rename (hm < 0) => e7; rw [List.length_map] at e8; rw [ps_eq] at e6; rw [e6, decide_eq_true e7, hse, decide_eq_true (by lia : es.length = 0)]; simp only [Bool.and_self, if_true]; lia
            · rename News _ _ _ _ => N18
              rename Fr _ _ _ _ => F18
              obtain ⟨t18, N19⟩ := news_push (newsSub (l' := (M, _) :: (x, subObj 101 dx (es.map fun e => .ref e.T) n3) :: (dx, dd) :: (I, io) :: led) N18 (by walk_at "mine perm"))
              rw [← hled] at N19
              refine grow_end ⟨es, hm, th, ri, tr, met ++ [(el ++ Txt.item letters ((0 + (i : Int) * 4).fdiv 4), t18)], n3, nM + 1⟩ F18 ?_ ?_
                (List.forall_mem_cons.mpr ⟨rfl, List.forall_mem_cons.mpr ⟨rfl, fun _ h => nomatch h⟩⟩) ?_ ?_
              · simp only [PLed, List.map_append, List.map_cons, List.map_nil]
                exact newsSub N19 (by walk_at "mine perm")
              · simp only [PLed, List.map_append, List.map_cons, List.map_nil]
                exact List.forall_mem_cons.mpr ⟨hMI, List.forall_mem_cons.mpr ⟨hxI, List.forall_mem_cons.mpr ⟨hdI, List.forall_mem_append.mpr ⟨fun p hp => offEI p (by rw [← hled]; exact List.mem_append_left _ hp), hnI⟩⟩⟩⟩
              · walk_at "FrameRest"
              · rw [hlt, ← hel]
                refine pinv_diff q1 q2 q3 hst hstk q5' q6 q7 hu1 ?_
                rename (((es.map _).length : Int) ≠ 0) => e8; rw [List.length_map] at e8; rw [hse, decide_eq_false (by lia : ¬ es.length = 0), Bool.and_false]; rfl
          · rename News _ _ _ _ => N18
            rename Fr _ _ _ _ => F18
            obtain ⟨t18, N19⟩ := news_push (newsSub (l' := (M, _) :: (x, subObj 101 dx (es.map fun e => .ref e.T) n3) :: (dx, dd) :: (I, io) :: led) N18 (by walk_at "mine perm"))
            rw [← hled] at N19
            refine grow_end ⟨es, hm, th, ri, tr, met ++ [(el ++ Txt.item letters ((0 + (i : Int) * 4).fdiv 4), t18)], n3, nM + 1⟩ F18 ?_ ?_
              (List.forall_mem_cons.mpr ⟨rfl, List.forall_mem_cons.mpr ⟨rfl, fun _ h => nomatch h⟩⟩) ?_ ?_
            · simp only [PLed, List.map_append, List.map_cons, List.map_nil]
              exact newsSub N19 (by walk_at "mine perm")
            · simp only [PLed, List.map_append, List.map_cons, List.map_nil]
              exact List.forall_mem_cons.mpr ⟨hMI, List.forall_mem_cons.mpr ⟨hxI, List.forall_mem_cons.mpr ⟨hdI, List.forall_mem_append.mpr ⟨fun p hp => offEI p (by rw [← hled]; exact List.mem_append_left _ hp), hnI⟩⟩⟩⟩
            · walk_at "FrameRest"
            · rw [hlt, ← hel]
              refine pinv_diff q1 q2 q3 hst hstk q5' q6 q7 hu1 ?_
              first
                | (rename ((ps (up i) == _) = false) => e6; rw [ps_eq] at e6; rw [e6]; rfl)
                | (rename (¬ hm < 0) => e7; rw [decide_eq_false e7, Bool.and_false, Bool.false_and]; rfl)
          · rename News _ _ _ _ => N18
            rename Fr _ _ _ _ => F18
            obtain ⟨t18, N19⟩ := news_push (newsSub (l' := (M, _) :: (x, subObj 101 dx (es.map fun e => .ref e.T) n3) :: (dx, dd) :: (I, io) :: led) N18 (by walk_at "mine perm"))
            rw [← hled] at N19
            refine grow_end ⟨es, hm, th, ri, tr, met ++ [(el ++ Txt.item letters ((0 + (i : Int) * 4).fdiv 4), t18)], n3, nM + 1⟩ F18 ?_ ?_
              (List.forall_mem_cons.mpr ⟨rfl, List.forall_mem_cons.mpr ⟨rfl, fun _ h => nomatch h⟩⟩) ?_ ?_
            · simp only [PLed, List.map_append, List.map_cons, List.map_nil]
              exact newsSub N19 (by walk_at "mine perm")
            · simp only [PLed, List.map_append, List.map_cons, List.map_nil]
              exact List.forall_mem_cons.mpr ⟨hMI, List.forall_mem_cons.mpr ⟨hxI, List.forall_mem_cons.mpr ⟨hdI, List.forall_mem_append.mpr ⟨fun p hp => offEI p (by rw [← hled]; exact List.mem_append_left _ hp), hnI⟩⟩⟩⟩
            · walk_at "FrameRest"
            · rw [hlt, ← hel]
              refine pinv_diff q1 q2 q3 hst hstk q5' q6 q7 hu1 ?_
              first
                | (rename ((ps (up i) == _) = false) => e6; rw [ps_eq] at e6; rw [e6]; rfl)
                | (rename (¬ hm < 0) => e7; rw [decide_eq_false e7, Bool.and_false, Bool.false_and]; rfl)
    · rintro ⟨ents, hm, th, ri, tr, met, nP, nM⟩ u h tk hP F8 N8
      obtain ⟨q1, q2, q3, -, -, -, -⟩ := hP
      dsimp only at F8 q1 q2 q3 ⊢
      have N9 := newsSub (l' := (M, W.listOf (met.map fun e => Value.str e.1 e.2).toArray nM) :: news) N8 (by walk_at "mine perm")
      clear hR ht1 ht2 N8
      (revert F8; revert N9; revert FG; walk_at "mine past"; intro FG N9 F8)
      k_steps
      rename (_ ∧ AllLt _ news) => l9
      rw [← q1, ← q2] at hret
      exact hret _ _ _ _ _ _ _ _ q3 (by assumption) (by assumption) ltM l9.1
end Mine
end

/- E1 -/
section
open PySem PySem.W PySem.Spec PySem.Calls PyProof.Rows PyProof.V
set_option Elab.async false
set_option maxRecDepth 100000
namespace Mine
theorem reset_E1 {M : PySem.Model} {A : PySem.Around} {Q : PySem.Flow → PySem.Shared → Prop} {E : PySem.Value → PySem.Shared → Prop} {s : PySem.Shared} {env : PySem.Env} (h : Q .next s) : PySem.wpAny M A (PySem.execs [] env) Q E s := by
  w_top off
  first | (walk1; exact h) | exact PySem.wpAny_execs_nil h
set_option maxHeartbeats 1000000
/-- whether a text stands in another -/
noncomputable abbrev has (x y : Str) : Bool := !(Builtin.Str.occurrences x y 0 x.length 1).isEmpty
local macro_rules | `(tactic| walk_at $k:str) => if (["compareOp In str str", "call builtin:str.replace"] : List String).contains k.getString then `(tactic| walk_at "mine stop") else Lean.Macro.throwUnsupported
theorem gen_pos {α : Type} {M : Model} {A : Around} {t : Sem α} {Q : α → Shared → Prop} {E : Value → Shared → Prop} {h : Heap} {g d os} {n : Nat} (H : ∀ tk, tk ≠ 0 → wpAny M A t Q E ⟨h, g, d, tk, os⟩) : wpAny M A t Q E ⟨h, g, d, n + 1, os⟩ := H _ (Nat.succ_ne_zero n)
local macro_rules | `(tactic| walk_at "execs cons") => `(tactic| (k_here; refine gen_pos ?_; intro tk' hpos'))
local macro_rules | `(tactic| walk_at "execs nil") => `(tactic| (k_here; refine gen_pos ?_; intro tk' hpos'))
noncomputable def esc1 (x : Str) : Str := Txt.replace x (Str.ofString "<") (Str.ofString "&lt;")
noncomputable def esc2 (x : Str) : Str := Txt.replace (esc1 x) (Str.ofString ">") (Str.ofString "&gt;")
theorem c_escape (w : World) (news : List (Addr × Obj)) (x : Str) (tx : Tok) (h1 : has x (Str.ofString "&") = false) (h2 : has x (Str.ofString "<") = true) (h3 : has (esc1 x) (Str.ofString ">") = true) (h4 : has (esc2 x) (Str.ofString "\r") = false) (hx : x.length ≤ 100) (hx1 : (esc1 x).length ≤ 100) :
    ClaimS 20 w 133 news [.str x tx] (fun h₀ L m s Q => Ret h₀ L m news s Q fun t => .str (esc2 x) t) := by
  unfold ClaimS
  k_fill
  intro p loose mean mg mb dp un gd cn cs a ccd cl outer A₀ base h₀ L m s Q E B F X N T hk hdp hu hret
  refine wpAny_call ?_
  k_dflt cell_enter
  have h1' : (!(Builtin.Str.occurrences x (Str.ofString "&") 0 x.length 1).isEmpty) = false := h1
  have h2' : (!(Builtin.Str.occurrences x (Str.ofString "<") 0 x.length 1).isEmpty) = true := h2
  have h3' : (!(Builtin.Str.occurrences (esc1 x) (Str.ofString ">") 0 (esc1 x).length 1).isEmpty) = true := h3
  have h4' : (!(Builtin.Str.occurrences (esc2 x) (Str.ofString "\r") 0 (esc2 x).length 1).isEmpty) = false := h4
  k_steps
  unfold Stop
  refine in_str ?_
  rw [h1']
  k_steps
  unfold Stop
  refine in_str ?_
  rw [h2']
  k_steps
  unfold Stop
  refine SC.replaceW (by assumption) (Nat.succ_ne_zero _) (Nat.ne_of_lt (Nat.lt_succ_self _)) (by decide +kernel) (by lia) (by decide +kernel) ?_
  intro t1 k1
  rw [show Txt.replace x (Str.ofString "<") (Str.ofString "&lt;") = esc1 x from rfl]
  k_steps
  unfold Stop
  refine in_str ?_
  rw [h3']
  k_steps
  unfold Stop
  refine SC.replaceW (by assumption) (Nat.succ_ne_zero _) (Nat.ne_of_lt (Nat.lt_succ_self _)) (by decide +kernel) (by lia) (by decide +kernel) ?_
  intro t2 k2
  rw [show Txt.replace (esc1 x) (Str.ofString ">") (Str.ofString "&gt;") = esc2 x from rfl]
  k_steps
  unfold Stop
  refine in_str ?_
  rw [h4']
  k_steps
  exact hret _ _ _ (by assumption) (newsSub (by assumption) fun p hp => hp)
end Mine
end

/- Me -/
section
open PySem PySem.W PySem.Spec PySem.Calls PyProof.Rows PyProof.V
set_option Elab.async false
set_option maxRecDepth 100000
namespace Mine
theorem reset_Me {M : PySem.Model} {A : PySem.Around} {Q : PySem.Flow → PySem.Shared → Prop} {E : PySem.Value → PySem.Shared → Prop} {s : PySem.Shared} {env : PySem.Env} (h : Q .next s) : PySem.wpAny M A (PySem.execs [] env) Q E s := by
  w_top off
  first | (walk1; exact h) | exact PySem.wpAny_execs_nil h
set_option maxHeartbeats 1000000
local macro_rules | `(tactic| walk_at $k:str) => if (["pyIter ref", "CompSrcT"] : List String).contains k.getString then `(tactic| walk_at "mine stop") else Lean.Macro.throwUnsupported
local macro_rules | `(tactic| walk_at "C_enter") => `(tactic| (refine' code_defC ?k1 ?k2 ?k3 ?k4 ?k5 ?kA ?kF ?kK ?k6 ?k7 ?k8 ?k9 ?kB ?kD ?_ ?c2 ?c3 ?c4; (case kA => exact rfl); (case kF => exact rfl); (case kK => first | assumption | exact rfl); (case k1 => k_asm); (case k2 => k_asm); (case k3 => k_asm); (case k4 => k_asm); (case k5 => k_asm); (case k6 => k_is); (case k7 => k_is); (case k8 => ktr_room); (case k9 => exact BindsTo.of_eq rfl); (case kB => exact rfl); (case kD => decide +kernel); (case c2 => exact rfl); (case c3 => exact rfl); (case c4 => exact rfl); intro g' L' h' tk' cells' FG' F' N' Y' B' X' T' l1; (try k_lt l1); k_cells Y'; (try simp only [List.cons_append, List.nil_append] at N'); (try dsimp only); (try k_lift B'); (try k_fold)))
local macro_rules | `(tactic| k_all) => `(tactic| (refine List.forall_mem_cons.mpr ⟨?_, ?_⟩; · (first | assumption | k_ne | exact Ne.symm (by assumption)); · k_all))
set_option hygiene false in
local macro_rules | `(tactic| k_all) => `(tactic| first | assumption | exact fun p hp => Nat.ne_of_lt (Nat.lt_trans (lcell p hp) (Nat.lt_succ_self _)) | exact fun p hp => Nat.ne_of_lt (Nat.lt_trans (lcell p hp) (Nat.lt_trans (Nat.lt_succ_self _) (Nat.lt_succ_self _))) | exact List.forall_mem_cons.mpr ⟨by k_ne, fun p hp => Nat.ne_of_lt (Nat.lt_trans (lcell p hp) (Nat.lt_trans (Nat.lt_succ_self _) (Nat.lt_succ_self _)))⟩)
local macro_rules | `(tactic| walk_at "call builtin:len") => `(tactic| (k_here; (with_reducible show wpAny _ _ (call (Value.builtin "len") [Value.str _ _]) _ _ _); refine PySem.len_str (by lia) ?_))
local macro_rules | `(tactic| walk_at "subscriptTail") => `(tactic| (k_here; (with_reducible show wpAny _ _ (subscriptTail _ _ (Value.str _ _) (Value.int _ _)) _ _ _); refine Stop.out ?_))
local macro_rules | `(tactic| walk_at "FrameRest") => `(tactic| (intro z h1 _ h3; simp only [List.contains_cons, List.contains_nil, Bool.or_false, Bool.or_eq_false_iff, beq_eq_false_iff_ne, ne_eq] at h3; simp [kstB, h1, h3]))
local macro_rules | `(tactic| size_fits) => `(tactic| walk_at "mine size")
theorem nameMet {h₀ h : Heap} {L a b c d : Addr} {oa ob oc od : Obj} {r : List (Addr × Obj)} (_N : News h₀ L h ((a, oa) :: (b, ob) :: (c, oc) :: (d, od) :: r)) : ∃ a' b' oc' od', a' = a ∧ b' = b ∧ oc' = oc ∧ od' = od := ⟨a, b, oc, od, rfl, rfl, rfl, rfl⟩
theorem nameTurn1 {h₀ h : Heap} {L D M Ed : Addr} {o : Obj} {l es : List Value} {p : Str} {e : Int} {t t2 : Tok} {k k2 : Nat} {r : List (Addr × Obj)} (N : News h₀ L h ((D, o) :: (M, W.listOf (l ++ [Value.str p t]).toArray k) :: (Ed, W.listOf (es ++ [Value.int e t2]).toArray k2) :: r)) :
    ∃ t' k' t2' k2', News h₀ L h ((D, o) :: (M, W.listOf (l ++ [Value.str p t']).toArray k') :: (Ed, W.listOf (es ++ [Value.int e t2']).toArray k2') :: r) := ⟨t, k, t2, k2, N⟩
theorem nameTurn2 {h₀ h : Heap} {L D Ed : Addr} {o : Obj} {es : List Value} {e : Int} {t2 : Tok} {k2 : Nat} {q : Addr × Obj} {r : List (Addr × Obj)} (N : News h₀ L h ((D, o) :: q :: (Ed, W.listOf (es ++ [Value.int e t2]).toArray k2) :: r)) :
    ∃ t2' k2', News h₀ L h ((D, o) :: q :: (Ed, W.listOf (es ++ [Value.int e t2']).toArray k2') :: r) := ⟨t2, k2, N⟩
theorem frName {h₀ h : Heap} {L : Addr} {m : Str → Option Value} (_F : Fr h₀ L h m) : ∃ L', L' = L := ⟨L, rfl⟩
/-- the count of < in the first k signs -/
noncomputable def cntS (x : Str) (k : Nat) : Int := Txt.count (Txt.slice x none (some (k : Int))) (Str.ofString "<")
noncomputable def edgeS (x : Str) (k : Nat) : Int := cntS x k + cntS x (k + 1) - k
noncomputable def earl (x : Str) (i : Nat) : List Int := (rangeKs 0 i).foldl (fun l j => if edgeS x j.toNat = edgeS x i then l ++ [j] else l) []
noncomputable def metS (x : Str) : Nat → List Str
  | 0 => []
  | i + 1 => if (earl x i).length % 2 = 1 then metS x i ++ [Txt.item (Str.ofString "abcdefgh") ((earl x i).getD ((earl x i).length - 1) 0) ++ Txt.item (Str.ofString "abcdefgh") (i : Int)] else metS x i
theorem toNat01 (i : Nat) : (0 + (i : Int) * 1).toNat = i := by lia
theorem toNat01' (i : Nat) : (0 + (i : Int) * 1 - 0).toNat = i := by lia
theorem toNatM (l : Nat) : (-1 + (l : Int)).toNat = l - 1 := by lia
theorem met_lt {i : Nat} {k : Int} (h : k < 0 + (((0 + (i : Int) * 1 - 0).toNat : Nat) : Int)) : k.toNat ≤ i := by lia
structure MSt where
  es : List Value
  nE : Nat
  met : List (Str × Tok)
  nM : Nat
  ok : Obj
theorem edge_eq (x : Str) (i : Nat) : Txt.count (Txt.slice x none (some (0 + (i : Int) * 1))) (Str.ofString "<") + Txt.count (Txt.slice x none (some (0 + (i : Int) * 1 + 1))) (Str.ofString "<") - (0 + (i : Int) * 1) = edgeS x i := by
  unfold edgeS cntS
  rw [show (0 + (i : Int) * 1) = (i : Int) by lia, show ((i : Int) + 1) = ((i + 1 : Nat) : Int) by lia]
theorem edge_at (x : Str) (i k : Nat) (hk : k ≤ i) : (List.map (edgeS x) (List.range i) ++ [edgeS x i]).getD k 0 = edgeS x k := by
  rw [← List.map_singleton, ← List.map_append, ← List.range_succ]
  simp [List.getD, List.getElem?_range (by lia : k < i + 1)]
theorem earl_bd (x : Str) (i : Nat) : ∀ k, 0 ≤ (earl x i).getD k 0 ∧ (earl x i).getD k 0 < (i : Int) + 1 := by
  have key : ∀ (l : List Int) (acc : List Int), (∀ v ∈ l, 0 ≤ v ∧ v < (i : Int)) → (∀ v ∈ acc, 0 ≤ v ∧ v < (i : Int)) → ∀ v ∈ l.foldl (fun l j => if edgeS x j.toNat = edgeS x i then l ++ [j] else l) acc, 0 ≤ v ∧ v < (i : Int) := by
    intro l
    induction l with
    | nil => intro acc _ ha; exact ha
    | cons j l ih =>
      intro acc hl ha
      refine ih _ (fun v hv => hl v (.tail _ hv)) ?_
      dsimp only
      split
      · intro v hv
        rcases List.mem_append.mp hv with hv | hv
        · exact ha v hv
        · rw [List.mem_singleton.mp hv]; exact hl j (.head _)
      · exact ha
  have h2 := key (rangeKs 0 i) [] (by
    intro v hv
    simp only [rangeKs, List.mem_map, List.mem_range] at hv
    obtain ⟨k, hk, rfl⟩ := hv
    lia) (fun v hv => by cases hv)
  intro k
  by_cases hk : k < (earl x i).length
  · have e : (earl x i).getD k 0 = (earl x i)[k] := by simp [hk]
    have := h2 _ (List.getElem_mem hk)
    rw [e]
    lia
  · have e : (earl x i).getD k 0 = 0 := by simp [Nat.le_of_not_lt hk]
    rw [e]; lia
theorem odd_of {n : Nat} (h : (n : Int).fmod 2 = 1) : n % 2 = 1 := by
  rw [Int.fmod_eq_emod_of_nonneg _ (by decide)] at h; lia
theorem odd_not {n : Nat} (h : (n : Int).fmod 2 ≠ 1) : ¬ n % 2 = 1 := by
  rw [Int.fmod_eq_emod_of_nonneg _ (by decide)] at h; lia
noncomputable abbrev RetStrs (h₀ : Heap) (L : Addr) (m : Str → Option Value) (news : List (Addr × Obj)) (s : Shared) (Q : Value → Shared → Prop) (ss : List Str) : Prop :=
  ∀ (D : Addr) (mts : List (Str × Tok)) (cnt : Nat) (h' : Heap) (tk' : Nat), mts.map (·.1) = ss → Fr h₀ L h' m → News h₀ L h' ((D, W.listOf (mts.map fun e => Value.str e.1 e.2).toArray cnt) :: news) → (∀ p ∈ news, p.1 < D) → Q (.ref D) { s with heap := h', toks := tk' }
theorem c_met (w : World) (news : List (Addr × Obj)) (x : Str) (tx : Tok) (n : Nat) (hx : x.length = n) (hn : n ≤ 8) :
    ClaimS 20 w 145 news [.str x tx] (fun h₀ L m s Q => RetStrs h₀ L m news s Q (metS x n)) := by
  unfold ClaimS
  k_fill
  intro p loose mean mg mb dp un gd cn cs a ccd cl outer A₀ base h₀ L m s Q E B F X N T hk hdp hu hret
  refine wpAny_call ?_
  k_dflt (walk_at "C_enter")
  rename (∀ p ∈ news, p.1 < _) => lcell
  rename Fr h₀ L _ m => FG
  rename Below _ _ _ _ => BG
  rename Frag.In _ _ => XG
  rename Top _ _ _ _ _ _ => TG
  k_steps
  refine For_cell ?_
  k_steps
  unfold Stop
  rename IsRange _ _ _ _ _ _ _ _ => hR
  rename News _ _ _ _ => N7
  rename Fr _ _ _ _ => F7
  obtain ⟨M, Ed, ok0, oe, e1, e2, e3, e4⟩ := nameMet N7
  subst e1; subst e2; subst e3; subst e4
  obtain ⟨L2, eL⟩ := frName F7
  subst eL
  have hok : ∃ v, ok0.data = .cell v := ⟨_, by assumption⟩
  have hoe : oe.data = .cell (some (.ref Ed)) := by assumption
  refine wpAny_mono (rangeA_my (x := "k") (σ := MSt) (n := n) (fun c => (M, W.listOf (c.met.map fun e => Value.str e.1 e.2).toArray c.nM) :: (Ed, W.listOf c.es.toArray c.nE) :: (L2 + 1 + 1, c.ok) :: (L2 + 1, oe) :: news) (fun c => []) ["earlier"]
    (fun i c => IntsAre c.es ((List.range i).map (edgeS x)) ∧ (∃ v, c.ok.data = .cell v) ∧ c.met.map (·.1) = metS x i ∧ c.met.length ≤ i) rfl hR ?_ ?_ F7 N7 ?_ ?_ ?_) (fun _ _ q => q) fun _ _ e => e.elim
  · rw [hx]
    have : n = 0 ∨ n = 1 ∨ n = 2 ∨ n = 3 ∨ n = 4 ∨ n = 5 ∨ n = 6 ∨ n = 7 ∨ n = 8 := le8 (by assumption)
    rcases this with h | h | h | h | h | h | h | h | h <;> subst h <;> decide
  · rw [hx]
    have : n = 0 ∨ n = 1 ∨ n = 2 ∨ n = 3 ∨ n = 4 ∨ n = 5 ∨ n = 6 ∨ n = 7 ∨ n = 8 := le8 (by assumption)
    rcases this with h | h | h | h | h | h | h | h | h <;> subst h <;> decide
  · exact start_my ⟨[], _, [], _, ok0⟩ rfl (fun _ h => nomatch h) ⟨.nil, hok, rfl, Nat.le_refl _⟩
  · rintro ⟨es, nE, met, nM, ok⟩ i t u h tk own hi hoff ⟨hP1, ⟨v0, hP2⟩, hP4, hP3⟩ F8 N8
    dsimp only at F8 N8 hP1 hP2 hP3 hP4 ⊢
    clear hR
    (revert F8; revert N8; revert FG; walk_at "mine past"; intro FG N8 F8)
    simp only [List.cons_append] at N8
    have ho : ∀ b, b ∈ List.map (·.1) ((M, W.listOf #[] 0) :: (Ed, W.listOf #[] 0) :: (L2 + 1 + 1, ok0) :: (L2 + 1, oe) :: news) → ∀ p ∈ own, p.1 ≠ b := fun b hb p hp => hoff p hp b hb
    have hesl : es.length ≤ 8 := by rw [hP1.length, List.length_map, List.length_range]; lia
    have hEM' : M ≠ Ed := by rename (Ed < M ∧ _) => q; exact Nat.ne_of_gt q.1
    have hlM : L2 + 1 + 1 < M := by rename (_ ∧ L2 + 1 + 1 < _ ∧ _ ∧ AllLt _ news) => q; exact q.2.1
    have hlE : L2 + 1 + 1 < Ed := by rename (L2 + 1 + 1 < Ed ∧ _) => q; exact q.1
    have hEM : Ed < M := by rename (Ed < M ∧ _) => q; exact q.1
    have of1 : ∀ p ∈ news ++ own, p.1 ≠ L2 + 1 + 1 := List.forall_mem_append.mpr ⟨fun p hp => Nat.ne_of_lt (Nat.lt_trans (lcell p hp) (Nat.lt_trans (Nat.lt_succ_self _) (Nat.lt_succ_self _))), ho _ (.tail _ (.tail _ (.head _)))⟩
    have of2 : ∀ p ∈ news ++ own, p.1 ≠ Ed := List.forall_mem_append.mpr ⟨fun p hp => Nat.ne_of_lt (Nat.lt_trans (lcell p hp) (Nat.lt_trans (Nat.lt_trans (Nat.lt_succ_self _) (Nat.lt_succ_self _)) hlE)), ho _ (.tail _ (.head _))⟩
    have of3 : ∀ p ∈ news ++ own, p.1 ≠ M := List.forall_mem_append.mpr ⟨fun p hp => Nat.ne_of_lt (Nat.lt_trans (lcell p hp) (Nat.lt_trans (Nat.lt_trans (Nat.lt_succ_self _) (Nat.lt_succ_self _)) hlM)), ho _ (.head _)⟩
    k_steps
    unfold Stop
    refine LCt.CompSrcT.range (by rfl) (by k_asm) (by k_asm) (by assumption) (by first | decide | exact small_one (by l_bnd) (by l_bnd) (by l_bnd) (by l_bnd)) (by first | exact rangeSize_nat _ _ | rfl) (by rw [PySem.sizeLine_eq]; lia) ?_
    intro g'
    refine' kci_range (fun l j => if edgeS x j.toNat = edgeS x i then l ++ [j] else l) (fun k' t' I' oI' C' oC' D' m' ys' l' h' tk' E' hlo' hhi' hI' hC' hx' F' N' off' ne' => ?_) ?_ ?_
    · have offc := off'
      (try (simp only [LCg.Off3, and_true] at off'))
      intro hMark'
      have hk2 : k'.toNat ≤ i := met_lt hhi'
      k_steps
      · rename News _ _ _ _ => NN
        rename Fr _ _ _ _ => FF
        rename (List.getD _ _ _ = List.getD _ _ _) => hc
        rw [edge_eq, edge_at _ _ _ hk2, edge_at _ _ _ (Nat.le_of_eq (toNat01 i)), toNat01] at hc
        exact LCg.CompEnd.intro FF NN _ (fun p hp => hp) offc trivial ⟨rfl, _, _, rfl, by rw [if_pos hc]⟩
      · rename News _ _ _ _ => NN
        rename Fr _ _ _ _ => FF
        rename (List.getD _ _ _ ≠ List.getD _ _ _) => hc
        rw [edge_eq, edge_at _ _ _ hk2, edge_at _ _ _ (Nat.le_of_eq (toNat01 i)), toNat01] at hc
        exact LCg.CompEnd.intro FF NN _ (fun p hp => hp) offc trivial ⟨rfl, by rw [if_neg hc]⟩
    · unfold KPfDone
      intro ys hys hyl
      have hrk : (0 + (i : Int) * 1 - 0).toNat = i := toNat01' i
      rw [hrk] at hys hyl
      have hel : earl x i = (rangeKs 0 i).foldl (fun l j => if edgeS x j.toNat = edgeS x i then l ++ [j] else l) [] := rfl
      rw [← hel] at hys
      have hb := earl_bd x i
      clear hel
      generalize hE : earl x i = el at hys hb
      have hell : el.length ≤ 8 := by rw [← hys.length]; lia
      k_steps
      · unfold Stop
        rw [toNatM]
        refine KXi.item (n := 8) (by decide +kernel) (Int.le_trans (by decide) (hb _).1) (Int.lt_of_lt_of_le (hb _).2 (by lia)) (by decide) ?_
        intro e1
        generalize hp1 : Txt.item (Str.ofString "abcdefgh") (el.getD (el.length - 1) 0) = p1 at e1 ⊢
        refine Stop.out ?_
        unfold Stop
        k_steps
        unfold Stop
        refine KXi.item (n := 8) (by decide +kernel) (by lia) (by lia) (by decide) ?_
        rw [Int.zero_add, Int.mul_one]
        intro e2
        generalize hp2 : Txt.item (Str.ofString "abcdefgh") (i : Int) = p2 at e2 ⊢
        k_steps
        rename News _ _ _ _ => N9
        rename Fr _ _ _ _ => F9
        rename ((el.length : Int).fmod 2 = 1) => hodd
        rename (_ = Data.cell (some (Value.int (0 + (i : Int) * 1) t))) => hcell
        rw [List.push_toArray, List.push_toArray, edge_eq] at N9
        obtain ⟨tM, kM, te, kE, N9⟩ := nameTurn1 N9
        refine end_my ⟨es ++ [.int (edgeS x i) te], kE, met ++ [(p1 ++ p2, tM)], kM, _⟩ F9 N9 ?_ ?_ rfl (fun _ h => nomatch h) ?_ ⟨?_, ⟨_, hcell⟩, ?_, ?_⟩
        · simp only [List.map_append, List.map_cons, List.map_nil]
          exact List.forall_mem_cons.mpr ⟨.tail _ (.head _), List.forall_mem_cons.mpr ⟨.tail _ (.tail _ (.head _)), List.forall_mem_cons.mpr ⟨.tail _ (.tail _ (.tail _ (.head _))), List.forall_mem_cons.mpr ⟨.tail _ (.tail _ (.tail _ (.tail _ (.head _)))), fun p hp => .tail _ (.tail _ (.tail _ (.tail _ (.tail _ (List.mem_append_left _ hp)))))⟩⟩⟩⟩
        · exact fun p hp => .tail _ (.tail _ (.tail _ (.tail _ (.tail _ (List.mem_append_right _ hp)))))
        · walk_at "FrameRest"
        · rw [List.range_succ, List.map_append]
          exact hP1.append (.cons _ _ .nil)
        · dsimp only
          rw [metS, hE, if_pos (odd_of hodd), List.map_append, hP4, hp1, hp2]
          rfl
        · simp only [List.length_append, List.length_cons, List.length_nil]; lia
      · rename News _ _ _ _ => N9
        rename Fr _ _ _ _ => F9
        rename ((el.length : Int).fmod 2 ≠ 1) => hodd
        rename (_ = Data.cell (some (Value.int (0 + (i : Int) * 1) t))) => hcell
        rw [List.push_toArray, edge_eq] at N9
        obtain ⟨te, kE, N9⟩ := nameTurn2 N9
        refine end_my ⟨es ++ [.int (edgeS x i) te], kE, met, nM, _⟩ F9 N9 ?_ ?_ rfl (fun _ h => nomatch h) ?_ ⟨?_, ⟨_, hcell⟩, ?_, ?_⟩
        · exact List.forall_mem_cons.mpr ⟨.tail _ (.head _), List.forall_mem_cons.mpr ⟨.tail _ (.tail _ (.head _)), List.forall_mem_cons.mpr ⟨.tail _ (.tail _ (.tail _ (.head _))), List.forall_mem_cons.mpr ⟨.tail _ (.tail _ (.tail _ (.tail _ (.head _)))), fun p hp => .tail _ (.tail _ (.tail _ (.tail _ (.tail _ (List.mem_append_left _ hp)))))⟩⟩⟩⟩
        · exact fun p hp => .tail _ (.tail _ (.tail _ (.tail _ (.tail _ (List.mem_append_right _ hp)))))
        · walk_at "FrameRest"
        · rw [List.range_succ, List.map_append]
          exact hP1.append (.cons _ _ .nil)
        · dsimp only
          rw [metS, hE, if_neg (odd_not hodd), hP4]
        · dsimp only; lia
    · intro l k
      dsimp only
      split <;> simp
  · rintro ⟨es, nE, met, nM, ok⟩ u h tk ⟨-, -, hP4, -⟩ F8 N8
    dsimp only at F8 N8 hP4 ⊢
    clear hR
    (revert F8; revert N8; revert FG; walk_at "mine past"; intro FG N8 F8)
    k_steps
    rename (_ ∧ _ ∧ _ ∧ AllLt M news) => l9
    exact hret _ _ _ _ _ hP4 (by assumption) (newsSub (by assumption) (by walk_at "mine perm")) (all_of_allLt l9.2.2.2)
end Mine
end

/- W1 -/
section
open PySem PySem.W PySem.Spec PySem.Calls PyProof.Rows PyProof.V
set_option Elab.async false
set_option maxRecDepth 100000
namespace Mine
theorem reset_W1 {M : PySem.Model} {A : PySem.Around} {Q : PySem.Flow → PySem.Shared → Prop} {E : PySem.Value → PySem.Shared → Prop} {s : PySem.Shared} {env : PySem.Env} (h : Q .next s) : PySem.wpAny M A (PySem.execs [] env) Q E s := by
  w_top off
  first | (walk1; exact h) | exact PySem.wpAny_execs_nil h
set_option maxHeartbeats 2000000
local macro_rules | `(tactic| walk_at $k:str) => if (["pyIter ref", "subscriptTail", "compareOp Eq int int", "inplaceOp Add str str"] : List String).contains k.getString then `(tactic| walk_at "mine stop") else Lean.Macro.throwUnsupported
local macro_rules | `(tactic| size_fits) => `(tactic| walk_at "mine size")
local macro_rules | `(tactic| k_all) => `(tactic| assumption)
local macro_rules | `(tactic| walk_at "InvEndN") => `(tactic| refine Stop.out ?_)
local macro_rules | `(tactic| walk_at "FrameRest") => `(tactic| walk_at "mine frame")
local macro_rules | `(tactic| walk_at "execs cons") => `(tactic| (k_here; ((with_reducible refine wpAny_execs_cons ?_); try dsimp only)))
/-- the row as a text -/
noncomputable def wordOf (bs : List Bool) : Str := ⟨(bs.map fun b => if b then 60 else 62).toArray⟩
noncomputable def WordOk (n : Nat) (x : Str) : Prop := ∃ bs : List Bool, bs.length = 2 * n ∧ bs.count true = n ∧ x = wordOf bs
noncomputable abbrev RetWord (n : Nat) (h₀ : Heap) (L : Addr) (m : Str → Option Value) (news : List (Addr × Obj)) (s : Shared) (Q : Value → Shared → Prop) : Prop :=
  ∀ (x : Str) (t : Tok) (h' : Heap) (tk' : Nat), WordOk n x → Fr h₀ L h' m → News h₀ L h' news → Q (.str x t) { s with heap := h', toks := tk' }
noncomputable def allB : Nat → List (List Bool)
  | 0 => [[]]
  | n + 1 => (allB n).map (true :: ·) ++ (allB n).map (false :: ·)
theorem mem_allB : ∀ bs : List Bool, bs ∈ allB bs.length
  | [] => .head _
  | b :: bs => by
    have h := mem_allB bs
    cases b <;> simp [allB, h]
theorem s_lt : Str.ofString "<" = ⟨#[60]⟩ := by decide +kernel
theorem word_cps (bs : List Bool) : (wordOf bs).cps.toList = bs.map fun b => if b then 60 else 62 := rfl
theorem cnt_wordT (bs : List Bool) : Txt.count (wordOf bs) (Str.ofString "<") = (bs.count true : Int) := by
  rw [s_lt, count_cnt, word_cps]
  induction bs with
  | nil => rfl
  | cons b r ih =>
    rw [List.map_cons, cnt_cons, ih, List.count_cons]
    cases b <;> simp <;> lia
theorem cnt_word (bs : List Bool) (_ : bs.length ≤ 8) : Txt.count (wordOf bs) (Str.ofString "<") = (bs.count true : Int) := cnt_wordT bs
theorem word_len (bs : List Bool) : (wordOf bs).length = bs.length := by
  show (wordOf bs).cps.size = _
  simp [wordOf]
theorem word_lt (bs : List Bool) : wordOf bs ++ Str.ofString "<" = wordOf (bs ++ [true]) := by
  have e : Str.ofString "<" = ⟨#[60]⟩ := by decide +kernel
  rw [e]
  show (⟨(wordOf bs).cps ++ #[60]⟩ : Str) = _
  simp [wordOf]
theorem word_gt (bs : List Bool) : wordOf bs ++ Str.ofString ">" = wordOf (bs ++ [false]) := by
  have e : Str.ofString ">" = ⟨#[62]⟩ := by decide +kernel
  rw [e]
  show (⟨(wordOf bs).cps ++ #[62]⟩ : Str) = _
  simp [wordOf]
theorem word_up {bs : List Bool} {i n : Nat} (h1 : bs.length = i) (h2 : bs.count true ≤ n) (h3 : i ≤ n + bs.count true) (h : bs.count true < n) : (bs ++ [true]).length = i + 1 ∧ (bs ++ [true]).count true ≤ n ∧ i + 1 ≤ n + (bs ++ [true]).count true := by
  simp only [List.length_append, List.length_cons, List.length_nil, List.count_append, List.count_singleton_self]
  lia
theorem word_dn {bs : List Bool} {i n : Nat} (h1 : bs.length = i) (h2 : bs.count true ≤ n) (h3 : i ≤ n + bs.count true) (h : i < n + bs.count true) : (bs ++ [false]).length = i + 1 ∧ (bs ++ [false]).count true ≤ n ∧ i + 1 ≤ n + (bs ++ [false]).count true := by
  have e : List.count true [false] = 0 := rfl
  simp only [List.length_append, List.length_cons, List.length_nil, List.count_append, e]
  lia
theorem sum_pick {prog : Program} {w : World} {A : Around} {E : Value → Shared → Prop} {s : Shared} {h₀ : Heap} {L D : Addr} {m : Str → Option Value} {news : List (Addr × Obj)} {vs : List Value} {ns : List Int} {lo hi st : Option Int} {Q : Value → Shared → Prop} (hh : A.handled = none) (F : Fr h₀ L s.heap m)
    (N : News h₀ L s.heap ((D, { cls := .type "list", data := .seq (slicePick vs.toArray lo hi st) }) :: news)) (hv : IntsAre vs ns)
    (h : ∀ (z : Int) h' tk t', Fr h₀ L h' m → News h₀ L h' news → Q (.int z t') { s with heap := h', toks := tk }) : wpAny (model prog w) A (call (.builtin "sum") [.ref D]) Q E s := by
  have hl : s.heap.IsList D (slicePick vs.toArray lo hi st).toList.toArray := ⟨_, (N _ (.head _)).1, rfl, 0, by rw [Array.toArray_toList]⟩
  exact sumK hh F N hl (hv.pick lo hi st) fun h' tk t' F' N' => h _ h' tk t' F' fun p hp => N' p (.tail _ hp)
theorem c_word (w : World) (news : List (Addr × Obj)) (l : Addr) (vs : List Value) (ns : List Int) (hv : IntsAre vs ns) (hl : ns.length ≤ 63) (n : Nat) (tn : Tok) (hn0 : 0 < n) (hn : n ≤ 4) (G : Heap) (hG : G.IsList l vs.toArray) :
    ClaimS 20 w 140 news [.ref l, .int (n : Int) tn] (fun h₀ L m s Q => (∀ b o, G.get? b = some o → h₀.get? b = some o) ∧ RetWord n h₀ L m news s Q) := by
  unfold ClaimS
  k_fill
  intro p loose mean mg mb dp un gd cn cs a ccd cl outer A₀ base h₀ L m s Q E B F X N T hk hd hu hret
  obtain ⟨hGk, hret⟩ := hret
  have hL : h₀.IsList l vs.toArray := hG.at fun o e => hGk _ o e
  refine wpAny_call ?_
  k_dflt cell_enter
  rename Fr h₀ L _ m => FG
  have hg := hL.at (h' := _) fun o e => FG.keep _ o e
  k_steps
  unfold Stop
  rename IsRange _ _ _ _ _ _ _ _ => hR
  rename News _ _ _ _ => N1
  rename Fr _ _ _ _ => F1
  refine range_my (σ := List Bool × Tok) (n := 2 * n) (fun c => news) (fun c => [("word", .str (wordOf c.1) c.2), ("script", .ref l), ("size", .int (n : Int) tn)]) ["odd", "opened"] (fun i c => c.1.length = i ∧ c.1.count true ≤ n ∧ i ≤ n + c.1.count true) rfl hR ?_ ?_ F1 N1 ?_ ?_ ?_
  · exact small_of (by decide) (by decide) (by lia) (by lia) (by decide) (by decide)
  · have := rangeSize_one (a := 0) (n := 2 * n)
    rwa [Int.zero_add, Int.natCast_mul] at this
  · refine start_my ([], _) rfl (List.forall_mem_cons.mpr ⟨rfl, List.forall_mem_cons.mpr ⟨rfl, List.forall_mem_cons.mpr ⟨rfl, fun _ h => nomatch h⟩⟩⟩) ⟨rfl, Nat.zero_le _, Nat.zero_le _⟩
  · rintro ⟨bs, t0⟩ i t u h tk own hi hoff ⟨hP1, hP2, hP3⟩ F2 N2
    dsimp only at F2 N2 hP1 hP2 hP3 ⊢
    clear hR F1 N1
    k_fold
    k_steps
    rename News _ _ _ _ => N4
    rename Fr _ _ _ _ => F4
    refine sum_pick rfl F4 N4 hv ?_
    intro z h5 tk5 tz F5 N5
    clear F4 N4
    k_steps
    unfold Stop
    refine eq_int ?_
    have hcnt := cnt_word bs (by lia)
    have hlw := word_len bs
    k_steps
    · unfold Stop
      refine iadd_str (hsz := by rw [sizeLine_eq, hlw]; show _ + 1 ≤ _; lia) ?_
      intro t6 tk6
      rw [word_lt]
      k_steps
      unfold Stop
      rename News _ _ _ _ => N9
      rename Fr _ _ _ _ => F9
      refine end_my (bs ++ [true], _) F9 N9 (fun p hp => List.mem_append_left _ hp) (fun p hp => List.mem_append_right _ hp) rfl (List.forall_mem_cons.mpr ⟨rfl, List.forall_mem_cons.mpr ⟨rfl, List.forall_mem_cons.mpr ⟨rfl, fun _ h => nomatch h⟩⟩⟩) ?_ ?_
      · walk_at "FrameRest"
      · rename (Txt.count _ _ < _) => hlt; rw [hcnt] at hlt; exact word_up hP1 hP2 hP3 (by lia)
    · unfold Stop
      refine eq_int ?_
      k_steps
      · unfold Stop
        refine iadd_str (hsz := by rw [sizeLine_eq, hlw]; show _ + 1 ≤ _; lia) ?_
        intro t6 tk6
        rw [word_lt]
        k_steps
        unfold Stop
        rename News _ _ _ _ => N9
        rename Fr _ _ _ _ => F9
        refine end_my (bs ++ [true], _) F9 N9 (fun p hp => List.mem_append_left _ hp) (fun p hp => List.mem_append_right _ hp) rfl (List.forall_mem_cons.mpr ⟨rfl, List.forall_mem_cons.mpr ⟨rfl, List.forall_mem_cons.mpr ⟨rfl, fun _ h => nomatch h⟩⟩⟩) ?_ ?_
        · walk_at "FrameRest"
        · rename (Txt.count _ _ < _) => hlt; rw [hcnt] at hlt; exact word_up hP1 hP2 hP3 (by lia)
      · unfold Stop
        refine iadd_str (hsz := by rw [sizeLine_eq, hlw]; show _ + 1 ≤ _; lia) ?_
        intro t6 tk6
        rw [word_gt]
        k_steps
        unfold Stop
        rename News _ _ _ _ => N9
        rename Fr _ _ _ _ => F9
        refine end_my (bs ++ [false], _) F9 N9 (fun p hp => List.mem_append_left _ hp) (fun p hp => List.mem_append_right _ hp) rfl (List.forall_mem_cons.mpr ⟨rfl, List.forall_mem_cons.mpr ⟨rfl, List.forall_mem_cons.mpr ⟨rfl, fun _ h => nomatch h⟩⟩⟩) ?_ ?_
        · walk_at "FrameRest"
        · rename (¬ _ = (n : Int)) => hne; rw [hcnt] at hne; exact word_dn hP1 hP2 hP3 (by lia)
    · unfold Stop
      refine iadd_str (hsz := by rw [sizeLine_eq, hlw]; show _ + 1 ≤ _; lia) ?_
      intro t6 tk6
      rw [word_gt]
      k_steps
      unfold Stop
      rename News _ _ _ _ => N9
      rename Fr _ _ _ _ => F9
      refine end_my (bs ++ [false], _) F9 N9 (fun p hp => List.mem_append_left _ hp) (fun p hp => List.mem_append_right _ hp) rfl (List.forall_mem_cons.mpr ⟨rfl, List.forall_mem_cons.mpr ⟨rfl, List.forall_mem_cons.mpr ⟨rfl, fun _ h => nomatch h⟩⟩⟩) ?_ ?_
      · walk_at "FrameRest"
      · rename (¬ Txt.count _ _ < _) => hlt; rw [hcnt] at hlt; exact word_dn hP1 hP2 hP3 (by lia)
  · rintro ⟨bs, t0⟩ u h tk ⟨hP1, hP2, hP3⟩ F2 N2
    dsimp only at F2 N2 hP1 hP2 hP3 ⊢
    clear hR F1 N1
    k_steps
    exact hret _ _ _ _ ⟨bs, hP1, by lia, rfl⟩ (by assumption) (by assumption)
end Mine
end

/- Pu -/
section
open PySem PySem.W PySem.Spec PySem.Calls PyProof.Rows PyProof.V
set_option Elab.async false
set_option maxRecDepth 100000
namespace Mine
theorem reset_Pu {M : PySem.Model} {A : PySem.Around} {Q : PySem.Flow → PySem.Shared → Prop} {E : PySem.Value → PySem.Shared → Prop} {s : PySem.Shared} {env : PySem.Env} (h : Q .next s) : PySem.wpAny M A (PySem.execs [] env) Q E s := by
  w_top off
  first | (walk1; exact h) | exact PySem.wpAny_execs_nil h
/-- a row of marks as octets -/
noncomputable def rowL : List Bool → List UInt8
  | [] => []
  | u :: r => (pc u).toList ++ rowL r
noncomputable def rowOf (bs : List Bool) : Array UInt8 := (rowL bs).toArray
noncomputable def upB (bs : List Bool) : Nat → Bool := fun i => bs.getD i false
noncomputable def turnB (bs : List Bool) (k : Nat) : List Bool := bs.drop (k + 1) ++ ((bs.drop k).take 1 ++ bs.take k)
theorem pc_len (u : Bool) : (pc u).toList.length = 4 := by cases u <;> rfl
theorem rowL_len : ∀ bs, (rowL bs).length = 4 * bs.length
  | [] => rfl
  | u :: r => by rw [rowL, List.length_append, pc_len, rowL_len r, List.length_cons]; lia
theorem rowOf_size (bs : List Bool) : (rowOf bs).size = 4 * bs.length := rowL_len bs
theorem rowL_app : ∀ a b, rowL (a ++ b) = rowL a ++ rowL b
  | [], b => rfl
  | u :: a, b => by rw [List.cons_append, rowL, rowL_app a b, rowL, List.append_assoc]
theorem rowL_drop : ∀ (bs : List Bool) (i : Nat), (rowL bs).drop (4 * i) = rowL (bs.drop i)
  | bs, 0 => by simp
  | [], i + 1 => by simp [rowL]
  | u :: r, i + 1 => by
    rw [rowL, List.drop_succ_cons, ← rowL_drop r i, show 4 * (i + 1) = (pc u).toList.length + 4 * i by rw [pc_len]; lia, List.drop_length_add_append]
theorem rowL_take : ∀ (bs : List Bool) (i : Nat), (rowL bs).take (4 * i) = rowL (bs.take i)
  | bs, 0 => by simp [rowL]
  | [], i + 1 => by simp [rowL]
  | u :: r, i + 1 => by
    rw [rowL, List.take_succ_cons, rowL, ← rowL_take r i, show 4 * (i + 1) = (pc u).toList.length + 4 * i by rw [pc_len]; lia, List.take_length_add_append]
theorem drop_cons {bs : List Bool} {i : Nat} (h : i < bs.length) : bs.drop i = upB bs i :: bs.drop (i + 1) := by
  rw [List.drop_eq_getElem_cons h]
  simp [upB, h]
theorem row_pc {bs : List Bool} {i : Nat} (h : i < bs.length) : ((rowOf bs).toList.drop (4 * i)).take 4 = (pc (upB bs i)).toList := by
  show ((rowL bs).drop (4 * i)).take 4 = _
  rw [rowL_drop, drop_cons h, rowL]
  have := pc_len (upB bs i)
  rw [List.take_append_of_le_length (by lia), List.take_of_length_le (by lia)]
theorem row_up {bs : List Bool} {i : Nat} (h : i < bs.length) : ((rowOf bs).toList.getD (1 + 4 * i) 0).toNat = if upB bs i then 108 else 103 := by
  have e : (rowOf bs).toList.getD (1 + 4 * i) 0 = (((rowOf bs).toList.drop (4 * i)).take 4).getD 1 0 := by
    simp [List.getD, List.getElem?_take, List.getElem?_drop, Nat.add_comm]
  rw [e, row_pc h]
  cases upB bs i <;> rfl
theorem row_turn {bs : List Bool} {k : Nat} : turned (rowOf bs) k = rowOf (turnB bs k) := by
  unfold turned rowOf turnB
  simp only [rowL_app, List.toList_toArray]
  rw [show 4 * k + 4 = 4 * (k + 1) by lia, rowL_drop, rowL_drop, rowL_take, show (4 : Nat) = 4 * 1 from rfl, rowL_take]
theorem row_low (bs : List Bool) : ∀ x ∈ (rowOf bs).toList, x.toNat < 128 := by
  show ∀ x ∈ rowL bs, _
  induction bs with
  | nil => intro x hx; cases hx
  | cons u r ih =>
    intro x hx
    rcases List.mem_append.mp hx with hx | hx
    · exact pc_low u x hx
    · exact ih x hx
noncomputable def rrow : List Bool → List UInt8
  | [] => []
  | u :: r => (pc u).toList.reverse ++ rrow r
theorem rrow_len : ∀ bs, (rrow bs).length = 4 * bs.length
  | [] => rfl
  | u :: r => by rw [rrow, List.length_append, List.length_reverse, pc_len, rrow_len r, List.length_cons]; lia
theorem rrow_app : ∀ a b, rrow (a ++ b) = rrow a ++ rrow b
  | [], b => rfl
  | u :: a, b => by rw [List.cons_append, rrow, rrow_app a b, rrow, List.append_assoc]
theorem rowL_rev : ∀ bs, (rowL bs).reverse = rrow bs.reverse
  | [] => rfl
  | u :: r => by rw [rowL, List.reverse_append, rowL_rev r, List.reverse_cons, rrow_app]; simp [rrow]
theorem rrow_drop : ∀ (bs : List Bool) (i : Nat), (rrow bs).drop (4 * i) = rrow (bs.drop i)
  | bs, 0 => by simp
  | [], i + 1 => by simp [rrow]
  | u :: r, i + 1 => by
    rw [rrow, List.drop_succ_cons, ← rrow_drop r i, show 4 * (i + 1) = (pc u).toList.reverse.length + 4 * i by rw [List.length_reverse, pc_len]; lia, List.drop_length_add_append]
theorem chunks_rrow (cs : List Bool) : ∀ q, q ≤ cs.length → revChunks (rrow cs) 4 q = rowL (cs.take q)
  | 0, _ => by simp [revChunks, rowL]
  | q + 1, h => by
    have := pc_len (upB cs q)
    rw [revChunks, chunks_rrow cs q (by lia), Nat.mul_comm q 4, rrow_drop, drop_cons (by lia), rrow, List.take_append_of_le_length (by rw [List.length_reverse]; lia)]
    rw [show (pc (upB cs q)).toList.reverse.take 4 = (pc (upB cs q)).toList.reverse from List.take_of_length_le (by rw [List.length_reverse]; lia), List.reverse_reverse]
    have e : cs.take (q + 1) = cs.take q ++ [upB cs q] := by
      rw [List.take_add_one, List.getElem?_eq_getElem (by lia)]
      simp [upB, show q < cs.length by lia]
    rw [e, rowL_app]
    simp [rowL]
theorem row_mirror (bs : List Bool) : (revChunks (revChunks (rowOf bs).toList (rowOf bs).size 1).toArray.toList 4 bs.length).toArray = rowOf bs.reverse := by
  have e1 : revChunks (rowOf bs).toList (rowOf bs).size 1 = rrow bs.reverse := by
    show [] ++ (((rowL bs).drop (0 * _)).take _).reverse = _
    rw [Nat.zero_mul, List.drop_zero, List.nil_append, List.take_of_length_le (by rw [rowL_len, rowOf_size]; exact Nat.le_refl _), rowL_rev]
  rw [e1, List.toList_toArray, chunks_rrow _ _ (by rw [List.length_reverse]; exact Nat.le_refl _), ← List.length_reverse, List.take_length]
  rfl
noncomputable def balanced (n : Nat) : List (List Bool) := (allB (2 * n)).filter fun bs => bs.count true == n
theorem mem_balanced {n : Nat} {bs : List Bool} (h1 : bs.length = 2 * n) (h2 : bs.count true = n) : bs ∈ balanced n := by
  refine List.mem_filter.mpr ⟨h1 ▸ mem_allB bs, ?_⟩
  rw [h2]; exact beq_self_eq_true n
theorem turnB_len {bs : List Bool} {k : Nat} (h : k < bs.length) : (turnB bs k).length = bs.length := by
  simp only [turnB, List.length_append, List.length_drop, List.length_take]; lia
theorem turnB_count {bs : List Bool} {k : Nat} (h : k < bs.length) : (turnB bs k).count true = bs.count true := by
  have e : bs = bs.take k ++ ((bs.drop k).take 1 ++ bs.drop (k + 1)) := by
    rw [drop_cons h]
    simp only [List.take_succ_cons, List.take_zero, List.singleton_append]
    rw [← drop_cons h, List.take_append_drop]
  conv => rhs; rw [e]
  simp only [turnB, List.count_append]
  lia
end Mine
end

/- Pl -/
section
open PySem PySem.W PySem.Spec PySem.Calls PyProof.Rows PyProof.V
open PySem.Builtin PySem.Builtin.Str
set_option Elab.async false
set_option maxRecDepth 100000
namespace Mine
theorem reset_Pl {M : PySem.Model} {A : PySem.Around} {Q : PySem.Flow → PySem.Shared → Prop} {E : PySem.Value → PySem.Shared → Prop} {s : PySem.Shared} {env : PySem.Env} (h : Q .next s) : PySem.wpAny M A (PySem.execs [] env) Q E s := by
  w_top off
  first | (walk1; exact h) | exact PySem.wpAny_execs_nil h
theorem fold_glue (z : Str) : ∀ (rest : List Str) (acc : Array Nat), (rest.foldl (fun acc p => acc ++ z.cps ++ p.cps) acc).toList = acc.toList ++ rest.flatMap fun p => z.cps.toList ++ p.cps.toList
  | [], acc => by simp
  | p :: r, acc => by rw [List.foldl_cons, fold_glue z r]; simp [List.append_assoc]
theorem glue_cons (z p : Str) (r : List Str) : (glued z (p :: r)).cps.toList = p.cps.toList ++ r.flatMap fun p => z.cps.toList ++ p.cps.toList := by
  unfold glued
  exact fold_glue z r p.cps
noncomputable def subst1 (c : Nat) (z : List Nat) (l : List Nat) : List Nat := l.flatMap fun d => if d = c then z else [d]
theorem subst1_free {c : Nat} {z : List Nat} : ∀ {l : List Nat}, c ∉ l → subst1 c z l = l
  | [], _ => rfl
  | d :: l, h => by
    have hd : ¬ d = c := fun e => h (e ▸ .head _)
    have := subst1_free (z := z) (fun hm => h (.tail _ hm) : c ∉ l)
    unfold subst1 at this ⊢
    rw [List.flatMap_cons, if_neg hd, this]; rfl
theorem parts_glue (x z : Str) (c : Nat) : ∀ (cuts : List Nat) (a f : Nat), StrLaws.ChainG x ⟨#[c]⟩ x.length a cuts f → (∀ k, f ≤ k → ¬ StrLaws.At x ⟨#[c]⟩ x.length k) →
    ∃ p r, StrLaws.partsFrom x 1 a cuts = p :: r ∧ p.cps.toList ++ (r.flatMap fun p => z.cps.toList ++ p.cps.toList) = subst1 c z.cps.toList (x.cps.toList.drop a)
  | [], a, f, h, hn => by
    have e : f = a := h
    subst e
    refine ⟨_, [], rfl, ?_⟩
    rw [StrLaws.strSub_toList, List.take_of_length_le (by rw [List.length_drop]; exact Nat.le_refl _), subst1_free (drop_free x c f hn)]
    simp
  | d :: r, a, f, h, hn => by
    obtain ⟨had, hAt, hgap, hrest⟩ := h
    obtain ⟨p, q, e, ih⟩ := parts_glue x z c r _ f hrest hn
    have hw : (⟨#[c]⟩ : Str).length = 1 := rfl
    rw [hw] at e ih
    refine ⟨_, p :: q, by rw [StrLaws.partsFrom, e], ?_⟩
    have hd : x.cps.toList[d]? = some c := (StrLaws.subAt_one x c d).mp hAt
    have e1 : x.cps.toList.drop a = (x.cps.toList.drop a).take (d - a) ++ (x.cps.toList.drop a).drop (d - a) := (List.take_append_drop _ _).symm
    have e2 : (x.cps.toList.drop a).drop (d - a) = x.cps.toList.drop d := by rw [List.drop_drop]; congr 1; lia
    have e3 : x.cps.toList.drop d = c :: x.cps.toList.drop (d + 1) := by
      have hlt : d < x.cps.toList.length := (List.getElem?_eq_some_iff.mp hd).1
      rw [List.drop_eq_getElem_cons hlt]
      congr 1
      exact (List.getElem?_eq_some_iff.mp hd).2
    have hfree : c ∉ (x.cps.toList.drop a).take (d - a) := by
      have := StrLaws.part_free x c a d (by have := hAt.1; lia) hgap
      rwa [StrLaws.strSub_toList] at this
    have hs := subst1_free (z := z.cps.toList) hfree
    rw [StrLaws.strSub_toList, List.flatMap_cons, List.append_assoc, ih]
    conv => rhs; rw [e1, e2, e3]
    unfold subst1 at hs ⊢
    rw [List.flatMap_append, hs, List.flatMap_cons, if_pos rfl]
theorem occ_none {x : Str} {c : Nat} (h : (occurrences x ⟨#[c]⟩ 0 x.length (x.length + 1)).isEmpty = true) : c ∉ x.cps.toList := by
  obtain ⟨f, hG, hn⟩ := StrLaws.occ_tight x ⟨#[c]⟩ (Nat.le_refl 1)
  have e : occurrences x ⟨#[c]⟩ 0 x.length (x.length + 1) = [] := List.isEmpty_iff.mp h
  rw [e] at hG
  have hf : f = 0 := hG
  subst hf
  have := drop_free x c 0 hn
  rwa [List.drop_zero] at this
/-- str.replace of a single sign -/
theorem replace_one (x z : Str) (c : Nat) : (Txt.replace x ⟨#[c]⟩ z).cps.toList = subst1 c z.cps.toList x.cps.toList := by
  unfold Txt.replace
  by_cases h : ((occurrences x ⟨#[c]⟩ 0 x.length (x.length + 1)).isEmpty || ((⟨#[c]⟩ : Str).length == 0 && z.length == 0)) = true
  · rw [if_pos h]
    have h1 : (occurrences x ⟨#[c]⟩ 0 x.length (x.length + 1)).isEmpty = true := by
      rcases Bool.or_eq_true_iff.mp h with q | q
      · exact q
      · have : (⟨#[c]⟩ : Str).length = 1 := rfl
        rw [this] at q; cases q
    exact (subst1_free (occ_none h1)).symm
  · rw [if_neg h]
    obtain ⟨f, hG, hn⟩ := StrLaws.occ_tight x ⟨#[c]⟩ (Nat.le_refl 1)
    obtain ⟨p, r, e, q⟩ := parts_glue x z c _ 0 f hG hn
    rw [StrLaws.partsBetween_eq, show (⟨#[c]⟩ : Str).length = 1 from rfl, e, glue_cons, q, List.drop_zero]
theorem s_gt : Str.ofString ">" = ⟨#[62]⟩ := by decide +kernel
theorem s_amp : Str.ofString "&" = ⟨#[38]⟩ := by decide +kernel
theorem s_cr : Str.ofString "\r" = ⟨#[13]⟩ := by decide +kernel
theorem z_lt : (Str.ofString "&lt;").cps.toList = [38, 108, 116, 59] := by decide +kernel
theorem z_gt : (Str.ofString "&gt;").cps.toList = [38, 103, 116, 59] := by decide +kernel
theorem has_one (x : Str) (c : Nat) : has x ⟨#[c]⟩ = decide (c ∈ x.cps.toList) := StrLaws.found_one x c
theorem esc1_cps : ∀ bs : List Bool, (esc1 (wordOf bs)).cps.toList = bs.flatMap fun b => if b then [38, 108, 116, 59] else [62] := by
  intro bs
  unfold esc1
  rw [s_lt, replace_one, word_cps, z_lt]
  induction bs with
  | nil => rfl
  | cons b r ih =>
    unfold subst1 at ih ⊢
    rw [List.map_cons, List.flatMap_cons, ih, List.flatMap_cons]
    cases b <;> rfl
theorem rowL_map : ∀ bs : List Bool, (rowL bs).map (·.toNat) = bs.flatMap fun b => if b then [38, 108, 116, 59] else [38, 103, 116, 59]
  | [] => rfl
  | b :: r => by
    rw [rowL, List.map_append, rowL_map r, List.flatMap_cons]
    cases b <;> rfl
theorem esc2_cps (bs : List Bool) : (esc2 (wordOf bs)).cps.toList = (rowL bs).map (·.toNat) := by
  unfold esc2
  rw [s_gt, replace_one, esc1_cps, z_gt, rowL_map]
  induction bs with
  | nil => rfl
  | cons b r ih =>
    unfold subst1 at ih ⊢
    rw [List.flatMap_cons, List.flatMap_append, ih, List.flatMap_cons]
    cases b <;> rfl
theorem row_signs {bs : List Bool} {c : Nat} (h : c ∈ (rowL bs).map (·.toNat)) : c = 38 ∨ c = 108 ∨ c = 103 ∨ c = 116 ∨ c = 59 := by
  rw [rowL_map] at h
  obtain ⟨b, _, hb⟩ := List.mem_flatMap.mp h
  cases b <;> simp at hb <;> lia
theorem mem_true {n : Nat} {bs : List Bool} (hn : 0 < n) (h2 : bs.count true = n) : true ∈ bs := List.count_pos_iff.mp (by lia)
theorem mem_false {n : Nat} {bs : List Bool} (hn : 0 < n) (h1 : bs.length = 2 * n) (h2 : bs.count true = n) : false ∈ bs := by
  refine List.count_pos_iff.mp ?_
  have : bs.count true + bs.count false = bs.length := by
    clear h1 h2
    induction bs with
    | nil => rfl
    | cons b r ih => cases b <;> simp [List.count_cons] <;> lia
  lia
theorem esc1_len (bs : List Bool) : (esc1 (wordOf bs)).length ≤ 4 * bs.length := by
  show (esc1 (wordOf bs)).cps.size ≤ _
  rw [← Array.length_toList, esc1_cps]
  induction bs with
  | nil => exact Nat.le_refl _
  | cons b r ih =>
    rw [List.flatMap_cons, List.length_append, List.length_cons]
    have : (if b = true then [38, 108, 116, 59] else [62] : List Nat).length ≤ 4 := by cases b <;> decide
    lia
theorem esc_ok {n : Nat} {bs : List Bool} (hn : n = 3 ∨ n = 4) (h1 : bs.length = 2 * n) (h2 : bs.count true = n) :
    has (wordOf bs) (Str.ofString "&") = false ∧ has (wordOf bs) (Str.ofString "<") = true ∧ has (esc1 (wordOf bs)) (Str.ofString ">") = true ∧ has (esc2 (wordOf bs)) (Str.ofString "\r") = false ∧ (esc1 (wordOf bs)).length ≤ 100 ∧
    (esc2 (wordOf bs)).cps.toList = (rowL bs).map (·.toNat) := by
  have n0 : 0 < n := by lia
  refine ⟨?_, ?_, ?_, ?_, ?_, esc2_cps bs⟩
  · rw [s_amp, has_one, word_cps]
    refine decide_eq_false fun h => ?_
    obtain ⟨b, _, hb⟩ := List.mem_map.mp h
    cases b <;> simp at hb
  · rw [s_lt, has_one, word_cps]
    exact decide_eq_true (List.mem_map.mpr ⟨true, mem_true n0 h2, rfl⟩)
  · rw [s_gt, has_one, esc1_cps]
    exact decide_eq_true (List.mem_flatMap.mpr ⟨false, mem_false n0 h1 h2, by simp⟩)
  · rw [s_cr, has_one, esc2_cps]
    refine decide_eq_false fun h => ?_
    have := row_signs h
    lia
  · have := esc1_len bs
    lia
theorem esc_octets {x : Str} {bs : List Bool} (h : x.cps.toList = (rowL bs).map (·.toNat)) : octets x = rowOf bs := by
  unfold octets rowOf
  rw [h, List.map_map]
  congr 1
  have : ∀ l : List UInt8, l.map ((fun n : Nat => n.toUInt8) ∘ UInt8.toNat) = l := by
    intro l
    induction l with
    | nil => rfl
    | cons a l ih => rw [List.map_cons, ih]; simp
  exact this _
theorem esc_len {x : Str} {bs : List Bool} (h : x.cps.toList = (rowL bs).map (·.toNat)) : x.length = 4 * bs.length := by
  show x.cps.size = _
  rw [← Array.length_toList, h, List.length_map, rowL_len]
theorem esc_low {x : Str} {bs : List Bool} (h : x.cps.toList = (rowL bs).map (·.toNat)) : ∀ c ∈ x.cps.toList, c < 128 := by
  intro c hc
  rw [h] at hc
  obtain ⟨u, hu, rfl⟩ := List.mem_map.mp hc
  exact row_low bs u hu
theorem slice_word (bs : List Bool) (k : Nat) (h : k ≤ bs.length) : Txt.slice (wordOf bs) none (some (k : Int)) = wordOf (bs.take k) := by
  have e := slice_closes_to (x := wordOf bs) (j := (k : Int)) ⟨by lia, by rw [word_cps, List.length_map]; lia⟩
  rw [eq_of_beq e, word_cps]
  unfold wordOf
  congr 2
  rw [show (0 : Int).toNat = 0 from rfl, List.drop_zero, show ((k : Int) - 0).toNat = k by lia, List.map_take]
noncomputable def edgeB (bs : List Bool) (k : Nat) : Int := ((bs.take k).count true : Int) + ((bs.take (k + 1)).count true : Int) - k
theorem edge_word {bs : List Bool} {k : Nat} (h : k < bs.length) : edgeS (wordOf bs) k = edgeB bs k := by
  unfold edgeS cntS edgeB
  rw [slice_word bs k (by lia), slice_word bs (k + 1) (by lia), cnt_wordT, cnt_wordT]
end Mine
end

/- Pm -/
section
open PySem PySem.W PySem.Spec PySem.Calls PyProof.Rows PyProof.V
set_option Elab.async false
set_option maxRecDepth 100000
namespace Mine
theorem reset_Pm {M : PySem.Model} {A : PySem.Around} {Q : PySem.Flow → PySem.Shared → Prop} {E : PySem.Value → PySem.Shared → Prop} {s : PySem.Shared} {env : PySem.Env} (h : Q .next s) : PySem.wpAny M A (PySem.execs [] env) Q E s := by
  w_top off
  first | (walk1; exact h) | exact PySem.wpAny_execs_nil h
/-- the marks that go away with one another, as places: by the heights of the steps -/
noncomputable def earlB (bs : List Bool) (i : Nat) : List Nat := (List.range i).filter fun j => decide (edgeB bs j = edgeB bs i)
noncomputable def metB (bs : List Bool) : Nat → List (Nat × Nat)
  | 0 => []
  | i + 1 => if (earlB bs i).length % 2 = 1 then metB bs i ++ [((earlB bs i).getD ((earlB bs i).length - 1) 0, i)] else metB bs i
noncomputable def letL (j : Nat) : Str := Txt.item (Str.ofString "abcdefgh") (j : Int)
noncomputable def pairL (q : Nat × Nat) : Str := letL q.1 ++ letL q.2
theorem fold_filter (x : Str) (e : Int) : ∀ (l : List Nat) (acc : List Int), (l.map fun (i : Nat) => (0 : Int) + (i : Int)).foldl (fun l j => if edgeS x j.toNat = e then l ++ [j] else l) acc = acc ++ (l.filter fun j => decide (edgeS x j = e)).map fun j : Nat => (j : Int)
  | [], acc => by simp
  | j :: l, acc => by
    rw [List.map_cons, List.foldl_cons, fold_filter x e l, show ((0 : Int) + (j : Int)).toNat = j by lia, Int.zero_add, List.filter_cons]
    by_cases h : edgeS x j = e <;> simp [h]
theorem earl_word {bs : List Bool} {i : Nat} (h : i < bs.length) : earl (wordOf bs) i = (earlB bs i).map fun j : Nat => (j : Int) := by
  unfold earl rangeKs earlB
  rw [fold_filter, List.nil_append]
  congr 1
  refine List.filter_congr fun j hj => ?_
  have hj' := List.mem_range.mp hj
  rw [edge_word (by lia), edge_word h]
theorem getD_cast (l : List Nat) (k : Nat) : (l.map fun j : Nat => (j : Int)).getD k 0 = ((l.getD k 0 : Nat) : Int) := by
  simp only [List.getD, List.getElem?_map]
  cases l[k]? <;> rfl
theorem met_word (bs : List Bool) : ∀ i, i ≤ bs.length → metS (wordOf bs) i = (metB bs i).map pairL
  | 0, _ => rfl
  | i + 1, h => by
    rw [metS, metB, earl_word (by lia), List.length_map, met_word bs i (by lia), getD_cast]
    split
    · rw [List.map_append]; rfl
    · rfl
/-- the pile's run, its pairs as places -/
structure PI where
  stk : List (Nat × Bool)
  home : Int
  rise : Int
  met : List (Nat × Nat)
noncomputable def piStep (up : Nat → Bool) (k : Nat) (s : PI) : PI :=
  match s.stk.getLast? with
  | none => { s with stk := [(k, up k)], rise := if up k then 4 * (k : Int) else s.rise }
  | some (j, u) => if u = up k then { s with stk := s.stk ++ [(k, up k)] } else
     { s with stk := s.stk.dropLast, met := s.met ++ [(j, k)], home := if up k && decide (s.home < 0) && s.stk.dropLast.isEmpty then 4 * (k : Int) else s.home }
noncomputable def piRun (up : Nat → Bool) : Nat → PI
  | 0 => ⟨[], -1, -1, []⟩
  | i + 1 => piStep up i (piRun up i)
theorem pl_pi (up : Nat → Bool) (lt : Nat → Str) : ∀ i, plRun up lt i = ⟨(piRun up i).stk, (piRun up i).home, (piRun up i).rise, (piRun up i).met.map fun q => lt q.1 ++ lt q.2⟩
  | 0 => rfl
  | i + 1 => by
    rw [plRun, pl_pi up lt i, piRun]
    generalize piRun up i = s
    obtain ⟨stk, home, rise, met⟩ := s
    unfold plStep piStep
    dsimp only
    cases stk.getLast? with
    | none => rfl
    | some q =>
      obtain ⟨j, u⟩ := q
      dsimp only
      split
      · rfl
      · rw [List.map_append]; rfl
theorem pi_bd (up : Nat → Bool) : ∀ i, (∀ q ∈ (piRun up i).stk, q.1 < i) ∧ ∀ q ∈ (piRun up i).met, q.1 < i ∧ q.2 < i
  | 0 => ⟨fun _ h => (nomatch h), fun _ h => (nomatch h)⟩
  | i + 1 => by
    obtain ⟨a, b⟩ := pi_bd up i
    rw [piRun]
    generalize piRun up i = s at a b
    obtain ⟨stk, home, rise, met⟩ := s
    unfold piStep
    dsimp only at a b ⊢
    have b' : ∀ q ∈ met, q.1 < i + 1 ∧ q.2 < i + 1 := fun q hq => ⟨Nat.lt_succ_of_lt (b q hq).1, Nat.lt_succ_of_lt (b q hq).2⟩
    cases hl : stk.getLast? with
    | none =>
      refine ⟨fun q hq => ?_, b'⟩
      rw [List.mem_singleton.mp hq]; exact Nat.lt_succ_self i
    | some q =>
      obtain ⟨j, u⟩ := q
      have hj : j < i := a (j, u) (List.mem_of_getLast? hl)
      dsimp only
      split
      · refine ⟨fun q hq => ?_, b'⟩
        rcases List.mem_append.mp hq with hq | hq
        · exact Nat.lt_succ_of_lt (a q hq)
        · rw [List.mem_singleton.mp hq]; exact Nat.lt_succ_self i
      · refine ⟨fun q hq => Nat.lt_succ_of_lt (a q (List.dropLast_subset _ hq)), fun q hq => ?_⟩
        rcases List.mem_append.mp hq with hq | hq
        · exact b' q hq
        · rw [List.mem_singleton.mp hq]; exact ⟨Nat.lt_succ_of_lt hj, Nat.lt_succ_self i⟩
theorem metB_bd (bs : List Bool) : ∀ i, ∀ q ∈ metB bs i, q.1 < i ∧ q.2 < i
  | 0 => fun _ h => nomatch h
  | i + 1 => fun q hq => by
    have ih := metB_bd bs i
    rw [metB] at hq
    split at hq
    · rename_i ho
      rcases List.mem_append.mp hq with hq | hq
      · have := ih q hq; lia
      · rw [List.mem_singleton.mp hq]
        have hlt : (earlB bs i).length - 1 < (earlB bs i).length := by lia
        have hm : (earlB bs i).getD ((earlB bs i).length - 1) 0 ∈ earlB bs i := by
          rw [List.getD, List.getElem?_eq_getElem hlt]
          exact List.getElem_mem hlt
        have := List.mem_range.mp (List.mem_filter.mp hm).1
        exact ⟨by show _ < i + 1; lia, Nat.lt_succ_self i⟩
    · have := ih q hq; lia
theorem pi_len (up : Nat → Bool) : ∀ i, (piRun up i).met.length ≤ i
  | 0 => Nat.le_refl 0
  | i + 1 => by
    have a := pi_len up i
    rw [piRun]
    generalize piRun up i = s at a
    obtain ⟨stk, home, rise, met⟩ := s
    unfold piStep
    dsimp only at a ⊢
    cases stk.getLast? with
    | none => exact Nat.le_succ_of_le a
    | some q =>
      dsimp only
      split
      · exact Nat.le_succ_of_le a
      · rw [List.length_append]; exact Nat.succ_le_succ a
/-- the letters of a row from its end -/
noncomputable def letB (n : Nat) : Str := Txt.slice (Str.ofString "hgfedcba") (some (8 - 2 * (n : Int))) none
theorem letB_len {n : Nat} (hn : n = 3 ∨ n = 4) : (letB n).length = 2 * n := by rcases hn with rfl | rfl <;> decide +kernel
theorem letB_ok {n : Nat} (hn : n = 3 ∨ n = 4) : ∀ i : Nat, i < 2 * n → PyData.strOk (Txt.item (letB n) (i : Int)) = true := by
  rcases hn with rfl | rfl
  · have h : ∀ i : Nat, i < 6 → PyData.strOk (Txt.item (letB 3) (i : Int)) = true := by decide +kernel
    exact fun i hi => h i (by lia)
  · have h : ∀ i : Nat, i < 8 → PyData.strOk (Txt.item (letB 4) (i : Int)) = true := by decide +kernel
    exact fun i hi => h i (by lia)
noncomputable def swapS (x : Str) : Str := Txt.item x 1 ++ Txt.item x 0
noncomputable def metM (n : Nat) (bs : List Bool) : List Str := (plRun (upB bs.reverse) (fun i => Txt.item (letB n) (i : Int)) (2 * n)).met
theorem pair_let : ∀ j : Nat, j < 8 → ∀ k : Nat, k < 8 → PyData.strOk (letL j ++ letL k) = true := by decide +kernel
theorem back_let3 : ∀ j : Nat, j < 6 → ∀ k : Nat, k < 6 → (Txt.item (letB 3) (j : Int) ++ Txt.item (letB 3) (k : Int)).length = 2 ∧ PyData.strOk (Txt.item (letB 3) (j : Int) ++ Txt.item (letB 3) (k : Int)) = true ∧ swapS (Txt.item (letB 3) (j : Int) ++ Txt.item (letB 3) (k : Int)) = pairL (5 - k, 5 - j) := by decide +kernel
theorem back_let4 : ∀ j : Nat, j < 8 → ∀ k : Nat, k < 8 → (Txt.item (letB 4) (j : Int) ++ Txt.item (letB 4) (k : Int)).length = 2 ∧ PyData.strOk (Txt.item (letB 4) (j : Int) ++ Txt.item (letB 4) (k : Int)) = true ∧ swapS (Txt.item (letB 4) (j : Int) ++ Txt.item (letB 4) (k : Int)) = pairL (7 - k, 7 - j) := by decide +kernel
theorem back_let {n : Nat} (hn : n = 3 ∨ n = 4) {q : Nat × Nat} (h : q.1 < 2 * n ∧ q.2 < 2 * n) : (Txt.item (letB n) (q.1 : Int) ++ Txt.item (letB n) (q.2 : Int)).length = 2 ∧ PyData.strOk (Txt.item (letB n) (q.1 : Int) ++ Txt.item (letB n) (q.2 : Int)) = true ∧ swapS (Txt.item (letB n) (q.1 : Int) ++ Txt.item (letB n) (q.2 : Int)) = pairL (2 * n - 1 - q.2, 2 * n - 1 - q.1) := by
  rcases hn with rfl | rfl
  · exact back_let3 q.1 (by lia) q.2 (by lia)
  · exact back_let4 q.1 (by lia) q.2 (by lia)
noncomputable def mirI (n : Nat) (bs : List Bool) : List (Nat × Nat) := (piRun (upB bs.reverse) (2 * n)).met.map fun q => (2 * n - 1 - q.2, 2 * n - 1 - q.1)
noncomputable def pairOk (n : Nat) (bs : List Bool) : Bool := (mirI n bs).isPerm (metB bs (2 * n))
theorem pair_all3 : (balanced 3).all (pairOk 3) = true := by decide +kernel
theorem pair_all4 : (balanced 4).all (pairOk 4) = true := by decide +kernel
theorem strs_pairs {l : List (Nat × Nat)} (h : ∀ q ∈ l, q.1 < 8 ∧ q.2 < 8) : (l.map pairL).all PyData.strOk = true := by
  rw [List.all_map]
  exact List.all_eq_true.mpr fun q hq => pair_let q.1 (h q hq).1 q.2 (h q hq).2
theorem pair_ok {n : Nat} {bs : List Bool} (hn : n = 3 ∨ n = 4) (h1 : bs.length = 2 * n) (h2 : bs.count true = n) :
    (∀ x ∈ metM n bs, x.length = 2 ∧ PyData.strOk x = true) ∧ ((metM n bs).map swapS).Perm (metS (wordOf bs) (2 * n)) ∧ (metS (wordOf bs) (2 * n)).all PyData.strOk = true ∧ (metM n bs).length ≤ 8 := by
  have h : pairOk n bs = true := by
    have hm := mem_balanced h1 h2
    rcases hn with rfl | rfl
    · exact List.all_eq_true.mp pair_all3 bs hm
    · exact List.all_eq_true.mp pair_all4 bs hm
  have hb := (pi_bd (upB bs.reverse) (2 * n)).2
  have e : metM n bs = (piRun (upB bs.reverse) (2 * n)).met.map fun q => Txt.item (letB n) (q.1 : Int) ++ Txt.item (letB n) (q.2 : Int) := by
    unfold metM
    rw [pl_pi]
  rw [met_word bs (2 * n) (by lia), e]
  refine ⟨fun x hx => ?_, ?_, ?_, ?_⟩
  · obtain ⟨q, hq, rfl⟩ := List.mem_map.mp hx
    have := back_let hn (hb q hq)
    exact ⟨this.1, this.2.1⟩
  · rw [List.map_map]
    have e2 : (piRun (upB bs.reverse) (2 * n)).met.map (swapS ∘ fun q => Txt.item (letB n) (q.1 : Int) ++ Txt.item (letB n) (q.2 : Int)) = (mirI n bs).map pairL := by
      unfold mirI
      rw [List.map_map]
      exact List.map_congr_left fun q hq => (back_let hn (hb q hq)).2.2
    rw [e2]
    exact (List.isPerm_iff.mp h).map _
  · refine strs_pairs fun q hq => ?_
    have := metB_bd bs (2 * n) q hq
    lia
  · rw [List.length_map]
    have := pi_len (upB bs.reverse) (2 * n)
    lia
end Mine
end

/- Pn -/
section
open PySem PySem.W PySem.Spec PySem.Calls PyProof.Rows PyProof.V
open PySem.Builtin PySem.Builtin.Str
set_option Elab.async false
set_option maxRecDepth 100000
namespace Mine
theorem reset_Pn {M : PySem.Model} {A : PySem.Around} {Q : PySem.Flow → PySem.Shared → Prop} {E : PySem.Value → PySem.Shared → Prop} {s : PySem.Shared} {env : PySem.Env} (h : Q .next s) : PySem.wpAny M A (PySem.execs [] env) Q E s := by
  w_top off
  first | (walk1; exact h) | exact PySem.wpAny_execs_nil h
theorem occ_stays (s sub : Str) (hi : Nat) : ∀ (l : List Nat) (st : Array Nat × Nat), st.fst.size = 1 → (forIn l st (StrLaws.occBody s sub hi 1)).run.fst = st.fst
  | [], st, _ => rfl
  | a :: l, st, h => by
    rw [List.forIn_cons]
    unfold StrLaws.occBody
    rw [if_neg (fun q => by have := q.1.1.1; lia)]
    exact occ_stays s sub hi l _ h
theorem occ_first (s sub : Str) (hi : Nat) : ∀ (l : List Nat) (free : Nat), (∀ i ∈ l, free ≤ i) →
    (forIn l ((#[] : Array Nat), free) (StrLaws.occBody s sub hi 1)).run.fst.toList = (l.find? fun i => decide (i + sub.length ≤ hi) && subAt s sub i).toList
  | [], _, _ => rfl
  | a :: l, free, hf => by
    rw [List.forIn_cons]
    by_cases hc : a + sub.length ≤ hi ∧ subAt s sub a = true
    · have e : (decide (a + sub.length ≤ hi) && subAt s sub a) = true := by rw [decide_eq_true hc.1, hc.2]; rfl
      rw [List.find?_cons_of_pos (p := fun i => decide (i + sub.length ≤ hi) && subAt s sub i) e]
      have st := occ_stays s sub hi l ((#[] : Array Nat).push a, a + sub.length) rfl
      unfold StrLaws.occBody at st ⊢
      rw [if_pos ⟨⟨⟨by simp, hf a (List.mem_cons_self ..)⟩, hc.1⟩, hc.2⟩]
      exact congrArg Array.toList st
    · have e : ¬ (decide (a + sub.length ≤ hi) && subAt s sub a) = true := by
        intro q
        rw [Bool.and_eq_true, decide_eq_true_iff] at q
        exact hc q
      rw [List.find?_cons_of_neg (p := fun i => decide (i + sub.length ≤ hi) && subAt s sub i) e]
      have ih := occ_first s sub hi l free (fun i hi' => hf i (List.mem_cons_of_mem _ hi'))
      unfold StrLaws.occBody at ih ⊢
      rw [if_neg (fun q => hc ⟨q.1.2, q.2⟩)]
      exact ih
/-- the first place of a sign, from a place on -/
noncomputable def firstN (xs : List Nat) (c s : Nat) : Option Nat := (List.range' s (xs.length - s)).find? fun i => xs[i]? == some c
theorem firstN_none {xs : List Nat} {c s : Nat} (h : xs.length ≤ s) : firstN xs c s = none := by
  unfold firstN
  rw [show xs.length - s = 0 by lia]; rfl
theorem firstN_step {xs : List Nat} {c s : Nat} (h : s < xs.length) : firstN xs c s = if xs[s]? = some c then some s else firstN xs c (s + 1) := by
  unfold firstN
  rw [show xs.length - s = (xs.length - (s + 1)) + 1 by lia, List.range'_succ, List.find?_cons]
  by_cases e : xs[s]? = some c
  · rw [if_pos e, e]; simp
  · rw [if_neg e, show (xs[s]? == some c) = false from beq_eq_false_iff_ne.mpr e]
theorem sub_first (c : Nat) (cs xs : List Nat) : ∀ m s, xs.length - s = m → (c :: cs).isSublist (xs.drop s) = match firstN xs c s with | none => false | some k => cs.isSublist (xs.drop (k + 1))
  | 0, s, h => by
    rw [firstN_none (by lia), List.drop_eq_nil_of_le (by lia)]; rfl
  | m + 1, s, h => by
    have hs : s < xs.length := by lia
    rw [firstN_step hs, List.drop_eq_getElem_cons hs, List.getElem?_eq_getElem hs, List.isSublist]
    by_cases e : xs[s] = c
    · rw [if_pos (beq_iff_eq.mpr e.symm), if_pos (by rw [e])]
    · rw [if_neg (fun q => e (Option.some.inj q)), if_neg (fun q => e (eq_of_beq q).symm)]
      exact sub_first c cs xs m (s + 1) (by lia)
theorem find4_first {x : Str} {c s : Nat} (hl : 0 < x.length) (hlast : x.cps.toList[x.length - 1]? ≠ some c) (hs : s ≤ x.length) :
    find4 x ⟨#[c]⟩ (s : Int) ((x.length : Int) - 1) = match firstN x.cps.toList c s with | none => -1 | some k => (k : Int) := by
  have e1 : fromIndex x.length (s : Int) = s := by unfold fromIndex; split <;> lia
  have e2 : min (fromIndex x.length ((x.length : Int) - 1)) x.length = x.length - 1 := by
    have : fromIndex x.length ((x.length : Int) - 1) = x.length - 1 := by unfold fromIndex; split <;> lia
    lia
  unfold find4
  rw [e1, e2, StrLaws.occ_eq, occ_first _ _ _ _ _ (fun i hi => by obtain ⟨k, hk, rfl⟩ := List.mem_range'.mp hi; lia)]
  have el : x.cps.toList.length = x.length := by simp [Str.length]
  have e3 : (List.range' s (x.length - 1 + 1 - s)).find? (fun i => decide (i + (⟨#[c]⟩ : Str).length ≤ x.length - 1) && subAt x ⟨#[c]⟩ i) = firstN x.cps.toList c s := by
    unfold firstN
    rw [el, show x.length - 1 + 1 - s = x.length - s by lia]
    have key : ∀ (l : List Nat) (p q : Nat → Bool), (∀ i ∈ l, p i = q i) → l.find? p = l.find? q := by
      intro l p q
      induction l with
      | nil => intro _; rfl
      | cons a l ih =>
        intro h
        rw [List.find?_cons, List.find?_cons, h a (.head _), ih fun i hi => h i (.tail _ hi)]
    refine key _ _ _ fun i hi => ?_
    have hb : i < x.length := by
      obtain ⟨k, hk, rfl⟩ := List.mem_range'.mp hi
      lia
    have hw : (⟨#[c]⟩ : Str).length = 1 := rfl
    rw [hw, Bool.eq_iff_iff, Bool.and_eq_true, decide_eq_true_iff, beq_iff_eq, ← StrLaws.subAt_one x c i, hw]
    constructor
    · exact fun q => ⟨by lia, q.2⟩
    · intro q
      refine ⟨?_, q.2⟩
      rcases Nat.lt_or_ge (i + 1) x.length with z | z
      · lia
      · exfalso
        have : i = x.length - 1 := by lia
        exact hlast (this ▸ (StrLaws.subAt_one x c i).mp ⟨by rw [hw]; lia, q.2⟩)
  rw [e3]
  cases firstN x.cps.toList c s <;> rfl
theorem firstN_lt {xs : List Nat} {c s k : Nat} (h : firstN xs c s = some k) : k < xs.length := by
  obtain ⟨j, hj, e⟩ := List.mem_range'.mp (List.mem_of_find?_eq_some h)
  lia
theorem ell_sub {x : Str} (hl : 0 < x.length) : ∀ (cs : List Nat) (s : Nat), s ≤ x.length → (∀ c ∈ cs, x.cps.toList[x.length - 1]? ≠ some c) →
    (ellRun x ((x.length : Int) - 1) (cs.map fun c => (⟨#[c]⟩ : Str)) (s : Int)).isSome = cs.isSublist (x.cps.toList.drop s)
  | [], s, _, _ => by cases x.cps.toList.drop s <;> rfl
  | c :: cs, s, hs, hc => by
    have el : x.cps.toList.length = x.length := by simp [Str.length]
    rw [List.map_cons, ellRun, find4_first hl (hc c (.head _)) hs, sub_first c cs x.cps.toList _ s rfl]
    cases h : firstN x.cps.toList c s with
    | none => rfl
    | some k =>
      have hk := firstN_lt h
      dsimp only
      rw [if_neg (by lia), show ((k : Int) + ((⟨#[c]⟩ : Str).length : Nat)) = ((k + 1 : Nat) : Int) from rfl]
      exact ell_sub hl cs (k + 1) (by lia) fun c' h' => hc c' (.tail _ h')
noncomputable def sgn (u : Bool) : Nat := if u then 108 else 103
theorem sub_nil (cs : List Nat) (a : Nat) (xs : List Nat) (h : a ∉ cs) : cs.isSublist (a :: xs) = cs.isSublist xs := by
  cases cs with
  | nil => cases xs <;> rfl
  | cons c cs =>
    rw [List.isSublist, if_neg (fun e => h (by rw [(eq_of_beq e : c = a)]; exact .head _))]
theorem sgn_not (l : List Bool) (a : Nat) (h1 : a ≠ 108) (h2 : a ≠ 103) : a ∉ l.map sgn := by
  intro h
  obtain ⟨u, _, e⟩ := List.mem_map.mp h
  cases u <;> simp [sgn] at e <;> lia
theorem sub_marks : ∀ (r l : List Bool), (l.map sgn).isSublist (r.flatMap fun b => if b then [38, 108, 116, 59] else [38, 103, 116, 59]) = l.isSublist r
  | [], [] => rfl
  | [], _ :: _ => rfl
  | u :: r, [] => by
    rw [List.flatMap_cons]; cases u <;> rfl
  | u :: r, v :: l => by
    have ih1 := sub_marks r l
    have ih2 := sub_marks r (v :: l)
    rw [List.flatMap_cons, List.isSublist]
    cases u
    · rw [if_neg (by decide)]
      show ((v :: l).map sgn).isSublist (38 :: 103 :: 116 :: 59 :: (r.flatMap fun b => if b then [38, 108, 116, 59] else [38, 103, 116, 59])) = _
      rw [sub_nil _ _ _ (sgn_not (v :: l) 38 (by decide) (by decide))]
      cases v
      · show List.isSublist (103 :: l.map sgn) (103 :: _) = _
        rw [List.isSublist, if_pos (by decide), if_pos (by decide), sub_nil _ _ _ (sgn_not l 116 (by decide) (by decide)), sub_nil _ _ _ (sgn_not l 59 (by decide) (by decide)), ih1]
      · show List.isSublist (108 :: l.map sgn) (103 :: _) = _
        rw [List.isSublist, if_neg (by decide), if_neg (by decide)]
        show List.isSublist ((true :: l).map sgn) _ = _
        rw [sub_nil _ _ _ (sgn_not (true :: l) 116 (by decide) (by decide)), sub_nil _ _ _ (sgn_not (true :: l) 59 (by decide) (by decide)), ih2]
    · rw [if_pos rfl]
      show ((v :: l).map sgn).isSublist (38 :: 108 :: 116 :: 59 :: (r.flatMap fun b => if b then [38, 108, 116, 59] else [38, 103, 116, 59])) = _
      rw [sub_nil _ _ _ (sgn_not (v :: l) 38 (by decide) (by decide))]
      cases v
      · show List.isSublist (103 :: l.map sgn) (108 :: _) = _
        rw [List.isSublist, if_neg (by decide), if_neg (by decide)]
        show List.isSublist ((false :: l).map sgn) _ = _
        rw [sub_nil _ _ _ (sgn_not (false :: l) 116 (by decide) (by decide)), sub_nil _ _ _ (sgn_not (false :: l) 59 (by decide) (by decide)), ih2]
      · show List.isSublist (108 :: l.map sgn) (108 :: _) = _
        rw [List.isSublist, if_pos (by decide), if_pos (by decide), sub_nil _ _ _ (sgn_not l 116 (by decide) (by decide)), sub_nil _ _ _ (sgn_not l 59 (by decide) (by decide)), ih1]
noncomputable def midB (n i : Nat) : List Bool := List.replicate i true ++ List.replicate (n + 1 - i) false
noncomputable def midOf (n i : Nat) : List Str := List.replicate i (Str.ofString "l") ++ List.replicate (n + 1 - i) (Str.ofString "g")
theorem mid_sgn (n i : Nat) : midOf n i = ((midB n i).map sgn).map fun c => (⟨#[c]⟩ : Str) := by
  have el : Str.ofString "l" = ⟨#[108]⟩ := by decide +kernel
  have eg : Str.ofString "g" = ⟨#[103]⟩ := by decide +kernel
  unfold midOf midB
  rw [el, eg, List.map_append, List.map_append, List.map_replicate, List.map_replicate, List.map_replicate, List.map_replicate]
  rfl
theorem ascii_row (r : List Bool) : (ascii (rowOf r)).cps.toList = (rowL r).map (·.toNat) := rfl
theorem row_last {r : List Bool} (h : 0 < r.length) : ((rowL r).map (·.toNat))[4 * r.length - 1]? = some 59 := by
  induction r with
  | nil => cases h
  | cons b r ih =>
    rw [rowL, List.map_append]
    cases r with
    | nil => cases b <;> rfl
    | cons b' r' =>
      have := ih (by simp)
      rw [List.getElem?_append_right (by rw [List.length_map, pc_len]; simp; lia), List.length_map, pc_len]
      rw [← this]
      congr 1
/-- the words that are found, at the marks -/
theorem ell_row {n i : Nat} {r : List Bool} (h0 : 0 < r.length) (hr : r.length = 2 * n) : (ellRun (ascii (rowOf r)) (8 * n - 1) (midOf n i) 1).isSome = (midB n i).isSublist r := by
  have hl : (ascii (rowOf r)).length = 8 * n := by
    show (ascii (rowOf r)).cps.size = _
    rw [← Array.length_toList, ascii_row, List.length_map, rowL_len]; lia
  have key := ell_sub (x := ascii (rowOf r)) (by lia) ((midB n i).map sgn) 1 (by lia) (fun c hc => by
    rw [hl, ascii_row, show 8 * n - 1 = 4 * r.length - 1 by lia, row_last h0]
    intro e
    exact sgn_not (midB n i) 59 (by decide) (by decide) ((Option.some.inj e) ▸ hc))
  rw [← mid_sgn, hl, ascii_row, rowL_map] at key
  have e1 : (((8 * n : Nat) : Int) - 1) = 8 * (n : Int) - 1 := by lia
  rw [e1] at key
  refine key.trans ?_
  rw [← sub_marks r (midB n i)]
  cases r with
  | nil => cases h0
  | cons b r =>
    rw [List.flatMap_cons]
    cases b <;> exact (sub_nil _ 38 _ (sgn_not _ 38 (by decide) (by decide))).symm
end Mine
end

/- Po -/
section
open PySem PySem.W PySem.Spec PySem.Calls PyProof.Rows PyProof.V
set_option Elab.async false
set_option maxRecDepth 100000
namespace Mine
theorem reset_Po {M : PySem.Model} {A : PySem.Around} {Q : PySem.Flow → PySem.Shared → Prop} {E : PySem.Value → PySem.Shared → Prop} {s : PySem.Shared} {env : PySem.Env} (h : Q .next s) : PySem.wpAny M A (PySem.execs [] env) Q E s := by
  w_top off
  first | (walk1; exact h) | exact PySem.wpAny_execs_nil h
noncomputable def plA (n : Nat) (r : List Bool) : PL := plRun (upB r) (fun i => Txt.item (Str.ofString "abcdefgh") (i : Int)) (2 * n)
noncomputable def begB (n : Nat) (r : List Bool) : List Int := begs (upB r) (2 * n)
noncomputable def negs (n : Nat) (r : List Bool) : List Int := (begB n r).filter fun h => decide (h < 0)
noncomputable def fallN (n : Nat) (bs : List Bool) : Nat := (negs n bs).length
noncomputable def it1 (n : Nat) (bs : List Bool) : Nat → List Bool
  | 0 => bs
  | t + 1 => turnB (it1 n bs t) ((plA n (it1 n bs t)).home.toNat / 4)
structure L2 where
  row : List Bool
  marks : List Int
  taken : List Int
noncomputable def step2 (n : Nat) (c : L2) : L2 :=
  if (plA n c.row).rise < 0 then c else
    ⟨turnB c.row ((plA n c.row).rise.toNat / 4), c.marks.drop ((plA n c.row).rise.toNat / 4 + 1) ++ [c.marks.getD ((plA n c.row).rise.toNat / 4) 0] ++ c.marks.take ((plA n c.row).rise.toNat / 4), c.taken ++ [c.marks.getD ((plA n c.row).rise.toNat / 4) 0]⟩
noncomputable def it2 (n : Nat) (bs : List Bool) : Nat → L2
  | 0 => ⟨it1 n bs (fallN n bs), nums (upB (it1 n bs (fallN n bs))) (2 * n), []⟩
  | t + 1 => step2 n (it2 n bs t)
noncomputable def told (n : Nat) (r : List Bool) : List Bool := (List.range n).map fun i => (ellRun (ascii (rowOf r)) (8 * n - 1) (midOf n (i + 1)) 1).isSome
noncomputable def dueL (n : Nat) (ds : List Int) : List Int := (List.range n).flatMap fun (d : Nat) => ((List.range n).reverse.filter fun (i : Nat) => decide (ds.getD i 0 = (d : Int))).map fun i : Nat => (i : Int)
/-- of a single row -/
noncomputable def rowOkB (n : Nat) (r : List Bool) : Bool :=
  ((List.range n).map (fun i => (midB n (i + 1)).isSublist r) == (begB n r).map fun h => decide (0 ≤ h)) && (begB n r).length == n &&
  (decide ((piRun (upB r) (2 * n)).home < 0) || ((piRun (upB r) (2 * n)).home == 4 * (((piRun (upB r) (2 * n)).home.toNat / 4 : Nat) : Int) && decide ((piRun (upB r) (2 * n)).home.toNat / 4 < 2 * n))) &&
  (decide ((piRun (upB r) (2 * n)).rise < 0) || ((piRun (upB r) (2 * n)).rise == 4 * (((piRun (upB r) (2 * n)).rise.toNat / 4 : Nat) : Int) && decide ((piRun (upB r) (2 * n)).rise.toNat / 4 < 2 * n))) &&
  Txt.startswith (ascii (rowOf r)) (Str.ofString "&") && Txt.endswith (ascii (rowOf r)) (Str.ofString ";")
theorem row_all3 : (balanced 3).all (rowOkB 3) = true := by decide +kernel
theorem row_all4 : (balanced 4).all (rowOkB 4) = true := by decide +kernel
noncomputable def rowOk (n : Nat) (r : List Bool) : Bool := rowOkB n r && decide (n = 3 ∨ n = 4) && decide (r.length = 2 * n)
theorem plA_eq (n : Nat) (r : List Bool) : plA n r = ⟨(piRun (upB r) (2 * n)).stk, (piRun (upB r) (2 * n)).home, (piRun (upB r) (2 * n)).rise, (piRun (upB r) (2 * n)).met.map pairL⟩ := by
  unfold plA
  rw [pl_pi]
  rfl
/-- of a word -/
noncomputable def lawOk1 (n : Nat) (bs : List Bool) : Bool :=
  (List.range (fallN n bs)).all (fun t => decide (0 ≤ (plA n (it1 n bs t)).home)) && (negs n (it1 n bs (fallN n bs)) == []) && decide ((plA n (it1 n bs (fallN n bs))).home < 0)
noncomputable def lawOk2 (n : Nat) (bs : List Bool) : Bool :=
  (List.range (n + 1)).all (fun t => (negs n (it2 n bs t).row).length == t && (t != fallN n bs || ((it2 n bs t).row == bs && (piRun (upB (it2 n bs t).row) (2 * n)).met == metB bs (2 * n))) && (decide ((plA n (it2 n bs t).row).rise < 0) == decide (t = n))) &&
  ((it2 n bs (n + 1)).taken == dueL n (begB n (it1 n bs (fallN n bs))))
theorem law1_all3 : (balanced 3).all (lawOk1 3) = true := by decide +kernel
theorem law1_all4 : (balanced 4).all (lawOk1 4) = true := by decide +kernel
theorem law2_all3 : (balanced 3).all (lawOk2 3) = true := by decide +kernel
theorem law2_all4 : (balanced 4).all (lawOk2 4) = true := by decide +kernel
theorem row_okB {n : Nat} {r : List Bool} (hn : n = 3 ∨ n = 4) (h1 : r.length = 2 * n) (h2 : r.count true = n) : rowOkB n r = true := by
  have hm := mem_balanced h1 h2
  rcases hn with rfl | rfl
  · exact List.all_eq_true.mp row_all3 r hm
  · exact List.all_eq_true.mp row_all4 r hm
theorem row_ok {n : Nat} {r : List Bool} (hn : n = 3 ∨ n = 4) (h1 : r.length = 2 * n) (h2 : r.count true = n) : rowOk n r = true := by
  unfold rowOk
  rw [row_okB hn h1 h2, decide_eq_true hn, decide_eq_true h1]; rfl
theorem row_split {n : Nat} {r : List Bool} (h : rowOk n r = true) : rowOkB n r = true ∧ (n = 3 ∨ n = 4) ∧ r.length = 2 * n := by
  simp only [rowOk, Bool.and_eq_true, decide_eq_true_iff] at h
  exact ⟨h.1.1, h.1.2, h.2⟩
theorem row_told {n : Nat} {r : List Bool} (h : rowOk n r = true) : told n r = (begB n r).map fun h => decide (0 ≤ h) := by
  obtain ⟨h, hn, hr⟩ := row_split h
  simp only [rowOkB, Bool.and_eq_true, beq_iff_eq] at h
  rw [← h.1.1.1.1.1]
  unfold told
  exact List.map_congr_left fun i _ => ell_row (by lia) hr
theorem row_beg {n : Nat} {r : List Bool} (h : rowOk n r = true) : (begB n r).length = n := by
  have h := (row_split h).1
  simp only [rowOkB, Bool.and_eq_true, beq_iff_eq] at h; exact h.1.1.1.1.2
theorem row_home {n : Nat} {r : List Bool} (h : rowOk n r = true) (h0 : 0 ≤ (plA n r).home) : (plA n r).home = 4 * (((plA n r).home.toNat / 4 : Nat) : Int) ∧ (plA n r).home.toNat / 4 < 2 * n := by
  have h := (row_split h).1
  simp only [rowOkB, Bool.and_eq_true, Bool.or_eq_true, beq_iff_eq, decide_eq_true_iff] at h
  rw [plA_eq] at h0 ⊢
  dsimp only at h0 ⊢
  rcases h.1.1.1.2 with q | q
  · lia
  · exact q
theorem row_rise {n : Nat} {r : List Bool} (h : rowOk n r = true) (h0 : 0 ≤ (plA n r).rise) : (plA n r).rise = 4 * (((plA n r).rise.toNat / 4 : Nat) : Int) ∧ (plA n r).rise.toNat / 4 < 2 * n := by
  have h := (row_split h).1
  simp only [rowOkB, Bool.and_eq_true, Bool.or_eq_true, beq_iff_eq, decide_eq_true_iff] at h
  rw [plA_eq] at h0 ⊢
  dsimp only at h0 ⊢
  rcases h.1.1.2 with q | q
  · lia
  · exact q
theorem row_start {n : Nat} {r : List Bool} (h : rowOk n r = true) : Txt.startswith (ascii (rowOf r)) (Str.ofString "&") = true := by
  have h := (row_split h).1
  simp only [rowOkB, Bool.and_eq_true] at h; exact h.1.2
theorem row_end {n : Nat} {r : List Bool} (h : rowOk n r = true) : Txt.endswith (ascii (rowOf r)) (Str.ofString ";") = true := by
  have h := (row_split h).1
  simp only [rowOkB, Bool.and_eq_true] at h; exact h.2
theorem row_met {n : Nat} {r : List Bool} (h : rowOk n r = true) : (plA n r).met.all PyData.strOk = true ∧ (plA n r).met.length ≤ 8 := by
  obtain ⟨_, hn, _⟩ := row_split h
  rw [plA_eq]
  refine ⟨strs_pairs fun q hq => ?_, ?_⟩
  · have := (pi_bd (upB r) (2 * n)).2 q hq
    lia
  · show ((piRun (upB r) (2 * n)).met.map pairL).length ≤ 8
    rw [List.length_map]
    have := pi_len (upB r) (2 * n)
    lia
theorem law_ok1 {n : Nat} {bs : List Bool} (hn : n = 3 ∨ n = 4) (h1 : bs.length = 2 * n) (h2 : bs.count true = n) :
    (∀ t, t < fallN n bs → 0 ≤ (plA n (it1 n bs t)).home) ∧ negs n (it1 n bs (fallN n bs)) = [] ∧ (plA n (it1 n bs (fallN n bs))).home < 0 := by
  have h : lawOk1 n bs = true := by
    have hm := mem_balanced h1 h2
    rcases hn with rfl | rfl
    · exact List.all_eq_true.mp law1_all3 bs hm
    · exact List.all_eq_true.mp law1_all4 bs hm
  simp only [lawOk1, Bool.and_eq_true, beq_iff_eq, decide_eq_true_iff, List.all_eq_true, List.mem_range] at h
  exact ⟨h.1.1, h.1.2, h.2⟩
theorem law_ok2 {n : Nat} {bs : List Bool} (hn : n = 3 ∨ n = 4) (h1 : bs.length = 2 * n) (h2 : bs.count true = n) :
    (∀ t, t < n + 1 → (negs n (it2 n bs t).row).length = t ∧ (t = fallN n bs → (it2 n bs t).row = bs ∧ (plA n (it2 n bs t).row).met = metS (wordOf bs) (2 * n)) ∧ ((plA n (it2 n bs t).row).rise < 0 ↔ t = n)) ∧
    (it2 n bs (n + 1)).taken = dueL n (begB n (it1 n bs (fallN n bs))) := by
  have h : lawOk2 n bs = true := by
    have hm := mem_balanced h1 h2
    rcases hn with rfl | rfl
    · exact List.all_eq_true.mp law2_all3 bs hm
    · exact List.all_eq_true.mp law2_all4 bs hm
  simp only [lawOk2, Bool.and_eq_true, beq_iff_eq, decide_eq_true_iff, List.all_eq_true, List.mem_range, Bool.or_eq_true, bne_iff_ne, decide_eq_decide] at h
  refine ⟨fun t ht => ?_, h.2⟩
  obtain ⟨⟨a, b⟩, c⟩ := h.1 t ht
  refine ⟨a, fun e => ?_, c⟩
  rcases b with b | b
  · exact absurd e b
  · refine ⟨b.1, ?_⟩
    rw [plA_eq, met_word bs (2 * n) (by lia), ← b.2]
theorem it1_mem {n : Nat} {bs : List Bool} (hn : n = 3 ∨ n = 4) (h1 : bs.length = 2 * n) (h2 : bs.count true = n) : ∀ t, t ≤ fallN n bs → (it1 n bs t).length = 2 * n ∧ (it1 n bs t).count true = n
  | 0, _ => ⟨h1, h2⟩
  | t + 1, h => by
    obtain ⟨a, b⟩ := it1_mem hn h1 h2 t (by lia)
    have hr := row_home (row_ok hn a b) ((law_ok1 hn h1 h2).1 t (by lia))
    exact ⟨(turnB_len (by lia)).trans a, (turnB_count (by lia)).trans b⟩
theorem it2_mem {n : Nat} {bs : List Bool} (hn : n = 3 ∨ n = 4) (h1 : bs.length = 2 * n) (h2 : bs.count true = n) : ∀ t, ((it2 n bs t).row).length = 2 * n ∧ ((it2 n bs t).row).count true = n
  | 0 => it1_mem hn h1 h2 _ (Nat.le_refl _)
  | t + 1 => by
    obtain ⟨a, b⟩ := it2_mem hn h1 h2 t
    simp only [it2, step2]
    split
    · exact ⟨a, b⟩
    · have hr := row_rise (row_ok hn a b) (by lia)
      exact ⟨(turnB_len (by lia)).trans a, (turnB_count (by lia)).trans b⟩
theorem nums_len (up : Nat → Bool) : ∀ n, (nums up n).length = n
  | 0 => rfl
  | n + 1 => by rw [nums, List.length_append, nums_len up n]; rfl
theorem it2_marks {n : Nat} {bs : List Bool} (hn : n = 3 ∨ n = 4) (h1 : bs.length = 2 * n) (h2 : bs.count true = n) : ∀ t, ((it2 n bs t).marks).length = 2 * n
  | 0 => nums_len _ _
  | t + 1 => by
    have a := it2_marks hn h1 h2 t
    obtain ⟨r1, r2⟩ := it2_mem hn h1 h2 t
    simp only [it2, step2]
    split
    · exact a
    · have hr := row_rise (row_ok hn r1 r2) (by lia)
      simp only [List.length_append, List.length_drop, List.length_take, List.length_cons, List.length_nil, a]
      lia
end Mine
end

/- L1 -/
section
open PySem PySem.W PySem.Spec PySem.Calls PyProof.Rows PyProof.V
set_option Elab.async false
set_option maxRecDepth 100000
namespace Mine
theorem reset_L1 {M : PySem.Model} {A : PySem.Around} {Q : PySem.Flow → PySem.Shared → Prop} {E : PySem.Value → PySem.Shared → Prop} {s : PySem.Shared} {env : PySem.Env} (h : Q .next s) : PySem.wpAny M A (PySem.execs [] env) Q E s := by
  w_top off
  first | (walk1; exact h) | exact PySem.wpAny_execs_nil h
set_option maxHeartbeats 8000000
local macro_rules | `(tactic| walk_at $k:str) => if (["call ref", "call builtin:str.encode", "CompSrc", "CompSrcT", "subscriptTail Name Slice ref ref", "binaryOp Add ref ref", "call builtin:sorted", "compareOp NotEq ref ref", "eval ListComp", "pyIter ref"] : List String).contains k.getString then `(tactic| walk_at "mine stop") else Lean.Macro.throwUnsupported
local macro_rules | `(tactic| walk_at "call builtin:len") => `(tactic| walk_at "mine len")
local macro_rules | `(tactic| walk_at "call type:range") => `(tactic| (k_here; (with_reducible show wpAny _ _ (call (Value.type "range") [Value.int 1 _, Value.int _ _]) _ _ _); (rename Fr _ _ _ _ => F'); (rename News _ _ _ _ => N'); (with_unfolding_all refine range2_rows F' N' ?_; intro _ _ _ _ _ _ _ _ _)))
local macro_rules | `(tactic| walk_at "subscriptTail") => `(tactic| (k_here; (with_reducible show wpAny _ _ (subscriptTail _ _ (Value.str _ _) (Value.int _ _)) _ _ _); refine Stop.out ?_))
local macro_rules | `(tactic| walk_at "call builtin:len") => `(tactic| (k_here; (with_reducible show wpAny _ _ (call (Value.builtin "len") [Value.ref _]) _ _ _); refine Stop.out ?_))
set_option hygiene false in
local macro_rules | `(tactic| k_ne) => `(tactic| (refine neN ?_; (try dsimp only); first | assumption | exact Ne.symm (by assumption) | (simp only [off', ne_eq, not_false_eq_true]; done) | lia))
local macro_rules | `(tactic| walk_at "InvEndN") => `(tactic| refine Stop.out ?_)
local macro_rules | `(tactic| walk_at "FrameRest") => `(tactic| walk_at "mine frame")
theorem cutQ {prog : Program} {w : World} {A : Around} {s : Shared} {env : Env} {Q : Flow → Shared → Prop} {st : Stmt} {rest : List Stmt} (P : Shared → Prop) (h1 : ∀ qk : Flow → Shared → Prop, (∀ s', P s' → qk .next s') → wpG (model prog w) A (exec st env) qk s) (h2 : ∀ s', P s' → wpG (model prog w) A (execs rest env) Q s') : wpG (model prog w) A (execs (st :: rest) env) Q s :=
  cutG P (h1 _ fun _ h => ⟨rfl, h⟩) h2
theorem nameList {h : Heap} {l : Addr} {vs : List Value} (_ : h.IsList l vs.toArray) : ∃ l' vs', l' = l ∧ vs' = vs := ⟨l, vs, rfl, rfl⟩
theorem begs_len (up : Nat → Bool) : ∀ n, (begs up n).length ≤ n
  | 0 => Nat.le_refl _
  | n + 1 => by
    have := begs_len up n
    unfold begs
    split
    · rw [List.length_append]; simp only [List.length_cons, List.length_nil]; lia
    · lia
theorem fold_neg (l : List Int) : l.foldl (fun l k => if k < 0 then l ++ [k] else l) [] = l.filter fun h => decide (h < 0) := by
  have key : ∀ (l acc : List Int), l.foldl (fun l k => if k < 0 then l ++ [k] else l) acc = acc ++ l.filter fun h => decide (h < 0) := by
    intro l
    induction l with
    | nil => intro acc; simp
    | cons a l ih =>
      intro acc
      rw [List.foldl_cons, ih, List.filter_cons]
      by_cases h : a < 0
      · simp [h]
      · simp [h]
  have := key l []
  rwa [List.nil_append] at this
theorem fall_le (n : Nat) (bs : List Bool) : fallN n bs ≤ 2 * n := Nat.le_trans (List.length_filter_le ..) (begs_len _ _)
theorem letA_ok {n : Nat} (hn : n ≤ 8) : ∀ i : Nat, i < n → PyData.strOk (Txt.item (Str.ofString "abcdefgh") (i : Int)) = true := by
  have h : ∀ i : Nat, i < 8 → PyData.strOk (Txt.item (Str.ofString "abcdefgh") (i : Int)) = true := by decide +kernel
  exact fun i hi => h i (by lia)
theorem due_eq (n : Nat) (BL : List Int) : ((List.range n).flatMap fun (i : Nat) => ((List.range n).filter fun (j : Nat) => decide (BL.getD (n - 1 - j) 0 = (i : Int))).map fun j : Nat => ((n : Int) - 1) + (j : Int) * (-1)) = dueL n BL := by
  unfold dueL
  congr 1
  funext d
  rw [← krv_range n, List.filter_map, List.map_map]
  have e : ((List.range n).filter ((fun i : Nat => decide (BL.getD i 0 = (d : Int))) ∘ fun k => n - 1 - k)) = (List.range n).filter fun j => decide (BL.getD (n - 1 - j) 0 = (d : Int)) := rfl
  rw [e]
  refine List.map_congr_left fun j hj => ?_
  have hj' := List.mem_range.mp (List.mem_filter.mp hj).1
  show (n : Int) - 1 + (j : Int) * (-1) = ((n - 1 - j : Nat) : Int)
  lia
theorem good_true {c : ClaimW} {cl : Str → Option Addr} {mean : ExcName → Option Value} {args : List WData} {s₁ s' : Shared} (hn : ∀ cls, c.raises args cls = false) (hp : c.post args (.bool true) args = true)
    (hk : ∀ b o, s₁.heap.get? b = some o → s'.heap.get? b = some o) (hos : s'.os = s₁.os) (hg : s'.gens = #[]) : GoodWG c cl mean args s₁ (.ok (.ret (.bool true))) s' :=
  GoodW.toG ⟨.inl ⟨.bool true, .bool true, [], rfl, hn, .bool true, hp, unshared_nil⟩, hk, hos, hg⟩
/-- a fact that lia shall not see -/
noncomputable def Hide (p : Prop) : Prop := p
structure S2 where
  ma : Addr
  um : List Value
  cm : Nat
  ta : Addr
  uts : List Value
  ct : Nat
  tr : Tok
  c : L2
noncomputable abbrev led2 (led : List (Addr × Obj)) (c : S2) : List (Addr × Obj) := (c.ma, W.listOf c.um.toArray c.cm) :: (c.ta, W.listOf c.uts.toArray c.ct) :: led
noncomputable abbrev ps2 (ps : List (Str × Value)) (c : S2) : List (Str × Value) := (Str.ofString "row", Value.bytes (rowOf c.c.row) c.tr) :: (Str.ofString "marks", Value.ref c.ma) :: (Str.ofString "taken", Value.ref c.ta) :: ps
structure TEnt where
  T : Addr
  b : Bool
noncomputable abbrev TEnt.cell (e : TEnt) : Addr × Obj := (e.T, { cls := .type "tuple", data := .seq #[.bool (e.b == true), .bool (e.b == false)] })
theorem ints_at : ∀ {us : List Value} {ns : List Int} {j : Nat} {v : Value}, IntsAre us ns → us[j]? = some v → ∃ x t, v = .int x t ∧ ns[j]? = some x
  | _, _, 0, _, .cons x t _, h => ⟨x, t, (Option.some.inj h).symm, rfl⟩
  | _, _, j + 1, _, .cons x t r, h => ints_at (j := j) r h
theorem off3_of {I C D : Addr} : ∀ {l : List (Addr × Obj)}, (∀ p ∈ l, p.1 ≠ I ∧ p.1 ≠ C ∧ p.1 ≠ D) → LCg.Off3 I C D l
  | [], _ => trivial
  | p :: _, h => ⟨h p (.head _), off3_of fun q hq => h q (.tail _ hq)⟩
theorem nameNews {h₀ h : Heap} {L : Addr} {l : List (Addr × Obj)} (_N : News h₀ L h l) : ∃ l', l' = l := ⟨l, rfl⟩
structure TSt where
  ents : List TEnt
  cnt : Nat
noncomputable abbrev TLed (H : Addr) (news : List (Addr × Obj)) (c : TSt) : List (Addr × Obj) := (H, W.listOf (c.ents.map fun e => Value.ref e.T).toArray c.cnt) :: (news ++ c.ents.map TEnt.cell)
noncomputable def wantOf (n i : Nat) : Str := Str.ofString "&" ++ Txt.mul (Str.ofString "...l") (1 + (i : Int) * 1) ++ Txt.mul (Str.ofString "...g") ((n : Int) + 1 - (1 + (i : Int) * 1)) ++ Str.ofString "...;"
theorem want_ok {n i : Nat} (hn : n = 3 ∨ n = 4) (hi : i < n) : hasS (wantOf n i) (Str.ofString "...") = true ∧ (wantOf n i).length ≤ 100 ∧ Txt.split (wantOf n i) (Str.ofString "...") = Str.ofString "&" :: (midOf n (i + 1) ++ [Str.ofString ";"]) ∧ (midOf n (i + 1)).length ≤ 20 ∧ ∀ x ∈ midOf n (i + 1), x.length = 1 := by
  have h3 : ∀ i, i < 3 → hasS (wantOf 3 i) (Str.ofString "...") = true ∧ (wantOf 3 i).length ≤ 100 ∧ Txt.split (wantOf 3 i) (Str.ofString "...") = Str.ofString "&" :: (midOf 3 (i + 1) ++ [Str.ofString ";"]) ∧ (midOf 3 (i + 1)).length ≤ 20 ∧ ∀ x ∈ midOf 3 (i + 1), x.length = 1 := by decide +kernel
  have h4 : ∀ i, i < 4 → hasS (wantOf 4 i) (Str.ofString "...") = true ∧ (wantOf 4 i).length ≤ 100 ∧ Txt.split (wantOf 4 i) (Str.ofString "...") = Str.ofString "&" :: (midOf 4 (i + 1) ++ [Str.ofString ";"]) ∧ (midOf 4 (i + 1)).length ≤ 20 ∧ ∀ x ∈ midOf 4 (i + 1), x.length = 1 := by decide +kernel
  rcases hn with rfl | rfl
  · exact h3 i hi
  · exact h4 i hi
theorem fdiv4 (k : Nat) : (4 * (k : Int)).fdiv 4 = (k : Int) := by
  rw [Int.fdiv_eq_ediv_of_nonneg _ (by decide)]; lia
theorem it2_taken (n : Nat) (bs : List Bool) : ∀ t, ((it2 n bs t).taken).length ≤ t
  | 0 => Nat.le_refl 0
  | t + 1 => by
    have a := it2_taken n bs t
    simp only [it2, step2]
    split
    · lia
    · simp only [List.length_append, List.length_cons, List.length_nil]; lia
theorem pick_from (um : List Value) (k : Nat) (h : k + 1 ≤ um.length) : kms_pick um.toArray.toList (some ((k : Int) + 1)) none = um.drop (k + 1) := by
  have e : ((k : Int) + 1).toNat = k + 1 := by lia
  have e2 : min (k + 1) um.length = k + 1 := by lia
  simp only [kms_pick, kms_lo, kms_hi, if_neg (show ¬ ((k : Int) + 1 < 0) by lia), e, e2]
  exact List.take_of_length_le (by rw [List.length_drop]; exact Nat.le_refl _)
theorem pick_to (um : List Value) (k : Nat) (h : k ≤ um.length) : kms_pick um.toArray.toList none (some (k : Int)) = um.take k := by
  have e2 : min k um.length = k := by lia
  simp only [kms_pick, kms_lo, kms_hi, if_neg (show ¬ ((k : Int) < 0) by lia), Int.toNat_natCast, e2, List.drop_zero, Nat.sub_zero]
theorem ascii_len (b : Array UInt8) : (ascii b).length = b.size := by
  simp [ascii, Str.length]
noncomputable def toldAt (n : Nat) (r : List Bool) (i : Nat) : Bool := (ellRun (ascii (rowOf r)) (8 * n - 1) (midOf n (i + 1)) 1).isSome
noncomputable def inv2 (n : Nat) (bs : List Bool) (led : List (Addr × Obj)) (i : Nat) (c : S2) : Prop :=
  c.c = it2 n bs i ∧ IntsAre c.um c.c.marks ∧ IntsAre c.uts c.c.taken ∧ c.ma ≠ c.ta ∧ (∀ p ∈ led, p.1 ≠ c.ma) ∧ ∀ p ∈ led, p.1 ≠ c.ta
theorem walk0 : PySem.Challenge.rw_xp0013_01.Holds := by
  refine holds_law said fun k1 => hd ⟨k1, ?_⟩
  clear k1
  k_fill
  intro w s₀ s₁ mg mb G Y fa o pm cd doc dV kV ho hd hcd hD hmg hg args vals as hpre hlay hrd hwl hlo
  have KX := kIn_of Y
  have X := (Ground.X G).1
  have V := (Ground.X G).2
  have GL := glob_more (Ground.glob G (by decide +kernel) (by decide +kernel)) V
  refine Ground.open G ?_
  intro T B D TE TW
  try (refine guard_noD D (by decide +kernel) ?_; clear D)
  obtain ⟨_, _, M⟩ := bmod_of_top T
  have TA := at_of_top T
  try (obtain ⟨_, _, he, B0⟩ := based_of_top T rfl hmg ho hd; have he' : cd = _ := he; subst he'; clear he)
  clear hmg
  wrow_args hpre hlay hrd hwl hlo
  rename List Int => ns
  have hno : ∀ cls, PySem.Challenge.rw_xp0013_01.row.claim.raises [ofPy (PyData.list (List.map PyData.int ns))] cls = false := fun _ => rfl
  have hpost : PySem.Challenge.rw_xp0013_01.row.claim.post [ofPy (PyData.list (List.map PyData.int ns))] (.bool true) [ofPy (PyData.list (List.map PyData.int ns))] = true := by wrow_post
  refine ⟨good_true hno hpost (fun _ _ e => e) rfl hg, ?_⟩
  refine wpG_call ?_
  have K0 := below_caller (Top.heap T)
  have he := Dflts.none hD rfl
  subst he
  have he := Dflts.noKw hD
  subst he
  refine call_cellsG (by decide) ho (fd_plain hd) (Top.nolimit T) hcd rfl (kinds_of (by kinds_ok)) (by decide) fun h₁ tk₁ cells F N0 X0 => ?_
  cells_open X0
  clear hd TA
  k_drop
  rename s₁.heap.IsList _ _ => hLs
  rename IntsAre _ _ => hIs
  rename (¬ ((63 : Nat) : Int) < _) => h63
  dsimp only at F N0 ⊢
  rename_i oD oS dD dS
  obtain ⟨sl, svs, e1, e2⟩ := nameList hLs
  subst e1; subst e2
  refine cutQ (fun s' => ∃ n t o1 o2, (n = 3 ∨ n = 4) ∧ o1.data = .cell (some (.int ((n : Nat) : Int) t)) ∧ (∃ v, o2.data = .cell v) ∧ Mid s₁.heap s₁.heap.objs.size { s₁ with heap := h₁, toks := tk₁ } [(s₁.heap.objs.size + 1 + 1, o2), (s₁.heap.objs.size + 1, o1)] [(Str.ofString "script", Value.ref sl)] s') (fun qk hqk => wpG_of_any ?_) ?_
  · k_steps
    unfold Stop
    rename News _ _ _ _ => N1
    rename Fr _ _ _ _ => F1
    have hsz : svs.toArray.size = ns.length := by rw [List.size_toArray, hIs.length]
    refine PyProof.Rows.len_list (by obtain ⟨o, ho1, ho2⟩ := hLs; exact ⟨o, F1.keep _ _ ho1, ho2⟩) (by lia) ?_
    rw [hsz]
    k_steps
    · rename News _ _ _ _ => N1
      rename Fr _ _ _ _ => F1
      rename (_ = Data.cell (some (Value.int 3 _))) => hc
      exact hqk _ ⟨3, _, _, oD, .inl rfl, hc, ⟨_, dD⟩, mid_intro F1 N1 (fun p hp => hp) (List.forall_mem_cons.mpr ⟨rfl, fun _ h => nomatch h⟩)⟩
    · rename News _ _ _ _ => N1
      rename Fr _ _ _ _ => F1
      rename (_ = Data.cell (some (Value.int 4 _))) => hc
      exact hqk _ ⟨4, _, _, oD, .inr rfl, hc, ⟨_, dD⟩, mid_intro F1 N1 (fun p hp => hp) (List.forall_mem_cons.mpr ⟨rfl, fun _ h => nomatch h⟩)⟩
  clear F N0 X0 dD dS oD oS
  rintro s' ⟨n, tn, oS, oD, hn, dS, ⟨vD, dD⟩, h2, tk2, m2, rfl, F, N⟩
  have n3 : 3 ≤ n := by lia
  have n4 : n ≤ 4 := by lia
  replace hn : Hide (n = 3 ∨ n = 4) := hn
  dsimp only
  clear hD hcd ho
  refine cutQ (fun s' => ∃ bs t, bs.length = 2 * n ∧ bs.count true = n ∧ Mid s₁.heap s₁.heap.objs.size s₁ [(s₁.heap.objs.size + 1 + 1, oD), (s₁.heap.objs.size + 1, oS)] [(Str.ofString "word", Value.str (wordOf bs) t)] s') (fun qk hqk => wpG_of_any ?_) ?_
  · k_steps
    unfold Stop
    rename News _ _ _ _ => N1
    rename Fr _ _ _ _ => F1
    refine c_word w _ sl svs ns hIs (by lia) n _ (by lia) (by lia) s₁.heap hLs _ _ _ _ _ _ _ _ _ _ _ _ _ _ _ _ _ _ _ _ _ _ K0 F1 KX N1 T rfl (by decide) (by decide) ?_
    refine ⟨fun _ _ e => e, ?_⟩
    rintro x tx h3 tk3 ⟨bs, hb1, hb2, rfl⟩ F3 N3
    clear F1 N1
    k_steps
    rename News _ _ _ _ => N4
    rename Fr _ _ _ _ => F4
    exact hqk _ ⟨bs, _, hb1, hb2, mid_intro F4 N4 (fun p hp => hp) (List.forall_mem_cons.mpr ⟨rfl, fun _ h => nomatch h⟩)⟩
  clear F N
  rintro s' ⟨bs, tw, hb1, hb2, h3, tk3, m3, rfl, F, N⟩
  replace hb2 : Hide (bs.count true = n) := hb2
  have hlw := word_len bs
  refine cutQ (fun s' => ∃ M mts cnt, List.map (fun e : Str × Tok => e.1) mts = metS (wordOf bs) (2 * n) ∧ s₁.heap.objs.size + 1 + 1 < M ∧ Mid s₁.heap s₁.heap.objs.size s₁ [(M, W.listOf (mts.map fun e => Value.str e.1 e.2).toArray cnt), (s₁.heap.objs.size + 1 + 1, oD), (s₁.heap.objs.size + 1, oS)] [(Str.ofString "word", Value.str (wordOf bs) tw), (Str.ofString "met", Value.ref M)] s') (fun qk hqk => wpG_of_any ?_) ?_
  · k_steps
    unfold Stop
    rename News _ _ _ _ => N1
    rename Fr _ _ _ _ => F1
    refine c_met w _ (wordOf bs) _ (2 * n) (by lia) (by lia) _ _ _ _ _ _ _ _ _ _ _ _ _ _ _ _ _ _ _ _ _ _ K0 F1 KX N1 T rfl (by decide) (by decide) ?_
    intro M mts cnt h4 tk4 hm F4 N4 lM
    clear F1 N1
    k_steps
    rename News _ _ _ _ => N5
    rename Fr _ _ _ _ => F5
    exact hqk _ ⟨M, mts, cnt, hm, lM _ (.head _), mid_intro F5 N5 (fun p hp => hp) (List.forall_mem_cons.mpr ⟨rfl, List.forall_mem_cons.mpr ⟨rfl, fun _ h => nomatch h⟩⟩)⟩
  clear F N
  rintro s' ⟨M, mts, cnt, hmet, lM, h4, tk4, m4, rfl, F, N⟩
  obtain ⟨es1, es2, es3, es4, es5, es6⟩ := esc_ok hn hb1 hb2
  refine cutQ (fun s' => ∃ t, Mid s₁.heap s₁.heap.objs.size s₁ [(M, W.listOf (mts.map fun e => Value.str e.1 e.2).toArray cnt), (s₁.heap.objs.size + 1 + 1, oD), (s₁.heap.objs.size + 1, oS)] [(Str.ofString "first", Value.bytes (rowOf bs) t), (Str.ofString "met", Value.ref M)] s') (fun qk hqk => wpG_of_any ?_) ?_
  · k_steps
    unfold Stop
    rename News _ _ _ _ => N1
    rename Fr _ _ _ _ => F1
    refine c_escape w _ (wordOf bs) _ es1 es2 es3 es4 (by lia) es5 _ _ _ _ _ _ _ _ _ _ _ _ _ _ _ _ _ _ _ _ _ _ K0 F1 KX N1 T rfl (by decide) (by decide) ?_
    intro te h5 tk5 F5 N5
    clear F1 N1
    dsimp only
    refine gm_encode ?_
    k_steps
    unfold Stop
    refine encode_ascii (esc_low es6) (by rw [esc_len es6]; lia) (by rw [esc_len es6]; lia) ?_
    rw [esc_octets es6]
    k_steps
    rename News _ _ _ _ => N6
    rename Fr _ _ _ _ => F6
    exact hqk _ ⟨_, mid_intro F6 N6 (fun p hp => hp) (List.forall_mem_cons.mpr ⟨rfl, List.forall_mem_cons.mpr ⟨rfl, fun _ h => nomatch h⟩⟩)⟩
  clear F N
  rintro s' ⟨tf, h5, tk5, m5, rfl, F, N⟩
  have hrs := rowOf_size bs
  refine cutQ (fun s' => ∃ t, Mid s₁.heap s₁.heap.objs.size s₁ [(M, W.listOf (mts.map fun e => Value.str e.1 e.2).toArray cnt), (s₁.heap.objs.size + 1 + 1, oD), (s₁.heap.objs.size + 1, oS)] [(Str.ofString "first", Value.bytes (rowOf bs) tf), (Str.ofString "met", Value.ref M), (Str.ofString "mirror", Value.bytes (rowOf bs.reverse) t)] s') ?_ ?_
  · intro qk hqk
    refine G_Assign_Name (G_Call ?_)
    k_steps
    refine G_callWith (K := hd.heap_1 w.params) (by k_is) ?_
    refine G_spliced_cons (G_Call ?_)
    k_steps
    refine G_callWith (K := hd.heap_1 w.params) (by k_is) (wpG_of_any ?_)
    k_steps
    rename News _ _ _ _ => N1
    rename Fr _ _ _ _ => F1
    refine c_byteswap w _ (rowOf bs) _ _ 1 (rowOf bs).size (by lia) (by lia) (by lia) (by lia) _ _ _ _ _ _ _ _ _ _ _ _ _ _ _ _ _ _ _ _ _ K0 F1 KX N1 T rfl (by decide) (by decide) ?_
    intro t7 h7 tk7 F7 N7
    clear F1 N1
    refine wpG_of_any ?_
    k_steps
    rename News _ _ _ _ => N8
    rename Fr _ _ _ _ => F8
    refine c_byteswap w _ (revChunks (rowOf bs).toList (rowOf bs).size 1).toArray _ _ (2 * n) 4 (by rw [List.size_toArray, revChunks_length (q := 1) (by simp) 1 (Nat.le_refl _)]; lia) (by lia) (by lia) (by lia) _ _ _ _ _ _ _ _ _ _ _ _ _ _ _ _ _ _ _ _ _ K0 F8 KX N8 T rfl (by decide) (by decide) ?_
    intro t9 h9 tk9 F9 N9
    clear F8 N8
    rw [← hb1, row_mirror]
    k_steps
    rename News _ _ _ _ => N6
    rename Fr _ _ _ _ => F6
    exact hqk _ ⟨_, mid_intro F6 N6 (fun p hp => hp) (List.forall_mem_cons.mpr ⟨rfl, List.forall_mem_cons.mpr ⟨rfl, List.forall_mem_cons.mpr ⟨rfl, fun _ h => nomatch h⟩⟩⟩)⟩
  clear F N
  rintro s' ⟨tm, h6, tk6, m6, rfl, F, N⟩
  have hrv : (bs.reverse).length = 2 * n := by rw [List.length_reverse, hb1]
  refine cutQ (fun s' => ∃ D mts2 cnt2, List.map (fun e : Str × Tok => e.1) mts2 = (plRun (upB bs.reverse) (fun i => Txt.item (letB n) (i : Int)) (2 * n)).met ∧ M < D ∧ Mid s₁.heap s₁.heap.objs.size s₁ [(D, W.listOf (mts2.map fun e => Value.str e.1 e.2).toArray cnt2), (M, W.listOf (mts.map fun e => Value.str e.1 e.2).toArray cnt), (s₁.heap.objs.size + 1 + 1, oD), (s₁.heap.objs.size + 1, oS)] [(Str.ofString "first", Value.bytes (rowOf bs) tf), (Str.ofString "met", Value.ref M), (Str.ofString "mirror", Value.bytes (rowOf bs.reverse) tm), (Str.ofString "pairs", Value.ref D)] s') (fun qk hqk => wpG_of_any ?_) ?_
  · k_steps
    unfold Stop
    rename News _ _ _ _ => N1
    rename Fr _ _ _ _ => F1
    refine c_places w _ (rowOf bs.reverse) _ _ (letB n) (2 * n) (by rw [rowOf_size, hrv]) (by lia) (upB bs.reverse) (fun i hi => row_pc (by lia)) (by rw [letB_len hn]; exact Nat.le_refl _) (letB_ok hn) _ _ _ _ _ _ _ _ _ _ _ _ _ _ _ _ _ _ _ _ _ _ K0 F1 KX N1 T rfl (by decide) (by decide) ?_
    intro T7 D t1 t2 mts2 cnt2 h7 tk7 hm2 F7 N7 lD lT
    clear F1 N1
    have lMD : M < D := lD _ (.head _)
    k_steps
    rename News _ _ _ _ => N6
    rename Fr _ _ _ _ => F6
    exact hqk _ ⟨D, mts2, cnt2, hm2, lMD, mid_intro F6 N6 (fun p hp => .tail _ hp) (List.forall_mem_cons.mpr ⟨rfl, List.forall_mem_cons.mpr ⟨rfl, List.forall_mem_cons.mpr ⟨rfl, List.forall_mem_cons.mpr ⟨rfl, fun _ h => nomatch h⟩⟩⟩⟩)⟩
  clear F N
  rintro s' ⟨D, mts2, cnt2, hm2, lMD, h7, tk7, m7, rfl, F, N⟩
  refine cutQ (Mid s₁.heap s₁.heap.objs.size s₁ [(M, W.listOf (mts.map fun e => Value.str e.1 e.2).toArray cnt), (s₁.heap.objs.size + 1 + 1, oD), (s₁.heap.objs.size + 1, oS)] [(Str.ofString "first", Value.bytes (rowOf bs) tf), (Str.ofString "met", Value.ref M)]) (fun qk hqk => wpG_of_any ?_) ?_
  · have hmm : List.map (fun e : Str × Tok => e.1) mts2 = metM n bs := hm2
    obtain ⟨pk1, pk2, pk3, pk4⟩ := pair_ok hn hb1 hb2
    have hlen2 : mts2.length ≤ 8 := by
      have := congrArg List.length hmm
      rw [List.length_map] at this
      lia
    have hlen1 : mts.length ≤ 8 := by
      have q1 := congrArg List.length hmet
      have q2 := pk2.length_eq
      rw [List.length_map] at q1 q2
      lia
    k_steps
    · unfold Stop
      refine' LCg.ListComp_U (F₀ := by assumption) ?f1 ?f2 ?f3 ?f4 ?f5 ?f6 ?f7
      case f7 => intro _; rfl
      case f1 => rfl
      case f2 => decide
      case f3 => rfl
      case f4 => decide
      case f5 => rfl
      k_steps
      unfold Stop
      rename News _ _ _ _ => N1
      rename Fr _ _ _ _ => F1
      refine LCg.CompSrc.ledger (by rfl) F1 N1 (.head _) (by rw [List.size_toArray, List.length_map, sizeLine_eq]; lia) ?_
      intro g
      refine rest_my (fun c : List (Str × Tok) => c.map fun e => Value.str e.1 e.2) (fun _ => _) (fun i c => c.map (fun e : Str × Tok => e.1) = ((metM n bs).take i).map swapS) [] rfl rfl rfl ?_ ?_
      · intro c i v I oI C oC D2 m₂ h tk E' hi hc hv hC hx F3 N3 off ne
        have hvi : ∃ x t, v = .str x t ∧ (metM n bs)[i]? = some x := by
          rw [← hmm, List.getElem?_map]
          have hv' : (List.map (fun e : Str × Tok => Value.str e.1 e.2) mts2)[i]? = some v := by simpa using hv
          rw [List.getElem?_map] at hv'
          cases hq : mts2[i]? with
          | none => rw [hq] at hv'; cases hv'
          | some q => rw [hq] at hv'; exact ⟨q.1, q.2, (Option.some.inj hv').symm, rfl⟩
        obtain ⟨x, tx, rfl, hxi⟩ := hvi
        have hx2 := (pk1 x (List.mem_of_getElem? hxi)).1
        k_steps
        rename News _ _ _ _ => NN
        rename Fr _ _ _ _ => FF
        refine LCg.CompEnd.intro FF NN _ (fun p hp => hp) off (.inr ⟨_, .head _, rfl, _, rfl⟩) ⟨c ++ [(swapS x, _)], ?_, by rw [List.map_append]; rfl, rfl⟩
        rw [List.map_append, hc, List.take_add_one, hxi, List.map_append]
        rfl
      · intro c hc
        intro D2 h9 tk9 F3 N3 off
        have hc' : c.map (fun e : Str × Tok => e.1) = (metM n bs).map swapS := by
          rw [hc, List.size_toArray, List.length_map, List.take_of_length_le]
          rw [← hmm, List.length_map]
          exact Nat.le_refl _
        have hcl : c.length ≤ 8 := by
          have := congrArg List.length hc'
          rw [List.length_map, List.length_map] at this
          lia
        k_steps
        unfold Stop
        rename News _ _ _ _ => N4
        rename Fr _ _ _ _ => F4
        refine sorted_K F4 N4 (list_mem N4 (.head _)) (strs_are c) (by rw [List.length_map]; lia) ?_
        intro D4 h10 v4 s4 e4 F5 N5 hS4 hp4 hs4
        clear F4 N4
        k_steps
        unfold Stop
        rename News _ _ _ _ => N6
        rename Fr _ _ _ _ => F6
        refine sorted_K F6 N6 (list_mem N6 (.tail _ (.tail _ (.tail _ (.head _))))) (strs_are mts) (by rw [List.length_map]; lia) ?_
        intro D6 h11 v6 s6 e6 F7 N7 hS6 hp6 hs6
        clear F6 N6
        k_steps
        unfold Stop
        rename News _ _ _ _ => N8
        rename Fr _ _ _ _ => F8
        rw [hc'] at hp4
        rw [hmet] at hp6
        refine ne_strs N8 (.tail _ (.head _)) (.head _) hS4 hS6 (all_perm (hp4.trans pk2) pk3) (all_perm hp6 pk3) (by ke_room) ?_
        rw [decide_eq_true (strs_uniq ((hp4.trans pk2).trans hp6.symm) hs4 hs6)]
        k_steps
        rename News _ _ _ _ => N9
        rename Fr _ _ _ _ => F9
        exact hqk _ (mid_intro F9 N9 (by walk_at "mine perm") (List.forall_mem_cons.mpr ⟨rfl, List.forall_mem_cons.mpr ⟨rfl, fun _ h => nomatch h⟩⟩))
  clear F N
  rintro s' ⟨h8, tk8, m8, rfl, F, N⟩
  refine cutQ (Mid s₁.heap s₁.heap.objs.size s₁ [(M, W.listOf (mts.map fun e => Value.str e.1 e.2).toArray cnt), (s₁.heap.objs.size + 1 + 1, oD), (s₁.heap.objs.size + 1, oS)] [(Str.ofString "first", Value.bytes (rowOf bs) tf), (Str.ofString "met", Value.ref M), (Str.ofString "row", Value.bytes (rowOf bs) tf)]) (fun qk hqk => wpG_of_any ?_) ?_
  · k_steps
    rename News _ _ _ _ => N9
    rename Fr _ _ _ _ => F9
    exact hqk _ (mid_intro F9 N9 (by walk_at "mine perm") (List.forall_mem_cons.mpr ⟨rfl, List.forall_mem_cons.mpr ⟨rfl, List.forall_mem_cons.mpr ⟨rfl, fun _ h => nomatch h⟩⟩⟩))
  clear F N
  rintro s' ⟨h9, tk9, m9, rfl, F, N⟩
  refine cutQ (fun s' => ∃ t, Mid s₁.heap s₁.heap.objs.size s₁ [(M, W.listOf (mts.map fun e => Value.str e.1 e.2).toArray cnt), (s₁.heap.objs.size + 1 + 1, oD), (s₁.heap.objs.size + 1, oS)] [(Str.ofString "first", Value.bytes (rowOf bs) tf), (Str.ofString "met", Value.ref M), (Str.ofString "row", Value.bytes (rowOf bs) tf), (Str.ofString "fallen", Value.int (fallN n bs : Nat) t)] s') (fun qk hqk => wpG_of_any ?_) ?_
  · k_steps
    unfold Stop
    refine LCt.ListComp_T (F₀ := by k_asm) (by with_unfolding_all rfl) (by decide) (by rfl) (by decide) (by rfl) ?_
    k_steps
    unfold Stop
    rename News _ _ _ _ => N1
    rename Fr _ _ _ _ => F1
    refine c_heights w _ (rowOf bs) _ (2 * n) (by rw [rowOf_size]; lia) (by lia) (upB bs) (fun i hi => row_up (by lia)) _ _ _ _ _ _ _ _ _ _ _ _ _ _ _ _ _ _ _ _ _ _ K0 F1 KX N1 T rfl (by decide) (by decide) ?_
    intro D us c5 h10 tk10 hus F2 N2 lD
    clear F1 N1
    have hBl := begs_len (upB bs) (2 * n)
    generalize hB : begs (upB bs) (2 * n) = BL at hus hBl
    k_steps
    unfold Stop
    rename News _ _ _ _ => N3
    rename Fr _ _ _ _ => F3
    refine LCt.CompSrcT.ledger (by rfl) F3 N3 (.head _) (by rw [List.size_toArray, hus.length, sizeLine_eq]; lia) ?_
    intro g'
    refine' kci_list (fun l k => if k < 0 then l ++ [k] else l) hus (fun k' t' I' oI' C' oC' D' m' ys' l' h' tk' E' hk' hy' hC' hx' F' N' off' ne' => ?_) ?_ ?_
    · have offc := off'
      (try (simp only [LCg.Off3, and_true] at off'))
      intro hMark'
      k_steps
    · unfold KPfDone
      intro ys hys hyl
      rw [fold_neg] at hys
      have hNL : BL.filter (fun h => decide (h < 0)) = negs n bs := by rw [← hB]; rfl
      rw [hNL] at hys
      have hyl2 := hys.length
      have hNl : (negs n bs).length = fallN n bs := rfl
      generalize negs n bs = NL at hys hyl2 hNl
      intro D2 h11 tk11 F4 N4 off4
      clear F3 N3
      refine Stop.out ?_
      unfold Stop
      k_steps
      unfold Stop
      rename News _ _ _ _ => N5
      have e5 : ys.toArray.size = fallN n bs := by rw [List.size_toArray, hyl2, hNl]
      rw [List.size_toArray, hus.length] at hyl
      refine len_list (list_mem N5 (.head _)) (by rw [e5]; lia) ?_
      rw [e5]
      k_steps
      rename News _ _ _ _ => N9
      rename Fr _ _ _ _ => F9
      exact hqk _ ⟨_, mid_intro F9 N9 (by walk_at "mine perm") (List.forall_mem_cons.mpr ⟨rfl, List.forall_mem_cons.mpr ⟨rfl, List.forall_mem_cons.mpr ⟨rfl, List.forall_mem_cons.mpr ⟨rfl, fun _ h => nomatch h⟩⟩⟩⟩)⟩
    · intro l k
      dsimp only
      split <;> simp
  clear F N
  rintro s' ⟨tfa, h10, tk10, m10, rfl, F, N⟩
  obtain ⟨lw1, lw2, lw3⟩ := law_ok1 hn hb1 hb2
  have hfl := fall_le n bs
  refine cutQ (fun s' => ∃ t, Mid s₁.heap s₁.heap.objs.size s₁ [(M, W.listOf (mts.map fun e => Value.str e.1 e.2).toArray cnt), (s₁.heap.objs.size + 1 + 1, oD), (s₁.heap.objs.size + 1, oS)] [(Str.ofString "first", Value.bytes (rowOf bs) tf), (Str.ofString "met", Value.ref M), (Str.ofString "fallen", Value.int (fallN n bs : Nat) tfa), (Str.ofString "row", Value.bytes (rowOf (it1 n bs (fallN n bs))) t)] s') (fun qk hqk => G_For ?_) ?_
  · k_steps
    unfold Stop
    rename IsRange _ _ _ _ _ _ _ _ => hR
    rename News _ _ _ _ => N1
    rename Fr _ _ _ _ => F1
    refine rangeG_my (x := "turn") (σ := List Bool × Tok) (n := fallN n bs) (fun c => [(M, W.listOf (mts.map fun e => Value.str e.1 e.2).toArray cnt), (s₁.heap.objs.size + 1 + 1, oD), (s₁.heap.objs.size + 1, oS)]) (fun c => [("row", Value.bytes (rowOf c.1) c.2)]) ["place"] (fun i c => c.1 = it1 n bs i) rfl hR ?_ ?_ F1 N1 ?_ ?_ ?_
    · exact small_of (by decide) (by decide) (by lia) (by lia) (by decide) (by decide)
    · have := rangeSize_one (a := 0) (n := fallN n bs)
      rwa [Int.zero_add] at this
    · exact start_my (bs, tf) rfl (List.forall_mem_cons.mpr ⟨rfl, fun _ h => nomatch h⟩) rfl
    · rintro ⟨r, tr⟩ i t u h tk own hi hoff hP F2 N2
      dsimp only at F2 N2 hP ⊢
      subst hP
      obtain ⟨r1, r2⟩ := it1_mem hn hb1 hb2 i (by lia)
      replace r2 : Hide _ := r2
      have hrow := row_ok hn r1 r2
      obtain ⟨q1, q2⟩ := row_home hrow (lw1 i hi)
      have q0 := lw1 i hi
      generalize hr : it1 n bs i = r at *
      clear hR F1 N1
      have hrz := rowOf_size r
      k_steps
      refine G_execs_cons (wpG_of_any ?_)
      k_steps
      unfold Stop
      rename News _ _ _ _ => N3
      rename Fr _ _ _ _ => F3
      refine c_places w _ (rowOf r) _ _ (Str.ofString "abcdefgh") (2 * n) (by lia) (by lia) (upB r) (fun i hi => row_pc (by lia)) (by show 2 * n ≤ 8; lia) (letA_ok (by lia)) _ _ _ _ _ _ _ _ _ _ _ _ _ _ _ _ _ _ _ _ _ _ K0 F3 KX N3 T rfl (by decide) (by decide) ?_
      intro T7 D t1 t2 mts3 cnt3 h7 tk7 hm3 F7 N7 lD lT
      clear F3 N3
      rw [show (plRun (upB r) (fun i => Txt.item (Str.ofString "abcdefgh") (i : Int)) (2 * n)).home = (plA n r).home from rfl] at N7
      generalize hhm : (plA n r).home = hm at q0 q1 q2 N7
      k_steps
      refine G_execs_cons (wpG_of_any ?_)
      k_steps
      refine G_execs_cons (G_Assign_Name (G_Call ?_))
      k_steps
      refine G_callWith (K := hd.heap_1 w.params) (by k_is) (wpG_of_any ?_)
      k_steps
      rename News _ _ _ _ => N4
      rename Fr _ _ _ _ => F4
      rw [q1]
      refine c_turned w _ (rowOf r) _ _ (2 * n) (hm.toNat / 4) (by lia) (by lia) q2 _ _ _ _ _ _ _ _ _ _ _ _ _ _ _ _ _ _ _ _ _ K0 F4 KX N4 T rfl (by decide) (by decide) ?_
      intro t8 h8 tk8 F5 N5
      clear F4 N4
      rw [row_turn]
      k_steps
      refine G_execs_nil ?_
      k_steps
      unfold Stop
      rename News _ _ _ _ => N6
      rename Fr _ _ _ _ => F6
      refine end_my (turnB r (hm.toNat / 4), _) F6 N6 (by walk_at "mine perm") (by walk_at "mine perm") rfl (List.forall_mem_cons.mpr ⟨rfl, fun _ h => nomatch h⟩) ?_ ?_
      · walk_at "FrameRest"
      · show turnB r (hm.toNat / 4) = it1 n bs (i + 1)
        rw [it1, hr, hhm]
    · rintro ⟨r, tr⟩ u h tk hP F2 N2
      dsimp only at F2 N2 hP ⊢
      subst hP
      exact hqk _ ⟨_, mid_intro F2 N2 (by walk_at "mine perm") (List.forall_mem_cons.mpr ⟨rfl, List.forall_mem_cons.mpr ⟨rfl, List.forall_mem_cons.mpr ⟨rfl, List.forall_mem_cons.mpr ⟨rfl, fun _ h => nomatch h⟩⟩⟩⟩)⟩
  clear F N
  rintro s' ⟨trw, h11, tk11, m11, rfl, F, N⟩
  obtain ⟨rs1, rs2⟩ := it1_mem hn hb1 hb2 _ (Nat.le_refl _)
  replace rs2 : Hide _ := rs2
  have hrows := row_ok hn rs1 rs2
  generalize hrs : it1 n bs (fallN n bs) = rs at *
  have hrsz := rowOf_size rs
  refine cutQ (fun s' => ∃ DD us c5 oD', IntsAre us (begB n rs) ∧ oD'.data = .cell (some (.ref DD)) ∧ M < DD ∧ Mid s₁.heap s₁.heap.objs.size s₁ [(DD, W.listOf us.toArray c5), (M, W.listOf (mts.map fun e => Value.str e.1 e.2).toArray cnt), (s₁.heap.objs.size + 1 + 1, oD'), (s₁.heap.objs.size + 1, oS)] [(Str.ofString "first", Value.bytes (rowOf bs) tf), (Str.ofString "met", Value.ref M), (Str.ofString "fallen", Value.int (fallN n bs : Nat) tfa), (Str.ofString "row", Value.bytes (rowOf rs) trw)] s') (fun qk hqk => wpG_of_any ?_) ?_
  · k_steps
    unfold Stop
    rename News _ _ _ _ => N1
    rename Fr _ _ _ _ => F1
    refine c_heights w _ (rowOf rs) _ (2 * n) (by lia) (by lia) (upB rs) (fun i hi => row_up (by lia)) _ _ _ _ _ _ _ _ _ _ _ _ _ _ _ _ _ _ _ _ _ _ K0 F1 KX N1 T rfl (by decide) (by decide) ?_
    intro DD us c5 h12 tk12 hus F2 N2 lD
    clear F1 N1
    have lD2 : AllLt DD [(M, W.listOf (mts.map fun e => Value.str e.1 e.2).toArray cnt), (s₁.heap.objs.size + 1 + 1, oD), (s₁.heap.objs.size + 1, oS)] := allLt_of lD
    k_steps
    rename (_ = Data.cell (some (Value.ref DD))) => hc
    rename News _ _ _ _ => N9
    rename Fr _ _ _ _ => F9
    exact hqk _ ⟨DD, us, c5, _, hus, hc, lD _ (.head _), mid_intro F9 N9 (by walk_at "mine perm") (List.forall_mem_cons.mpr ⟨rfl, List.forall_mem_cons.mpr ⟨rfl, List.forall_mem_cons.mpr ⟨rfl, List.forall_mem_cons.mpr ⟨rfl, fun _ h => nomatch h⟩⟩⟩⟩)⟩
  clear F N
  rintro s' ⟨DD, us, c5, oD', hus, dD', lDD, h12, tk12, m12, rfl, F, N⟩
  have hbl := row_beg hrows
  refine cutQ (Mid s₁.heap s₁.heap.objs.size s₁ [(DD, W.listOf us.toArray c5), (M, W.listOf (mts.map fun e => Value.str e.1 e.2).toArray cnt), (s₁.heap.objs.size + 1 + 1, oD'), (s₁.heap.objs.size + 1, oS)] [(Str.ofString "first", Value.bytes (rowOf bs) tf), (Str.ofString "met", Value.ref M), (Str.ofString "fallen", Value.int (fallN n bs : Nat) tfa), (Str.ofString "row", Value.bytes (rowOf rs) trw)]) (fun qk hqk => wpG_of_any ?_) ?_
  · have hng : (begB n rs).filter (fun h => decide (h < 0)) = [] := lw2
    have hrs3 := lw3
    generalize begB n rs = BL at hus hbl hng
    k_steps
    unfold Stop
    refine LCt.ListComp_T (F₀ := by k_asm) (by with_unfolding_all rfl) (by decide) (by rfl) (by decide) (by rfl) ?_
    k_steps
    unfold Stop
    rename News _ _ _ _ => N3
    rename Fr _ _ _ _ => F3
    refine LCt.CompSrcT.ledger (by rfl) F3 N3 (.head _) (by rw [List.size_toArray, hus.length, sizeLine_eq]; lia) ?_
    intro g'
    refine' kci_list (fun l k => if k < 0 then l ++ [k] else l) hus (fun k' t' I' oI' C' oC' D' m' ys' l' h' tk' E' hk' hy' hC' hx' F' N' off' ne' => ?_) ?_ ?_
    · have offc := off'
      (try (simp only [LCg.Off3, and_true] at off'))
      intro hMark'
      k_steps
    · unfold KPfDone
      intro ys hys hyl
      rw [fold_neg, hng] at hys
      have hyn : ys = [] := by
        have := hys.length
        exact List.length_eq_zero_iff.mp this
      subst hyn
      intro D2 h13 tk13 F4 N4 off4
      clear F3 N3
      refine Stop.out ?_
      unfold Stop
      k_steps
      unfold Stop
      rename News _ _ _ _ => N5
      refine ne_intsK (list_mem N5 (by k_mem)) (.nil : IntsAre [] []) (list_mem N5 (by k_mem)) (.nil : IntsAre [] []) (by ke_room) ?_
      rw [decide_eq_true rfl]
      k_steps
      unfold Stop
      rename News _ _ _ _ => N6
      rename Fr _ _ _ _ => F6
      refine c_places w _ (rowOf rs) _ _ (Str.ofString "abcdefgh") (2 * n) (by lia) (by lia) (upB rs) (fun i hi => row_pc (by lia)) (by show 2 * n ≤ 8; lia) (letA_ok (by lia)) _ _ _ _ _ _ _ _ _ _ _ _ _ _ _ _ _ _ _ _ _ _ K0 F6 KX N6 T rfl (by decide) (by decide) ?_
      intro T7 D t1 t2 mts3 cnt3 h14 tk14 hm3 F7 N7 lD lT
      clear F6 N6
      rw [show (plRun (upB rs) (fun i => Txt.item (Str.ofString "abcdefgh") (i : Int)) (2 * n)).home = (plA n rs).home from rfl] at N7
      generalize (plA n rs).home = hm at hrs3 N7
      k_steps
      rename News _ _ _ _ => N9
      rename Fr _ _ _ _ => F9
      exact hqk _ (mid_intro F9 N9 (by walk_at "mine perm") (List.forall_mem_cons.mpr ⟨rfl, List.forall_mem_cons.mpr ⟨rfl, List.forall_mem_cons.mpr ⟨rfl, List.forall_mem_cons.mpr ⟨rfl, fun _ h => nomatch h⟩⟩⟩⟩))
    · intro l k
      dsimp only
      split <;> simp
  clear F N
  rintro s' ⟨h13, tk13, m13, rfl, F, N⟩
  refine cutQ (fun s' => ∃ U uds c6, IntsAre uds (dueL n (begB n rs)) ∧ DD < U ∧ Mid s₁.heap s₁.heap.objs.size s₁ [(U, W.listOf uds.toArray c6), (DD, W.listOf us.toArray c5), (M, W.listOf (mts.map fun e => Value.str e.1 e.2).toArray cnt), (s₁.heap.objs.size + 1 + 1, oD'), (s₁.heap.objs.size + 1, oS)] [(Str.ofString "first", Value.bytes (rowOf bs) tf), (Str.ofString "met", Value.ref M), (Str.ofString "fallen", Value.int (fallN n bs : Nat) tfa), (Str.ofString "row", Value.bytes (rowOf rs) trw), (Str.ofString "due", Value.ref U)] s') (fun qk hqk => wpG_of_any ?_) ?_
  · generalize begB n rs = BL at hus hbl hqk
    refine nest_assign (L := s₁.heap.objs.size) rfl (by first | rfl | with_unfolding_all rfl) (by first | rfl | with_unfolding_all rfl) (by first | rfl | with_unfolding_all rfl) F rfl (by with_unfolding_all rfl) (by decide) (by rfl) (by decide) (by rfl) (by rfl) (by decide) 0 ((n : Int) - 1) (-1) n n (fun i j => decide (BL.getD (n - 1 - j) 0 = (i : Int))) [(DD, W.listOf us.toArray c5), (M, W.listOf (mts.map fun e => Value.str e.1 e.2).toArray cnt), (s₁.heap.objs.size + 1 + 1, oD'), (s₁.heap.objs.size + 1, oS)] s₁ (by lia) (by lia) ?_ ?_ ?_ ?_
    · k_steps
      rename IsRange _ _ _ _ _ _ _ _ => hR
      rename News _ _ _ _ => N9
      rename Fr _ _ _ _ => F9
      exact ⟨_, _, _, _, _, _, _, rfl, rfl, F9, N9, hR, small_of (by decide) (by decide) (by lia) (by lia) (by decide) (by decide), by have := rangeSize_one (a := 0) (n := n); rwa [Int.zero_add] at this⟩
    · intro i ti I oI C oC D m₂ ys h tk hi hC hx F3 N3 off ne
      k_steps
      rename IsRange _ _ _ _ _ _ _ _ => hR
      rename News _ _ _ _ => N9
      rename Fr _ _ _ _ => F9
      exact ⟨_, _, _, _, _, _, _, rfl, rfl, F9, N9, hR, by rcases hn with rfl | rfl <;> decide, by rcases hn with rfl | rfl <;> decide⟩
    · intro i j ti tj I oI I1 oI1 C oC D m₃ ys h tk hi hj hC hx0 hx1 F3 N3 off off1 ne
      have hidx : ((n : Int) - 1 + (j : Int) * -1).toNat = n - 1 - j := by lia
      k_steps
      · rename (List.getD _ _ _ = _) => hcmp
        rw [hidx] at hcmp
        exact decide_eq_true (by lia)
      · exact ⟨⟨_, rfl⟩, _, _, rfl, F3, N3⟩
      · rename (List.getD _ _ _ ≠ _) => hcmp
        rw [hidx] at hcmp
        exact ⟨decide_eq_false (by lia), _, _, rfl, F3, N3⟩
    · intro D h14 tk14 ys hys F4 N4 lD
      rw [due_eq] at hys
      exact hqk _ ⟨D, ys, ys.length, hys, lD _ (.head _), mid_intro F4 N4 (by walk_at "mine perm") (List.forall_mem_cons.mpr ⟨rfl, List.forall_mem_cons.mpr ⟨rfl, List.forall_mem_cons.mpr ⟨rfl, List.forall_mem_cons.mpr ⟨rfl, List.forall_mem_cons.mpr ⟨rfl, fun _ h => nomatch h⟩⟩⟩⟩⟩)⟩
  clear F N
  rintro s' ⟨U, uds, c6, hud, lU, h14, tk14, m14, rfl, F, N⟩
  have lMU : M < U := Nat.lt_trans lDD lU
  replace hbl : Hide _ := hbl
  refine cutQ (fun s' => ∃ V ums c7, IntsAre ums (nums (upB rs) (2 * n)) ∧ U < V ∧ Mid s₁.heap s₁.heap.objs.size s₁ [(V, W.listOf ums.toArray c7), (U, W.listOf uds.toArray c6), (M, W.listOf (mts.map fun e => Value.str e.1 e.2).toArray cnt), (s₁.heap.objs.size + 1 + 1, oD'), (s₁.heap.objs.size + 1, oS)] [(Str.ofString "first", Value.bytes (rowOf bs) tf), (Str.ofString "met", Value.ref M), (Str.ofString "fallen", Value.int (fallN n bs : Nat) tfa), (Str.ofString "row", Value.bytes (rowOf rs) trw), (Str.ofString "due", Value.ref U), (Str.ofString "marks", Value.ref V)] s') (fun qk hqk => wpG_of_any ?_) ?_
  · k_steps
    unfold Stop
    rename News _ _ _ _ => N1
    rename Fr _ _ _ _ => F1
    refine c_numbers w _ (rowOf rs) _ (2 * n) (by lia) (by lia) (upB rs) (fun i hi => row_up (by lia)) _ _ _ _ _ _ _ _ _ _ _ _ _ _ _ _ _ _ _ _ _ _ K0 F1 KX N1 T rfl (by decide) (by decide) ?_
    intro V ums c7 h15 tk15 hums F2 N2 lV
    clear F1 N1
    k_steps
    rename News _ _ _ _ => N9
    rename Fr _ _ _ _ => F9
    exact hqk _ ⟨V, ums, c7, hums, lV _ (.head _), mid_intro F9 N9 (by walk_at "mine perm") (List.forall_mem_cons.mpr ⟨rfl, List.forall_mem_cons.mpr ⟨rfl, List.forall_mem_cons.mpr ⟨rfl, List.forall_mem_cons.mpr ⟨rfl, List.forall_mem_cons.mpr ⟨rfl, List.forall_mem_cons.mpr ⟨rfl, fun _ h => nomatch h⟩⟩⟩⟩⟩⟩)⟩
  clear F N
  rintro s' ⟨V, ums, c7, hums, lV, h15, tk15, m15, rfl, F, N⟩
  refine cutQ (fun s' => ∃ Z c8, (∀ p ∈ [(V, W.listOf ums.toArray c7), (U, W.listOf uds.toArray c6), (M, W.listOf (mts.map fun e => Value.str e.1 e.2).toArray cnt), (s₁.heap.objs.size + 1 + 1, oD'), (s₁.heap.objs.size + 1, oS)], p.1 < Z) ∧ Mid s₁.heap s₁.heap.objs.size s₁ [(Z, W.listOf ([] : List Value).toArray c8), (V, W.listOf ums.toArray c7), (U, W.listOf uds.toArray c6), (M, W.listOf (mts.map fun e => Value.str e.1 e.2).toArray cnt), (s₁.heap.objs.size + 1, oS)] [(Str.ofString "row", Value.bytes (rowOf rs) trw), (Str.ofString "marks", Value.ref V), (Str.ofString "taken", Value.ref Z), (Str.ofString "first", Value.bytes (rowOf bs) tf), (Str.ofString "met", Value.ref M), (Str.ofString "fallen", Value.int (fallN n bs : Nat) tfa), (Str.ofString "due", Value.ref U)] s') (fun qk hqk => wpG_of_any ?_) ?_
  · k_steps
    rename (V < _ ∧ _ < _ ∧ _) => l9
    rename News _ _ _ _ => N9
    rename Fr _ _ _ _ => F9
    exact hqk _ ⟨_, 0, (List.forall_mem_cons.mpr ⟨l9.1, List.forall_mem_cons.mpr ⟨l9.2.1, List.forall_mem_cons.mpr ⟨l9.2.2.1, List.forall_mem_cons.mpr ⟨l9.2.2.2.1, List.forall_mem_cons.mpr ⟨l9.2.2.2.2, fun _ h => nomatch h⟩⟩⟩⟩⟩), mid_intro F9 N9 (by walk_at "mine perm") (List.forall_mem_cons.mpr ⟨rfl, List.forall_mem_cons.mpr ⟨rfl, List.forall_mem_cons.mpr ⟨rfl, List.forall_mem_cons.mpr ⟨rfl, List.forall_mem_cons.mpr ⟨rfl, List.forall_mem_cons.mpr ⟨rfl, List.forall_mem_cons.mpr ⟨rfl, fun _ h => nomatch h⟩⟩⟩⟩⟩⟩⟩)⟩
  clear F N
  rintro s' ⟨Z, c8, lZ, h16, tk16, m16, rfl, F, N⟩
  obtain ⟨lw4, lw5⟩ := law_ok2 hn hb1 hb2
  refine cutQ (fun s' => ∃ c : S2, c.c = it2 n bs (n + 1) ∧ IntsAre c.uts c.c.taken ∧ Mid s₁.heap s₁.heap.objs.size s₁ [(c.ta, W.listOf c.uts.toArray c.ct), (U, W.listOf uds.toArray c6), (M, W.listOf (mts.map fun e => Value.str e.1 e.2).toArray cnt), (s₁.heap.objs.size + 1, oS)] [(Str.ofString "due", Value.ref U), (Str.ofString "taken", Value.ref c.ta)] s') (fun qk hqk => G_For ?_) ?_
  · k_steps
    unfold Stop
    rename IsRange _ _ _ _ _ _ _ _ => hR
    rename News _ _ _ _ => N1
    rename Fr _ _ _ _ => F1
    refine rangeG_free (n := n + 1) (led2 [(U, W.listOf uds.toArray c6), (M, W.listOf (mts.map fun e => Value.str e.1 e.2).toArray cnt), (s₁.heap.objs.size + 1, oS)]) (ps2 [(Str.ofString "first", Value.bytes (rowOf bs) tf), (Str.ofString "met", Value.ref M), (Str.ofString "fallen", Value.int (fallN n bs : Nat) tfa), (Str.ofString "due", Value.ref U)]) (inv2 n bs [(U, W.listOf uds.toArray c6), (M, W.listOf (mts.map fun e => Value.str e.1 e.2).toArray cnt), (s₁.heap.objs.size + 1, oS)]) ⟨V, ums, c7, Z, [], c8, trw, ⟨rs, nums (upB rs) (2 * n), []⟩⟩ (fun c m => List.forall_mem_cons.mpr ⟨rfl, List.forall_mem_cons.mpr ⟨rfl, List.forall_mem_cons.mpr ⟨rfl, List.forall_mem_cons.mpr ⟨rfl, List.forall_mem_cons.mpr ⟨rfl, List.forall_mem_cons.mpr ⟨rfl, List.forall_mem_cons.mpr ⟨rfl, fun _ h => nomatch h⟩⟩⟩⟩⟩⟩⟩) rfl hR ?_ ?_ F1 (newsSub N1 (by walk_at "mine perm")) (List.forall_mem_cons.mpr ⟨rfl, List.forall_mem_cons.mpr ⟨rfl, List.forall_mem_cons.mpr ⟨rfl, List.forall_mem_cons.mpr ⟨rfl, List.forall_mem_cons.mpr ⟨rfl, List.forall_mem_cons.mpr ⟨rfl, List.forall_mem_cons.mpr ⟨rfl, fun _ h => nomatch h⟩⟩⟩⟩⟩⟩⟩) ?_ ?_ ?_
    · exact small_of (by decide) (by decide) (by lia) (by lia) (by decide) (by decide)
    · have := rangeSize_one (a := 0) (n := n + 1)
      rw [Int.zero_add] at this
      exact this
    · refine ⟨?_, hums, .nil, Nat.ne_of_lt (lZ _ (.head _)), List.forall_mem_cons.mpr ⟨Nat.ne_of_lt lV, List.forall_mem_cons.mpr ⟨Nat.ne_of_lt (Nat.lt_trans lMU lV), List.forall_mem_cons.mpr ⟨?_, fun _ h => nomatch h⟩⟩⟩, fun p hp => Nat.ne_of_lt (lZ p (by revert p; walk_at "mine perm"))⟩
      · rw [it2, hrs]
      · show s₁.heap.objs.size + 1 ≠ V
        lia
    · rintro ⟨ma, um, cm, ta, ut, ct, tr, c⟩ i t u h tk I io hi hoff hP F2 N2
      dsimp only [led2, ps2] at F2 N2 hP hoff ⊢
      obtain ⟨hc, im, it, nmt, om, ot⟩ := hP
      dsimp only at hc im it nmt om ot
      subst hc
      clear hR F1 N1 lw5
      obtain ⟨r1, r2⟩ := it2_mem hn hb1 hb2 i
      replace r2 : Hide _ := r2
      have hml := it2_marks hn hb1 hb2 i
      have htl := it2_taken n bs i
      have hrow := row_ok hn r1 r2
      obtain ⟨g1, g2, g3⟩ := lw4 i hi
      replace g1 : Hide _ := g1
      replace g2 : Hide _ := g2
      replace g3 : Hide _ := g3
      clear lw4
      have hstep : it2 n bs (i + 1) = step2 n (it2 n bs i) := rfl
      generalize it2 n bs i = c at *
      obtain ⟨r, mk, tkn⟩ := c
      dsimp only at *
      simp only [List.cons_append, List.nil_append] at N2
      have hrz := rowOf_size r
      have hI1 := hoff _ (.head _)
      have hI2 := hoff _ (.tail _ (.head _))
      k_steps
      refine cutQ (fun s' => ∃ B us2 cB, IntsAre us2 (begB n r) ∧ Mid s₁.heap s₁.heap.objs.size s₁ [(B, W.listOf us2.toArray cB), (ma, W.listOf um.toArray cm), (ta, W.listOf ut.toArray ct), (U, W.listOf uds.toArray c6), (M, W.listOf (mts.map fun e => Value.str e.1 e.2).toArray cnt), (s₁.heap.objs.size + 1, oS), (I, io)] [(Str.ofString "begun", Value.ref B), (Str.ofString "turn", Value.int (0 + (i : Int) * 1) t), (Str.ofString "row", Value.bytes (rowOf r) tr), (Str.ofString "marks", Value.ref ma), (Str.ofString "taken", Value.ref ta), (Str.ofString "first", Value.bytes (rowOf bs) tf), (Str.ofString "met", Value.ref M), (Str.ofString "fallen", Value.int (fallN n bs : Nat) tfa), (Str.ofString "due", Value.ref U)] s') (fun qk hqk => wpG_of_any ?_) ?_
      · k_steps
        unfold Stop
        rename News _ _ _ _ => N1
        rename Fr _ _ _ _ => F1
        refine c_heights w _ (rowOf r) _ (2 * n) (by lia) (by lia) (upB r) (fun i hi => row_up (by lia)) _ _ _ _ _ _ _ _ _ _ _ _ _ _ _ _ _ _ _ _ _ _ K0 F1 KX N1 T rfl (by decide) (by decide) ?_
        intro B us2 cB h20 tk20 hus2 F2 N2 lB
        clear F1 N1
        k_steps
        rename News _ _ _ _ => N9
        rename Fr _ _ _ _ => F9
        exact hqk _ ⟨B, us2, cB, hus2, mid_intro F9 N9 (by walk_at "mine perm") (List.forall_mem_cons.mpr ⟨rfl, List.forall_mem_cons.mpr ⟨rfl, List.forall_mem_cons.mpr ⟨rfl, List.forall_mem_cons.mpr ⟨rfl, List.forall_mem_cons.mpr ⟨rfl, List.forall_mem_cons.mpr ⟨rfl, List.forall_mem_cons.mpr ⟨rfl, List.forall_mem_cons.mpr ⟨rfl, List.forall_mem_cons.mpr ⟨rfl, fun _ h => nomatch h⟩⟩⟩⟩⟩⟩⟩⟩⟩)⟩
      k_drop
      rintro s' ⟨B, us2, cB, hus2, h20, tk20, m20, rfl, F, N⟩
      refine cutQ (fun s' => ∃ twd, Mid s₁.heap s₁.heap.objs.size s₁ [(B, W.listOf us2.toArray cB), (ma, W.listOf um.toArray cm), (ta, W.listOf ut.toArray ct), (U, W.listOf uds.toArray c6), (M, W.listOf (mts.map fun e => Value.str e.1 e.2).toArray cnt), (s₁.heap.objs.size + 1, oS), (I, io)] [(Str.ofString "words", Value.str (ascii (rowOf r)) twd), (Str.ofString "begun", Value.ref B), (Str.ofString "turn", Value.int (0 + (i : Int) * 1) t), (Str.ofString "row", Value.bytes (rowOf r) tr), (Str.ofString "marks", Value.ref ma), (Str.ofString "taken", Value.ref ta), (Str.ofString "first", Value.bytes (rowOf bs) tf), (Str.ofString "met", Value.ref M), (Str.ofString "fallen", Value.int (fallN n bs : Nat) tfa), (Str.ofString "due", Value.ref U)] s') (fun qk hqk => wpG_of_any ?_) ?_
      · k_steps
        refine decode_ascii (row_low _) (by lia) (by lia) ?_
        intro twd tk21
        k_steps
        rename News _ _ _ _ => N9
        rename Fr _ _ _ _ => F9
        exact hqk _ ⟨twd, mid_intro F9 N9 (by walk_at "mine perm") (List.forall_mem_cons.mpr ⟨rfl, List.forall_mem_cons.mpr ⟨rfl, List.forall_mem_cons.mpr ⟨rfl, List.forall_mem_cons.mpr ⟨rfl, List.forall_mem_cons.mpr ⟨rfl, List.forall_mem_cons.mpr ⟨rfl, List.forall_mem_cons.mpr ⟨rfl, List.forall_mem_cons.mpr ⟨rfl, List.forall_mem_cons.mpr ⟨rfl, List.forall_mem_cons.mpr ⟨rfl, fun _ h => nomatch h⟩⟩⟩⟩⟩⟩⟩⟩⟩⟩)⟩
      clear F N
      rintro s' ⟨twd, h21, tk21, m21, rfl, F, N⟩
      refine cutQ (fun s' => ∃ H cH, (∀ p ∈ [(B, W.listOf us2.toArray cB), (ma, W.listOf um.toArray cm), (ta, W.listOf ut.toArray ct), (U, W.listOf uds.toArray c6), (M, W.listOf (mts.map fun e => Value.str e.1 e.2).toArray cnt), (s₁.heap.objs.size + 1, oS), (I, io)], p.1 < H) ∧ Mid s₁.heap s₁.heap.objs.size s₁ [(H, W.listOf ([] : List Value).toArray cH), (B, W.listOf us2.toArray cB), (ma, W.listOf um.toArray cm), (ta, W.listOf ut.toArray ct), (U, W.listOf uds.toArray c6), (M, W.listOf (mts.map fun e => Value.str e.1 e.2).toArray cnt), (s₁.heap.objs.size + 1, oS), (I, io)] [(Str.ofString "told", Value.ref H), (Str.ofString "words", Value.str (ascii (rowOf r)) twd), (Str.ofString "begun", Value.ref B), (Str.ofString "turn", Value.int (0 + (i : Int) * 1) t), (Str.ofString "row", Value.bytes (rowOf r) tr), (Str.ofString "marks", Value.ref ma), (Str.ofString "taken", Value.ref ta), (Str.ofString "first", Value.bytes (rowOf bs) tf), (Str.ofString "met", Value.ref M), (Str.ofString "fallen", Value.int (fallN n bs : Nat) tfa), (Str.ofString "due", Value.ref U)] s') (fun qk hqk => wpG_of_any ?_) ?_
      · k_steps
        rename (B < _ ∧ _ < _ ∧ _) => l9
        rename News _ _ _ _ => N9
        rename Fr _ _ _ _ => F9
        exact hqk _ ⟨_, 0, (List.forall_mem_cons.mpr ⟨l9.1, List.forall_mem_cons.mpr ⟨l9.2.1, List.forall_mem_cons.mpr ⟨l9.2.2.1, List.forall_mem_cons.mpr ⟨l9.2.2.2.1, List.forall_mem_cons.mpr ⟨l9.2.2.2.2.1, List.forall_mem_cons.mpr ⟨l9.2.2.2.2.2.1, List.forall_mem_cons.mpr ⟨l9.2.2.2.2.2.2, fun _ h => nomatch h⟩⟩⟩⟩⟩⟩⟩), mid_intro F9 N9 (by walk_at "mine perm") (List.forall_mem_cons.mpr ⟨rfl, List.forall_mem_cons.mpr ⟨rfl, List.forall_mem_cons.mpr ⟨rfl, List.forall_mem_cons.mpr ⟨rfl, List.forall_mem_cons.mpr ⟨rfl, List.forall_mem_cons.mpr ⟨rfl, List.forall_mem_cons.mpr ⟨rfl, List.forall_mem_cons.mpr ⟨rfl, List.forall_mem_cons.mpr ⟨rfl, List.forall_mem_cons.mpr ⟨rfl, List.forall_mem_cons.mpr ⟨rfl, fun _ h => nomatch h⟩⟩⟩⟩⟩⟩⟩⟩⟩⟩⟩)⟩
      clear F N
      rintro s' ⟨H, cH, lH, h22, tk22, m22, rfl, F, N⟩
      refine cutQ (fun s' => ∃ c : TSt, c.ents.map (·.b) = told n r ∧ (∀ e ∈ c.ents, e.T ≠ H) ∧ Mid s₁.heap s₁.heap.objs.size s₁ (TLed H [(B, W.listOf us2.toArray cB), (ma, W.listOf um.toArray cm), (ta, W.listOf ut.toArray ct), (U, W.listOf uds.toArray c6), (M, W.listOf (mts.map fun e => Value.str e.1 e.2).toArray cnt), (s₁.heap.objs.size + 1, oS), (I, io)] c) [(Str.ofString "told", Value.ref H), (Str.ofString "words", Value.str (ascii (rowOf r)) twd), (Str.ofString "begun", Value.ref B), (Str.ofString "turn", Value.int (0 + (i : Int) * 1) t), (Str.ofString "row", Value.bytes (rowOf r) tr), (Str.ofString "marks", Value.ref ma), (Str.ofString "taken", Value.ref ta), (Str.ofString "first", Value.bytes (rowOf bs) tf), (Str.ofString "met", Value.ref M), (Str.ofString "fallen", Value.int (fallN n bs : Nat) tfa), (Str.ofString "due", Value.ref U)] s') (fun qk hqk => wpG_of_any ?_) ?_
      · k_steps
        unfold Stop
        rename IsRange _ _ _ _ _ _ _ _ => hR
        rename News _ _ _ _ => N1
        rename Fr _ _ _ _ => F1
        refine range_grow (n := n) (TLed H [(B, W.listOf us2.toArray cB), (ma, W.listOf um.toArray cm), (ta, W.listOf ut.toArray ct), (U, W.listOf uds.toArray c6), (M, W.listOf (mts.map fun e => Value.str e.1 e.2).toArray cnt), (s₁.heap.objs.size + 1, oS), (I, io)]) (fun c => []) ["one"] (fun i c => c.ents.map (·.b) = (List.range i).map (toldAt n r) ∧ c.ents.length = i ∧ ∀ e ∈ c.ents, e.T ≠ H) ⟨[], cH⟩ rfl hR ?_ ?_ F1 (newsSub N1 (by walk_at "mine perm")) (fun _ h => nomatch h) ⟨rfl, rfl, fun _ h => nomatch h⟩ ?_ ?_
        · exact small_of (by decide) (by decide) (by lia) (by lia) (by decide) (by decide)
        · have := rangeSize_one (a := 1) (n := n)
          rw [Int.add_comm] at this
          exact this
        · rintro ⟨ents, cT⟩ j tj uj hj tkj J jo hj hoffJ ⟨hP1, hP2, hP3⟩ F3 N3
          dsimp only [TLed] at F3 N3 hP1 hP2 hP3 hoffJ ⊢
          clear hR F1 N1
          simp only [List.cons_append, List.append_assoc, List.nil_append] at N3
          generalize hled : ents.map TEnt.cell = led at N3 hoffJ
          have N4 := newsSub (l' := (H, W.listOf (ents.map fun e => Value.ref e.T).toArray cT) :: (J, jo) :: (B, W.listOf us2.toArray cB) :: (ma, W.listOf um.toArray cm) :: (ta, W.listOf ut.toArray ct) :: (U, W.listOf uds.toArray c6) :: (M, W.listOf (mts.map fun e => Value.str e.1 e.2).toArray cnt) :: (s₁.heap.objs.size + 1, oS) :: (I, io) :: led) N3 (by walk_at "mine perm")
          clear N3
          k_steps
          unfold Stop
          rename News _ _ _ _ => N1
          rename Fr _ _ _ _ => F1
          repeat (with_reducible rename ((_ : Int) < 0 → _) => zz; clear zz)
          repeat (with_reducible rename ((0 : Int) ≤ _ → _) => zz; clear zz)
          obtain ⟨w1, w2, w3, w4, w5⟩ := want_ok hn hj
          have hal : (ascii (rowOf r)).length = 8 * n := by rw [ascii_len]; lia
          refine c_ell w _ (wantOf n j) (ascii (rowOf r)) (Str.ofString "&") (Str.ofString ";") (midOf n (j + 1)) _ _ w1 w2 (by lia) w3 rfl rfl (row_start hrow) (row_end hrow) (by lia) w4 w5 _ _ _ _ _ _ _ _ _ _ _ _ _ _ _ _ _ _ _ _ _ _ K0 F1 KX N1 T rfl (by decide) (by decide) ?_
          intro tb0 hj2 tkj2 F4 N4
          rw [show (ellRun (ascii (rowOf r)) (((ascii (rowOf r)).length : Int) - 1) (midOf n (j + 1)) 1).isSome = toldAt n r j by rw [hal, toldAt]; push_cast; rfl]
          generalize htb : toldAt n r j = tb
          clear F1 N1
          k_steps
          rename News _ _ _ _ => N6
          rename Fr _ _ _ _ => F7
          rename (H < _ ∧ _) => l9
          obtain ⟨D', eD'⟩ := nameHead N6
          subst eD'
          have N7 := newsSub (l' := (H, W.listOf (ents.map fun e => Value.ref e.T).toArray cT) :: (D', { cls := .type "tuple", data := .seq #[.bool (tb == true), .bool (tb == false)] }) :: (J, jo) :: (B, W.listOf us2.toArray cB) :: (ma, W.listOf um.toArray cm) :: (ta, W.listOf ut.toArray ct) :: (U, W.listOf uds.toArray c6) :: (M, W.listOf (mts.map fun e => Value.str e.1 e.2).toArray cnt) :: (s₁.heap.objs.size + 1, oS) :: (I, io) :: led) N6 (by walk_at "mine perm")
          clear N6
          refine append_K F7 N7 (.head (List.forall_mem_cons.mpr ⟨Nat.ne_of_gt l9.1, List.forall_mem_cons.mpr ⟨Ne.symm (hoffJ _ (.head _)), List.forall_mem_cons.mpr ⟨Nat.ne_of_lt (lH _ (.head _)), List.forall_mem_cons.mpr ⟨Nat.ne_of_lt (lH _ (.tail _ (.head _))), List.forall_mem_cons.mpr ⟨Nat.ne_of_lt (lH _ (.tail _ (.tail _ (.head _)))), List.forall_mem_cons.mpr ⟨Nat.ne_of_lt (lH _ (.tail _ (.tail _ (.tail _ (.head _))))), List.forall_mem_cons.mpr ⟨Nat.ne_of_lt (lH _ (.tail _ (.tail _ (.tail _ (.tail _ (.head _)))))), List.forall_mem_cons.mpr ⟨Nat.ne_of_lt (lH _ (.tail _ (.tail _ (.tail _ (.tail _ (.tail _ (.head _))))))), List.forall_mem_cons.mpr ⟨Nat.ne_of_lt (lH _ (.tail _ (.tail _ (.tail _ (.tail _ (.tail _ (.tail _ (.head _)))))))), fun p hp => (by rw [← hled] at hp; obtain ⟨e, he, rfl⟩ := List.mem_map.mp hp; exact hP3 e he)⟩⟩⟩⟩⟩⟩⟩⟩⟩)) ?_ (by rw [List.size_toArray, List.length_map, sizeLine_eq]; lia)
          intro hj3 F8 N8
          clear F7 N7
          k_steps
          rename News _ _ _ _ => N9
          rename Fr _ _ _ _ => F9
          rw [List.push_toArray] at N9
          refine grow_end ⟨ents ++ [⟨D', tb⟩], cT + 1⟩ F9 ?_ ?_ (fun _ h => nomatch h) ?_ ⟨?_, ?_, ?_⟩
          · simp only [TLed, List.map_append, List.map_cons, List.map_nil]
            rw [← hled] at N9
            exact newsSub N9 (by walk_at "mine perm")
          · refine List.forall_mem_cons.mpr ⟨hoffJ (H, W.listOf (ents.map fun e => Value.ref e.T).toArray cT) (.head _), List.forall_mem_append.mpr ⟨fun p hp => hoffJ p (.tail _ (List.mem_append_left _ hp)), ?_⟩⟩
            rw [List.map_append]
            exact List.forall_mem_append.mpr ⟨fun p hp => hoffJ p (.tail _ (List.mem_append_right _ (hled ▸ hp))), List.forall_mem_cons.mpr ⟨Nat.ne_of_gt l9.2.1, fun _ h => nomatch h⟩⟩
          · intro z h1 _ h3
            simp only [List.contains_cons, List.contains_nil, Bool.or_false, beq_eq_false_iff_ne, ne_eq] at h3
            simp [kstB, h1, h3]
          · rw [List.map_append, hP1, List.range_succ, List.map_append, List.map_cons, List.map_nil, List.map_cons, List.map_nil, htb]
          · rw [List.length_append, hP2]; rfl
          · exact List.forall_mem_append.mpr ⟨hP3, List.forall_mem_cons.mpr ⟨Nat.ne_of_gt l9.1, fun _ h => nomatch h⟩⟩
        · rintro ⟨ents, cT⟩ uj hj tkj ⟨hP1, hP2, hP3⟩ F3 N3
          dsimp only [TLed] at F3 N3 hP1 hP2 hP3 ⊢
          exact hqk _ ⟨⟨ents, cT⟩, hP1, hP3, mid_intro F3 N3 (fun p hp => hp) (List.forall_mem_cons.mpr ⟨rfl, List.forall_mem_cons.mpr ⟨rfl, List.forall_mem_cons.mpr ⟨rfl, List.forall_mem_cons.mpr ⟨rfl, List.forall_mem_cons.mpr ⟨rfl, List.forall_mem_cons.mpr ⟨rfl, List.forall_mem_cons.mpr ⟨rfl, List.forall_mem_cons.mpr ⟨rfl, List.forall_mem_cons.mpr ⟨rfl, List.forall_mem_cons.mpr ⟨rfl, List.forall_mem_cons.mpr ⟨rfl, fun _ h => nomatch h⟩⟩⟩⟩⟩⟩⟩⟩⟩⟩⟩)⟩
      clear F N
      rintro s' ⟨⟨ents, cT⟩, hP1, hP3, h23, tk23, m23, rfl, F, N⟩
      dsimp only [TLed] at F N hP1 hP3
      refine cutQ (Mid s₁.heap s₁.heap.objs.size s₁ [(B, W.listOf us2.toArray cB), (ma, W.listOf um.toArray cm), (ta, W.listOf ut.toArray ct), (U, W.listOf uds.toArray c6), (M, W.listOf (mts.map fun e => Value.str e.1 e.2).toArray cnt), (s₁.heap.objs.size + 1, oS), (I, io)] [(Str.ofString "begun", Value.ref B), (Str.ofString "turn", Value.int (0 + (i : Int) * 1) t), (Str.ofString "row", Value.bytes (rowOf r) tr), (Str.ofString "marks", Value.ref ma), (Str.ofString "taken", Value.ref ta), (Str.ofString "first", Value.bytes (rowOf bs) tf), (Str.ofString "met", Value.ref M), (Str.ofString "fallen", Value.int (fallN n bs : Nat) tfa), (Str.ofString "due", Value.ref U)]) (fun qk hqk => wpG_of_any ?_) ?_
      · rw [row_told hrow] at hP1
        have hbl := row_beg hrow
        generalize begB n r = BL at hus2 hP1 hbl
        simp only [List.cons_append, List.nil_append] at N
        generalize hled : ents.map TEnt.cell = led at N
        k_steps
        unfold Stop
        refine' LCg.ListComp_U (F₀ := by assumption) ?g1 ?g2 ?g3 ?g4 ?g5 ?g6 ?g7
        case g7 => intro _; rfl
        case g1 => rfl
        case g2 => decide
        case g3 => rfl
        case g4 => decide
        case g5 => rfl
        k_steps
        unfold Stop
        rename News _ _ _ _ => N1
        rename Fr _ _ _ _ => F1
        refine LCg.CompSrc.ledger (by rfl) F1 N1 (.tail _ (.head _)) (by rw [List.size_toArray, hus2.length, sizeLine_eq]; lia) ?_
        intro g'
        obtain ⟨base, hbase⟩ := nameNews N1
        rw [← hbase]
        have hB : (B, W.listOf us2.toArray cB) ∈ base := by rw [hbase]; exact .tail _ (.head _)
        refine rest_my (fun c : List CEnt => c.map fun e => Value.ref e.T) (fun c => c.map CEnt.cell ++ base) (fun i c => c.map (fun e => (e.a, e.b)) = (BL.take i).map fun h => (decide (0 ≤ h), decide (h < 0))) [] rfl rfl rfl ?_ ?_
        · intro c j v J oJ C oC D2 m₂ hj tkj E' hj2 hc hv hC hx F3 N3 off ne
          have hvi : ∃ x t, v = .int x t ∧ BL[j]? = some x := ints_at hus2 (by simpa using hv)
          obtain ⟨x, tx, rfl, hxi⟩ := hvi
          clear hv
          generalize hled : c.map CEnt.cell ++ base = led at N3 off
          k_steps
          rename News _ _ _ _ => NN
          rename Fr _ _ _ _ => FF
          rename (J < _ ∧ C < _ ∧ D2 < _ ∧ _) => l9
          obtain ⟨D', eD'⟩ := nameHead NN
          subst eD'
          have ho := off.mem
          rw [← hled] at NN ho
          refine LCg.CompEnd.intro FF NN ((c ++ [(⟨D', decide (0 ≤ x), decide (x < 0)⟩ : CEnt)]).map CEnt.cell ++ base) ?_ ?_ (.inr ⟨_, List.mem_append_right _ hB, rfl, _, rfl⟩) ⟨c ++ [⟨D', decide (0 ≤ x), decide (x < 0)⟩], ?_, by rw [List.map_append]; rfl, rfl⟩
          · simp only [List.map_append, List.map_cons, List.map_nil, List.append_assoc, List.cons_append, List.nil_append]
            walk_at "mine perm"
          · refine off3_of ?_
            simp only [List.map_append, List.map_cons, List.map_nil, List.append_assoc, List.cons_append, List.nil_append]
            exact List.forall_mem_append.mpr ⟨fun p hp => ho p (List.mem_append_left _ hp), List.forall_mem_cons.mpr ⟨⟨Nat.ne_of_gt l9.1, Nat.ne_of_gt l9.2.1, Nat.ne_of_gt l9.2.2.1⟩, fun p hp => ho p (List.mem_append_right _ hp)⟩⟩
          · rw [List.map_append, hc, List.take_add_one, hxi, List.map_append]
            rfl
        · intro c hc
          intro D2 h9 tk9 F3 N3 off
          rw [hbase] at N3
          clear F1 N1
          k_steps
          unfold Stop
          rename News _ _ _ _ => N4
          have e9 : us2.toArray.size = BL.length := by rw [List.size_toArray, hus2.length]
          rw [e9, List.take_length] at hc
          refine ne_tups (ca := cT) (la := ents.map fun e => ⟨e.T, e.b == true, e.b == false⟩) (lb := c) N4 ?_ (.head _) ?_ (fun e he => .tail _ (List.mem_append_left _ (List.mem_map_of_mem he))) ?_ hc (by ke_room) ?_
          · rw [List.map_map]
            show (H, W.listOf (List.map (fun e : TEnt => Value.ref e.T) ents).toArray cT) ∈ _
            walk_at "mine mem"
          · intro e he
            obtain ⟨e', he', rfl⟩ := List.mem_map.mp he
            have hm : TEnt.cell e' ∈ led := hled ▸ List.mem_map_of_mem he'
            show TEnt.cell e' ∈ _
            walk_at "mine mem"
          · rw [List.map_map]
            have q := congrArg (List.map fun b : Bool => (b == true, b == false)) hP1
            rw [List.map_map, List.map_map] at q
            refine q.trans (List.map_congr_left fun h _ => ?_)
            show (decide (0 ≤ h) == true, decide (0 ≤ h) == false) = _
            by_cases h0 : 0 ≤ h
            · rw [decide_eq_true h0, decide_eq_false (by lia)]; rfl
            · rw [decide_eq_false h0, decide_eq_true (by lia)]; rfl
          k_steps
          rename News _ _ _ _ => N9
          rename Fr _ _ _ _ => F9
          exact hqk _ (mid_intro F9 N9 (by walk_at "mine perm") (List.forall_mem_cons.mpr ⟨rfl, List.forall_mem_cons.mpr ⟨rfl, List.forall_mem_cons.mpr ⟨rfl, List.forall_mem_cons.mpr ⟨rfl, List.forall_mem_cons.mpr ⟨rfl, List.forall_mem_cons.mpr ⟨rfl, List.forall_mem_cons.mpr ⟨rfl, List.forall_mem_cons.mpr ⟨rfl, List.forall_mem_cons.mpr ⟨rfl, fun _ h => nomatch h⟩⟩⟩⟩⟩⟩⟩⟩⟩))
      clear F N
      rintro s' ⟨h24, tk24, m24, rfl, F, N⟩
      clear hP1 hP3
      refine cutQ (Mid s₁.heap s₁.heap.objs.size s₁ [(ma, W.listOf um.toArray cm), (ta, W.listOf ut.toArray ct), (U, W.listOf uds.toArray c6), (M, W.listOf (mts.map fun e => Value.str e.1 e.2).toArray cnt), (s₁.heap.objs.size + 1, oS), (I, io)] [(Str.ofString "turn", Value.int (0 + (i : Int) * 1) t), (Str.ofString "row", Value.bytes (rowOf r) tr), (Str.ofString "marks", Value.ref ma), (Str.ofString "taken", Value.ref ta), (Str.ofString "first", Value.bytes (rowOf bs) tf), (Str.ofString "met", Value.ref M), (Str.ofString "fallen", Value.int (fallN n bs : Nat) tfa), (Str.ofString "due", Value.ref U)]) (fun qk hqk => wpG_of_any ?_) ?_
      · clear hstep g2 g3 hI1 hI2 om ot nmt im it hoff hml lw2 lw3 hrows hud hus lZ hums
        have hbl2 := row_beg hrow
        clear hrow
        have g1' : ((begB n r).filter fun h => decide (h < 0)).length = i := g1
        clear g1
        generalize begB n r = BL at hus2 hbl2 g1'
        obtain ⟨base, hbase⟩ : ∃ b, b = [(ma, W.listOf um.toArray cm), (ta, W.listOf ut.toArray ct), (U, W.listOf uds.toArray c6), (M, W.listOf (mts.map fun e => Value.str e.1 e.2).toArray cnt), (s₁.heap.objs.size + 1, oS), (I, io)] := ⟨_, rfl⟩
        rw [← hbase] at N
        k_steps
        unfold Stop
        refine LCt.ListComp_T (F₀ := by k_asm) (by with_unfolding_all rfl) (by decide) (by rfl) (by decide) (by rfl) ?_
        k_steps
        unfold Stop
        rename News _ _ _ _ => N3
        rename Fr _ _ _ _ => F3
        refine LCt.CompSrcT.ledger (by rfl) F3 N3 (.head _) (by rw [List.size_toArray, hus2.length, sizeLine_eq]; rw [hbl2]; lia) ?_
        intro g'
        refine' kci_list (fun l k => if k < 0 then l ++ [k] else l) hus2 (fun k' t' I' oI' C' oC' D' m' ys' l' h' tk' E' hk' hy' hC' hx' F' N' off' ne' => ?_) ?_ ?_
        · have offc := off'
          (try (simp only [LCg.Off3, and_true] at off'))
          intro hMark'
          k_steps
          · rename (k' < 0) => hk0
            rw [if_pos hk0]
            refine LCg.CompEnd.intro F' N' _ (fun p hp => hp) offc (.inr ⟨_, .head _, rfl, _, rfl⟩) ?_
            exact ⟨rfl, k', t', rfl, rfl⟩
          · rename (¬ k' < 0) => hk0
            rw [if_neg hk0]
            exact LCg.CompEnd.intro F' N' _ (fun p hp => hp) offc (.inr ⟨_, .head _, rfl, _, rfl⟩) ⟨rfl, rfl⟩
        · unfold KPfDone
          intro ys hys hyl
          rw [fold_neg] at hys
          have hyl2 := hys.length
          have hNl : (BL.filter fun h => decide (h < 0)).length = i := g1'
          rw [hNl] at hyl2
          intro D2 h11 tk11 F4 N4 off4
          clear F3 N3
          refine Stop.out ?_
          unfold Stop
          k_steps
          unfold Stop
          rename News _ _ _ _ => N5
          have e5 : ys.toArray.size = i := by rw [List.size_toArray, hyl2]
          refine len_list (list_mem N5 (.head _)) (by rw [e5]; lia) ?_
          rw [e5]
          k_steps
          · exfalso
            lia
          rename News _ _ _ _ => N9
          rename Fr _ _ _ _ => F9
          rw [hbase] at N9
          exact hqk _ (mid_intro F9 N9 (by walk_at "mine perm") (List.forall_mem_cons.mpr ⟨rfl, List.forall_mem_cons.mpr ⟨rfl, List.forall_mem_cons.mpr ⟨rfl, List.forall_mem_cons.mpr ⟨rfl, List.forall_mem_cons.mpr ⟨rfl, List.forall_mem_cons.mpr ⟨rfl, List.forall_mem_cons.mpr ⟨rfl, List.forall_mem_cons.mpr ⟨rfl, fun _ h => nomatch h⟩⟩⟩⟩⟩⟩⟩⟩))
        · intro l k
          dsimp only
          split <;> simp
      clear F N
      rintro s' ⟨h25, tk25, m25, rfl, F, N⟩
      refine cutQ (fun s' => ∃ Pm pms pcnt th2 tr2, List.map (fun e : Str × Tok => e.1) pms = (plA n r).met ∧ Mid s₁.heap s₁.heap.objs.size s₁ [(Pm, W.listOf (pms.map fun e => Value.str e.1 e.2).toArray pcnt), (ma, W.listOf um.toArray cm), (ta, W.listOf ut.toArray ct), (U, W.listOf uds.toArray c6), (M, W.listOf (mts.map fun e => Value.str e.1 e.2).toArray cnt), (s₁.heap.objs.size + 1, oS), (I, io)] [(Str.ofString "home", Value.int (plA n r).home th2), (Str.ofString "place", Value.int (plA n r).rise tr2), (Str.ofString "pairs", Value.ref Pm), (Str.ofString "turn", Value.int (0 + (i : Int) * 1) t), (Str.ofString "row", Value.bytes (rowOf r) tr), (Str.ofString "marks", Value.ref ma), (Str.ofString "taken", Value.ref ta), (Str.ofString "first", Value.bytes (rowOf bs) tf), (Str.ofString "met", Value.ref M), (Str.ofString "fallen", Value.int (fallN n bs : Nat) tfa), (Str.ofString "due", Value.ref U)] s') (fun qk hqk => wpG_of_any ?_) ?_
      · k_steps
        unfold Stop
        rename News _ _ _ _ => N1
        rename Fr _ _ _ _ => F1
        refine c_places w _ (rowOf r) _ _ (Str.ofString "abcdefgh") (2 * n) (by lia) (by lia) (upB r) (fun i hi => row_pc (by lia)) (by show 2 * n ≤ 8; lia) (letA_ok (by lia)) _ _ _ _ _ _ _ _ _ _ _ _ _ _ _ _ _ _ _ _ _ _ K0 F1 KX N1 T rfl (by decide) (by decide) ?_
        intro T7 Pm t1 t2 pms pcnt h7 tk7 hpm F7 N7 lD lT
        clear F1 N1
        rw [show (plRun (upB r) (fun i => Txt.item (Str.ofString "abcdefgh") (i : Int)) (2 * n)) = plA n r from rfl] at N7 hpm
        k_steps
        rename News _ _ _ _ => N9
        rename Fr _ _ _ _ => F9
        exact hqk _ ⟨Pm, pms, pcnt, _, _, hpm, mid_intro F9 N9 (by walk_at "mine perm") (List.forall_mem_cons.mpr ⟨rfl, List.forall_mem_cons.mpr ⟨rfl, List.forall_mem_cons.mpr ⟨rfl, List.forall_mem_cons.mpr ⟨rfl, List.forall_mem_cons.mpr ⟨rfl, List.forall_mem_cons.mpr ⟨rfl, List.forall_mem_cons.mpr ⟨rfl, List.forall_mem_cons.mpr ⟨rfl, List.forall_mem_cons.mpr ⟨rfl, List.forall_mem_cons.mpr ⟨rfl, List.forall_mem_cons.mpr ⟨rfl, fun _ h => nomatch h⟩⟩⟩⟩⟩⟩⟩⟩⟩⟩⟩)⟩
      clear F N
      rintro s' ⟨Pm, pms, pcnt, th2, tr2, hpm, h26, tk26, m26, rfl, F, N⟩
      refine cutQ (Mid s₁.heap s₁.heap.objs.size s₁ [(ma, W.listOf um.toArray cm), (ta, W.listOf ut.toArray ct), (U, W.listOf uds.toArray c6), (M, W.listOf (mts.map fun e => Value.str e.1 e.2).toArray cnt), (s₁.heap.objs.size + 1, oS), (I, io)] [(Str.ofString "place", Value.int (plA n r).rise tr2), (Str.ofString "turn", Value.int (0 + (i : Int) * 1) t), (Str.ofString "row", Value.bytes (rowOf r) tr), (Str.ofString "marks", Value.ref ma), (Str.ofString "taken", Value.ref ta), (Str.ofString "first", Value.bytes (rowOf bs) tf), (Str.ofString "met", Value.ref M), (Str.ofString "fallen", Value.int (fallN n bs : Nat) tfa), (Str.ofString "due", Value.ref U)]) (fun qk hqk => wpG_of_any ?_) ?_
      · generalize hri : (plA n r).rise = ri at *
        obtain ⟨base, hbase⟩ : ∃ b, b = [(s₁.heap.objs.size + 1, oS), (I, io)] := ⟨_, rfl⟩
        k_steps
        · rename ((0 + (i : Int) * 1 : Int) = _) => hq
          obtain ⟨q1, q2⟩ := g2 (by lia)
          exfalso
          subst q1
          exact absurd ‹((rowOf r).toList != (rowOf r).toList) = true› (by simp)
        · unfold Stop
          rename ((0 + (i : Int) * 1 : Int) = _) => hq
          obtain ⟨q1, q2⟩ := g2 (by lia)
          obtain ⟨o1, o2⟩ := row_met hrow
          rename News _ _ _ _ => N3
          refine ne_strs N3 (.head _) (by walk_at "mine mem") (strs_are pms) (strs_are mts) (by rw [hpm]; exact o1) (by rw [hmet, ← q2]; exact o1) (by ke_room) ?_
          rw [hpm, hmet, q2, decide_eq_true rfl]
          k_steps
          rename News _ _ _ _ => N9
          rename Fr _ _ _ _ => F9
          exact hqk _ (mid_intro F9 N9 (by walk_at "mine perm") (List.forall_mem_cons.mpr ⟨rfl, List.forall_mem_cons.mpr ⟨rfl, List.forall_mem_cons.mpr ⟨rfl, List.forall_mem_cons.mpr ⟨rfl, List.forall_mem_cons.mpr ⟨rfl, List.forall_mem_cons.mpr ⟨rfl, List.forall_mem_cons.mpr ⟨rfl, List.forall_mem_cons.mpr ⟨rfl, List.forall_mem_cons.mpr ⟨rfl, fun _ h => nomatch h⟩⟩⟩⟩⟩⟩⟩⟩⟩))
        · rename News _ _ _ _ => N9
          rename Fr _ _ _ _ => F9
          exact hqk _ (mid_intro F9 N9 (by walk_at "mine perm") (List.forall_mem_cons.mpr ⟨rfl, List.forall_mem_cons.mpr ⟨rfl, List.forall_mem_cons.mpr ⟨rfl, List.forall_mem_cons.mpr ⟨rfl, List.forall_mem_cons.mpr ⟨rfl, List.forall_mem_cons.mpr ⟨rfl, List.forall_mem_cons.mpr ⟨rfl, List.forall_mem_cons.mpr ⟨rfl, List.forall_mem_cons.mpr ⟨rfl, fun _ h => nomatch h⟩⟩⟩⟩⟩⟩⟩⟩⟩))
      clear F N
      rintro s' ⟨h27, tk27, m27, rfl, F, N⟩
      refine cutQ (Mid s₁.heap s₁.heap.objs.size s₁ [(ma, W.listOf um.toArray cm), (ta, W.listOf ut.toArray ct), (U, W.listOf uds.toArray c6), (M, W.listOf (mts.map fun e => Value.str e.1 e.2).toArray cnt), (s₁.heap.objs.size + 1, oS), (I, io)] [(Str.ofString "place", Value.int (plA n r).rise tr2), (Str.ofString "turn", Value.int (0 + (i : Int) * 1) t), (Str.ofString "row", Value.bytes (rowOf r) tr), (Str.ofString "marks", Value.ref ma), (Str.ofString "taken", Value.ref ta), (Str.ofString "first", Value.bytes (rowOf bs) tf), (Str.ofString "met", Value.ref M), (Str.ofString "fallen", Value.int (fallN n bs : Nat) tfa), (Str.ofString "due", Value.ref U)]) (fun qk hqk => wpG_of_any ?_) ?_
      · generalize hri : (plA n r).rise = ri at *
        k_steps
        · exfalso
          rename ((decide (ri < 0) != _) = true) => hb
          have e : decide (ri < 0) = ((0 + (i : Int) * 1) == (n : Int)) := by
            rw [Bool.eq_iff_iff, decide_eq_true_iff, beq_iff_eq, show ri < 0 ↔ i = n from g3]
            lia
          rw [e] at hb
          simp at hb
        · rename News _ _ _ _ => N9
          rename Fr _ _ _ _ => F9
          exact hqk _ (mid_intro F9 N9 (by walk_at "mine perm") (List.forall_mem_cons.mpr ⟨rfl, List.forall_mem_cons.mpr ⟨rfl, List.forall_mem_cons.mpr ⟨rfl, List.forall_mem_cons.mpr ⟨rfl, List.forall_mem_cons.mpr ⟨rfl, List.forall_mem_cons.mpr ⟨rfl, List.forall_mem_cons.mpr ⟨rfl, List.forall_mem_cons.mpr ⟨rfl, List.forall_mem_cons.mpr ⟨rfl, fun _ h => nomatch h⟩⟩⟩⟩⟩⟩⟩⟩⟩))
      clear F N
      rintro s' ⟨h28, tk28, m28, rfl, F, N⟩
      by_cases hr0 : (plA n r).rise < 0
      · have hst : step2 n ⟨r, mk, tkn⟩ = ⟨r, mk, tkn⟩ := by rw [step2, if_pos hr0]
        rw [hst] at hstep
        generalize (plA n r).rise = ri at *
        refine G_execs_cons (G_If ?_)
        k_steps
        refine G_execs_nil ?_
        refine G_execs_nil ?_
        rename News _ _ _ _ => N9
        rename Fr _ _ _ _ => F9
        exact ⟨⟨ma, um, cm, ta, ut, ct, tr, ⟨r, mk, tkn⟩⟩, ⟨hstep.symm, im, it, nmt, om, ot⟩, List.forall_mem_cons.mpr ⟨hI1, List.forall_mem_cons.mpr ⟨hI2, fun p hp => hoff p (.tail _ (.tail _ hp))⟩⟩, mid_intro F9 N9 (by walk_at "mine perm") (List.forall_mem_cons.mpr ⟨rfl, List.forall_mem_cons.mpr ⟨rfl, List.forall_mem_cons.mpr ⟨rfl, List.forall_mem_cons.mpr ⟨rfl, List.forall_mem_cons.mpr ⟨rfl, List.forall_mem_cons.mpr ⟨rfl, List.forall_mem_cons.mpr ⟨rfl, fun _ h => nomatch h⟩⟩⟩⟩⟩⟩⟩)⟩
      · obtain ⟨q1, q2⟩ := row_rise hrow (by lia)
        have hst : step2 n ⟨r, mk, tkn⟩ = ⟨turnB r ((plA n r).rise.toNat / 4), mk.drop ((plA n r).rise.toNat / 4 + 1) ++ [mk.getD ((plA n r).rise.toNat / 4) 0] ++ mk.take ((plA n r).rise.toNat / 4), tkn ++ [mk.getD ((plA n r).rise.toNat / 4) 0]⟩ := by rw [step2, if_neg hr0]
        rw [hst] at hstep
        rw [q1] at F
        generalize (plA n r).rise.toNat / 4 = k at *
        refine G_execs_cons (G_If ?_)
        k_steps
        dsimp only
        refine cutQ (fun s' => ∃ tq, Mid s₁.heap s₁.heap.objs.size s₁ [(ma, W.listOf um.toArray cm), (ta, W.listOf ut.toArray ct), (U, W.listOf uds.toArray c6), (M, W.listOf (mts.map fun e => Value.str e.1 e.2).toArray cnt), (s₁.heap.objs.size + 1, oS), (I, io)] [(Str.ofString "k", Value.int (k : Int) tq), (Str.ofString "place", Value.int (4 * (k : Int)) tr2), (Str.ofString "turn", Value.int (0 + (i : Int) * 1) t), (Str.ofString "row", Value.bytes (rowOf r) tr), (Str.ofString "marks", Value.ref ma), (Str.ofString "taken", Value.ref ta), (Str.ofString "first", Value.bytes (rowOf bs) tf), (Str.ofString "met", Value.ref M), (Str.ofString "fallen", Value.int (fallN n bs : Nat) tfa), (Str.ofString "due", Value.ref U)] s') (fun qk hqk => wpG_of_any ?_) ?_
        · k_steps
          rename News _ _ _ _ => N9
          rename Fr _ _ _ _ => F9
          exact hqk _ ⟨_, mid_intro F9 N9 (by walk_at "mine perm") (List.forall_mem_cons.mpr ⟨congrArg (fun z => some (Value.int z _)) (fdiv4 k), (List.forall_mem_cons.mpr ⟨rfl, List.forall_mem_cons.mpr ⟨rfl, List.forall_mem_cons.mpr ⟨rfl, List.forall_mem_cons.mpr ⟨rfl, List.forall_mem_cons.mpr ⟨rfl, List.forall_mem_cons.mpr ⟨rfl, List.forall_mem_cons.mpr ⟨rfl, List.forall_mem_cons.mpr ⟨rfl, List.forall_mem_cons.mpr ⟨rfl, fun _ h => nomatch h⟩⟩⟩⟩⟩⟩⟩⟩⟩)⟩)⟩
        clear F N
        rintro s' ⟨tq, h29, tk29, m29, rfl, F, N⟩
        refine cutQ (fun s' => ∃ tx, Mid s₁.heap s₁.heap.objs.size s₁ [(ma, W.listOf um.toArray cm), (ta, W.listOf (ut ++ [Value.int (mk.getD k 0) tx]).toArray (ct + 1)), (U, W.listOf uds.toArray c6), (M, W.listOf (mts.map fun e => Value.str e.1 e.2).toArray cnt), (s₁.heap.objs.size + 1, oS), (I, io)] [(Str.ofString "k", Value.int (k : Int) tq), (Str.ofString "place", Value.int (4 * (k : Int)) tr2), (Str.ofString "turn", Value.int (0 + (i : Int) * 1) t), (Str.ofString "row", Value.bytes (rowOf r) tr), (Str.ofString "marks", Value.ref ma), (Str.ofString "taken", Value.ref ta), (Str.ofString "first", Value.bytes (rowOf bs) tf), (Str.ofString "met", Value.ref M), (Str.ofString "fallen", Value.int (fallN n bs : Nat) tfa), (Str.ofString "due", Value.ref U)] s') (fun qk hqk => wpG_of_any ?_) ?_
        · k_steps
          rename News _ _ _ _ => N9
          rename Fr _ _ _ _ => F9
          refine append_K F9 N9 (.tail nmt (.head (List.forall_mem_cons.mpr ⟨ot _ (.head _), List.forall_mem_cons.mpr ⟨ot _ (.tail _ (.head _)), List.forall_mem_cons.mpr ⟨ot _ (.tail _ (.tail _ (.head _))), List.forall_mem_cons.mpr ⟨Ne.symm hI2, fun _ h => nomatch h⟩⟩⟩⟩))) ?_ (by rw [List.size_toArray, it.length, sizeLine_eq]; lia)
          intro h30 F8 N8
          clear F9 N9
          rw [List.push_toArray] at N8
          k_steps
          rename News _ _ _ _ => N9
          rename Fr _ _ _ _ => F9
          exact hqk _ ⟨_, mid_intro F9 N9 (by walk_at "mine perm") (List.forall_mem_cons.mpr ⟨rfl, List.forall_mem_cons.mpr ⟨rfl, List.forall_mem_cons.mpr ⟨rfl, List.forall_mem_cons.mpr ⟨rfl, List.forall_mem_cons.mpr ⟨rfl, List.forall_mem_cons.mpr ⟨rfl, List.forall_mem_cons.mpr ⟨rfl, List.forall_mem_cons.mpr ⟨rfl, List.forall_mem_cons.mpr ⟨rfl, List.forall_mem_cons.mpr ⟨rfl, fun _ h => nomatch h⟩⟩⟩⟩⟩⟩⟩⟩⟩⟩)⟩
        clear F N
        rintro s' ⟨tx, h30, tk30, m30, rfl, F, N⟩
        refine cutQ (fun s' => ∃ Z uz cz, IntsAre uz (mk.drop (k + 1) ++ [mk.getD k 0] ++ mk.take k) ∧ (∀ p ∈ [(ta, W.listOf (ut ++ [Value.int (mk.getD k 0) tx]).toArray (ct + 1)), (U, W.listOf uds.toArray c6), (M, W.listOf (mts.map fun e => Value.str e.1 e.2).toArray cnt), (s₁.heap.objs.size + 1, oS), (I, io)], p.1 < Z) ∧ Mid s₁.heap s₁.heap.objs.size s₁ [(Z, W.listOf uz.toArray cz), (ta, W.listOf (ut ++ [Value.int (mk.getD k 0) tx]).toArray (ct + 1)), (U, W.listOf uds.toArray c6), (M, W.listOf (mts.map fun e => Value.str e.1 e.2).toArray cnt), (s₁.heap.objs.size + 1, oS), (I, io)] [(Str.ofString "k", Value.int (k : Int) tq), (Str.ofString "place", Value.int (4 * (k : Int)) tr2), (Str.ofString "turn", Value.int (0 + (i : Int) * 1) t), (Str.ofString "row", Value.bytes (rowOf r) tr), (Str.ofString "marks", Value.ref Z), (Str.ofString "taken", Value.ref ta), (Str.ofString "first", Value.bytes (rowOf bs) tf), (Str.ofString "met", Value.ref M), (Str.ofString "fallen", Value.int (fallN n bs : Nat) tfa), (Str.ofString "due", Value.ref U)] s') (fun qk hqk => wpG_of_any ?_) ?_
        · clear hrow
          have hul : um.length = 2 * n := by rw [im.length, hml]
          k_steps
          unfold Stop
          rename News _ _ _ _ => N1
          rename Fr _ _ _ _ => F1
          refine kms_slice_lit (s := ⟨_, _, _, _, _⟩) F1 N1 (list_mem N1 (.head _)) (IsPart.int _ _) IsPart.none (pick_from um k (by lia)) ?_ (by with_unfolding_all rfl) (by intro _; with_unfolding_all rfl) (by rw [List.size_toArray, sizeLine_eq]; lia)
          intro D1 h31 F2 N2 l1
          clear F1 N1
          k_steps
          unfold Stop
          rename News _ _ _ _ => N3
          rename Fr _ _ _ _ => F3
          refine kmk_add_lit F3 N3 (list_mem N3 (.tail _ (.head _))) (list_mem N3 (.head _)) rfl ?_ (by show (List.drop (k + 1) um).length + 1 ≤ sizeLine; rw [List.length_drop, sizeLine_eq]; lia)
          intro D2 h32 F4 N4 l2
          clear F3 N3
          k_steps
          unfold Stop
          rename News _ _ _ _ => N5
          rename Fr _ _ _ _ => F5
          refine kms_slice_lit (s := ⟨_, _, _, _, _⟩) F5 N5 (list_mem N5 (by walk_at "mine mem")) IsPart.none (IsPart.int _ _) (pick_to um k (by lia)) ?_ (by with_unfolding_all rfl) (by intro _; with_unfolding_all rfl) (by rw [List.size_toArray, sizeLine_eq]; lia)
          intro D3 h33 F6 N6 l3
          clear F5 N5
          k_steps
          unfold Stop
          rename News _ _ _ _ => N7
          rename Fr _ _ _ _ => F7
          refine kmk_add_lit F7 N7 (list_mem N7 (by walk_at "mine mem")) (list_mem N7 (.head _)) rfl ?_ (by show (List.drop (k + 1) um ++ [_]).length + (List.take k um).length ≤ sizeLine; simp only [List.length_append, List.length_drop, List.length_take, List.length_cons, List.length_nil, sizeLine_eq]; lia)
          intro D4 h34 F8 N8 l4
          clear F7 N7
          k_steps
          rename News _ _ _ _ => N9
          rename Fr _ _ _ _ => F9
          exact hqk _ ⟨D4, _, 0, ((im.drop (k + 1)).append (.cons _ _ .nil)).append (im.take k), fun p hp => l4 p (by revert p; walk_at "mine perm"), mid_intro F9 N9 (by walk_at "mine perm") (List.forall_mem_cons.mpr ⟨rfl, List.forall_mem_cons.mpr ⟨rfl, List.forall_mem_cons.mpr ⟨rfl, List.forall_mem_cons.mpr ⟨rfl, List.forall_mem_cons.mpr ⟨rfl, List.forall_mem_cons.mpr ⟨rfl, List.forall_mem_cons.mpr ⟨rfl, List.forall_mem_cons.mpr ⟨rfl, List.forall_mem_cons.mpr ⟨rfl, List.forall_mem_cons.mpr ⟨rfl, fun _ h => nomatch h⟩⟩⟩⟩⟩⟩⟩⟩⟩⟩)⟩
        clear F N
        rintro s' ⟨Z, uz, cz, iz, lz, h35, tk35, m35, rfl, F, N⟩
        refine cutQ (fun s' => ∃ t9, Mid s₁.heap s₁.heap.objs.size s₁ [(Z, W.listOf uz.toArray cz), (ta, W.listOf (ut ++ [Value.int (mk.getD k 0) tx]).toArray (ct + 1)), (U, W.listOf uds.toArray c6), (M, W.listOf (mts.map fun e => Value.str e.1 e.2).toArray cnt), (s₁.heap.objs.size + 1, oS), (I, io)] [(Str.ofString "turn", Value.int (0 + (i : Int) * 1) t), (Str.ofString "row", Value.bytes (rowOf (turnB r k)) t9), (Str.ofString "marks", Value.ref Z), (Str.ofString "taken", Value.ref ta), (Str.ofString "first", Value.bytes (rowOf bs) tf), (Str.ofString "met", Value.ref M), (Str.ofString "fallen", Value.int (fallN n bs : Nat) tfa), (Str.ofString "due", Value.ref U)] s') ?_ ?_
        · intro qk hqk
          refine G_Assign_Name (G_Call ?_)
          k_steps
          refine G_callWith (K := hd.heap_1 w.params) (by k_is) (wpG_of_any ?_)
          k_steps
          rename News _ _ _ _ => N4
          rename Fr _ _ _ _ => F4
          refine c_turned w _ (rowOf r) _ _ (2 * n) k (by lia) (by lia) q2 _ _ _ _ _ _ _ _ _ _ _ _ _ _ _ _ _ _ _ _ _ K0 F4 KX N4 T rfl (by decide) (by decide) ?_
          intro t8 h8 tk8 F5 N5
          clear F4 N4
          rw [row_turn]
          k_steps
          rename News _ _ _ _ => N9
          rename Fr _ _ _ _ => F9
          exact hqk _ ⟨_, mid_intro F9 N9 (by walk_at "mine perm") (List.forall_mem_cons.mpr ⟨rfl, List.forall_mem_cons.mpr ⟨rfl, List.forall_mem_cons.mpr ⟨rfl, List.forall_mem_cons.mpr ⟨rfl, List.forall_mem_cons.mpr ⟨rfl, List.forall_mem_cons.mpr ⟨rfl, List.forall_mem_cons.mpr ⟨rfl, List.forall_mem_cons.mpr ⟨rfl, fun _ h => nomatch h⟩⟩⟩⟩⟩⟩⟩⟩)⟩
        clear F N
        rintro s' ⟨t9, h36, tk36, m36, rfl, F, N⟩
        refine G_execs_nil ?_
        refine G_execs_nil ?_
        exact ⟨⟨Z, uz, cz, ta, ut ++ [Value.int (mk.getD k 0) tx], ct + 1, t9, ⟨turnB r k, mk.drop (k + 1) ++ [mk.getD k 0] ++ mk.take k, tkn ++ [mk.getD k 0]⟩⟩, ⟨hstep.symm, iz, it.append (.cons _ _ .nil), Nat.ne_of_gt (lz _ (.head _)), fun p hp => Nat.ne_of_lt (lz p (by revert p; walk_at "mine perm")), ot⟩, List.forall_mem_cons.mpr ⟨Nat.ne_of_gt (lz (I, io) (by walk_at "mine mem")), List.forall_mem_cons.mpr ⟨hI2, fun p hp => hoff p (.tail _ (.tail _ hp))⟩⟩, mid_intro F N (by walk_at "mine perm") (List.forall_mem_cons.mpr ⟨rfl, List.forall_mem_cons.mpr ⟨rfl, List.forall_mem_cons.mpr ⟨rfl, List.forall_mem_cons.mpr ⟨rfl, List.forall_mem_cons.mpr ⟨rfl, List.forall_mem_cons.mpr ⟨rfl, List.forall_mem_cons.mpr ⟨rfl, fun _ h => nomatch h⟩⟩⟩⟩⟩⟩⟩)⟩
    · rintro ⟨ma, um, cm, ta, ut, ct, tr, c⟩ u h tk hP F2 N2
      dsimp only [led2, ps2] at F2 N2 hP ⊢
      obtain ⟨hc, im, it, nmt, om, ot⟩ := hP
      exact hqk _ ⟨⟨ma, um, cm, ta, ut, ct, tr, c⟩, hc, it, mid_intro F2 N2 (by walk_at "mine perm") (List.forall_mem_cons.mpr ⟨rfl, List.forall_mem_cons.mpr ⟨rfl, fun _ h => nomatch h⟩⟩)⟩
  clear F N
  rintro s' ⟨⟨ma, um, cm, ta, ut, ct, tr, c⟩, hc, it, h17, tk17, m17, rfl, F, N⟩
  dsimp only at hc it F N
  subst hc
  refine wpG_of_any ?_
  k_steps
  rw [lw5, hrs, decide_eq_true rfl]
  exact good_true hno hpost (fun _ _ e => F.keep _ _ e) rfl hg
end Mine
end
end
end
set_option maxRecDepth 100000 in
set_option maxHeartbeats 8000000 in
theorem PySem.Challenge.cw_xp0013_01_holds : PySem.Challenge.rw_xp0013_01.Holds := by
  exact Mine.walk0
