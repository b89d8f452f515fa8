import PyProof.Rows.All
import Wide.All
import OpenK.AllK
import Wide.FinOn
import KE.KxBytes
import KE.KxPercent
import KE.KIntText
import KE.KPop
import KE.KItem
import KE.IntTextText
import KE.KTops
import Lean
import PySem.Challenge.RW_yh0012_01
/-
The law yh0012-01, proved by hand.
Order: a head for a call whose context holds the caller (callFromC and holds_open follow the library's own, with the very context in place of any);
a logic for such contexts (wpC) with the rules on the road to a refused int(text); the compiled pattern's sub; one contract for each function;
the plain law (reduced words and their tables); the walk through law; the join.
-/
section
open PySem PySem.W PyProof.Rows
set_option Elab.async false
namespace Mine
section
variable {α : Type} {M : Model} {A : Around} {E : Value → Shared → Prop} {s : Shared} {c : Prop} [Decidable c] {a b : Sem α} {Q : α → Shared → Prop}
theorem ifT (hc : c) (h : wpAny M A a Q E s) : wpAny M A (if c then a else b) Q E s := by rw [if_pos hc]; exact h
theorem ifF (hc : ¬ c) (h : wpAny M A b Q E s) : wpAny M A (if c then a else b) Q E s := by rw [if_neg hc]; exact h
end
end Mine
end
section
open PySem PySem.W PyProof.Rows PySem.Calls
set_option Elab.async false
set_option maxRecDepth 100000
namespace Mine

/-- the very context in which the law is called -/
noncomputable def ctx0 : Ctx := ⟨.builtin "claim.caller" {}, none, none, [], none⟩

noncomputable abbrev WalkC (q : Program) (loose : List PySem.Str) (XP : (PySem.Str → Option Value) → Heap → Prop) (YP : World → Heap → Prop) (r : RowW) (d : DefRec) (kwd : List (PySem.Str × PySem.Expr)) (run : Value → List Value → Sem Value) : Prop :=
  ∀ (w : World) (s₀ s₁ : Shared) (mg mb : PySem.Str → Option Value), Ground q loose r.records XP w s₀ mg mb s₁.heap → YP w s₁.heap → ∀ (a : Addr) (o : Obj) (pm cd doc dV kV : Value), s₁.heap.get? a = some o →
    o.data = .func { docDef d.name d.params d.body d.scope pm cd doc with defaults := dV, kwdefaults := kV } → s₁.heap.CodeRec cd d.name → Dflts mg s₁.heap d.params kwd dV kV → mg d.name = some (.ref a) → s₁.gens = #[] →
    ∀ (args : List WData) (vals : List Value) (as : List Addr), r.claim.pre args = true → WData.layableAll args = true → ReadsAllW r.records (classAt s₀.heap) s₁.heap vals args as → WellAll w.params s₁.heap vals args → (∀ a ∈ as, (a == sysModules) = false) →
      Sem.wp (model r.prog w) ctx0 (run (.ref a) vals) (fun v _ s' => GoodWG r.claim (classAt s₀.heap) (ExcName.means s₀.heap) args s₁ (.ok (.ret v)) s')
        (fun e _ s' => GoodWG r.claim (classAt s₀.heap) (ExcName.means s₀.heap) args s₁ (.error e) s') default s₁

theorem callFromC {c : ClaimW} {tree : List Value → Sem Fin} {w : World} {s : Shared} {free : Addr → Prop} {gens : Prop} {kept : Heap → Prop} (hz : s.asleep) (hgens : s.gens = #[])
    (hspec : ∀ args, c.pre args = true → WData.layableAll args = true →
      ∀ ord : List DictEntry → List DictEntry, (∀ l, (ord l).Perm l) →
      ∃ vs s₁, layAllW c.records (classAt s.heap) w.params ord args s = some (vs, s₁) ∧
        Sem.wp (model c.prog w) ctx0 (tree vs) (fun fin _ s' => ∃ f, fin = .done f ∧ (c.Ends s args vs s₁ (.ok f) s' ∧ s'.os = s.os ∧ AllBare s'.gens ∧ kept s'.heap))
          (fun e _ s' => c.Ends s args vs s₁ (.error e) s' ∧ s'.os = s.os ∧ AllBare s'.gens ∧ kept s'.heap) default s₁) :
    c.CallFrom (fun vs => ⟨tree vs, .builtin "claim.caller" {}, default, []⟩) w free gens kept s := by
  intro args hpre hlay ord hord
  obtain ⟨vs, s₁, hlaid, hcode⟩ := hspec args hpre hlay ord hord
  have hal := layAllW_rest _ _ _ hlaid
  have hfin : Sem.wp (model c.prog w) ctx0 (tree vs)
      (Sem.finPost (model c.prog w) ctx0 fun r s' => (c.Ends s args vs s₁ r s' ∧ s'.os = s.os ∧ kept s'.heap) ∧ leftWithCleanup s'.gens = false)
      (fun e _ s' => (c.Ends s args vs s₁ (.error e) s' ∧ s'.os = s.os ∧ kept s'.heap) ∧ leftWithCleanup s'.gens = false) default s₁ := by
    refine Sem.wp_mono _ _ _ (fun fin p' s' hq => ?_) (fun e p' s' hq => ?_) _ _ hcode
    · obtain ⟨f, rfl, h1, h2, h3, h4⟩ := hq
      exact ⟨⟨h1, h2, h4⟩, leftWithCleanup_false_of_bare h3⟩
    · obtain ⟨h1, h2, h3, h4⟩ := hq
      exact ⟨⟨h1, h2, h4⟩, leftWithCleanup_false_of_bare h3⟩
  obtain ⟨k, r, sb, sa, hsched, hrun, hfo, ⟨hcase, hos, hkp⟩⟩ := wp_halts_full (M := model c.prog w) (Shared.asleep_of_life hal.2.2.2 hz) hfin
  obtain ⟨eh, _, _, eo, _⟩ := Shared.forget_eq hfo
  have hcase' := hcase.congr eh
  have hkp' : kept sa.heap := by rw [eh]; exact hkp
  have hos' : sa.os = s.os := by rw [eo]; exact hos
  have hlife : sa.heap.life = s.heap.life := (runN_life _ _ _ hrun).trans hal.2.2.2
  refine ⟨vs, s₁, hlaid, k, _, sa, hsched, ?_, (fun _ i x hx => by rw [hgens] at hx; simp at hx), hkp', by rw [hlife], Shared.rest_eq hos'⟩
  rcases hcase' with ⟨v, rfl, d1, d2, d3, d4, d5⟩ | ⟨e, ob, cls, rfl, d1, d2, d3, d4, d5⟩
  · exact .inl ⟨v, rfl, d1, d2, d3, fun b o y _ => d4 b o y, d5⟩
  · exact .inr ⟨e, ob, cls, rfl, d1, d2, d3, d4, fun b o y _ => d5 b o y⟩

theorem PySem.W.holds_open {r : OpenRow} {q : Program} {loose : List PySem.Str} {Xt : Shared → Bool} {XP : (PySem.Str → Option Value) → Heap → Prop} {α : Type} {Yf : Shared → α} {Ya : World → α} {YP : World → Heap → Prop} {d : DefRec} {kwd : List (PySem.Str × PySem.Expr)} {N : Nat}
    (left : LeftO r.prog q loose Xt Yf Ya N) (hY : ∀ w s, Yf s = Ya w → YP w s.heap) (hYk : ∀ w h h', YP w h → (∀ b o, h.get? b = some o → h'.get? b = some o) → YP w h')
    (hX : ∀ s, Xt s = true → XP (s.heap.nsMap mainGlobals) s.heap) (hXk : ∀ mg h h', XP mg h → (∀ b o, h.get? b = some o → h'.get? b = some o) → XP mg h')
    (hdef : defOf q r.name = some (d, kwd)) (hp : r.prog.theDef r.name = some (d.params, d.body, d.scope)) (hk : kwWritten? d.params.kwonlyargs d.params.kw_defaults = some kwd) (hRf : ∀ s, Xt s = true → RecFacts r.records s.heap) (hwr : (!r.writes || r.records.isEmpty) = true)
    (k1 : r.wellSaid = true) (ok : (chainsOk q && opensWell r.prog && (frees r.toRowW && r.within.isEmpty)) = true) (hb : r.prog.bare) (hw : r.toRowW.promised)
    (walk : WalkC q loose XP YP r.toRowW d kwd fun f vs => PySem.call f vs) : r.Holds := by
  obtain ⟨ok, k5⟩ := Bool.and_eq_true_iff.mp ok
  obtain ⟨hch, o1⟩ := Bool.and_eq_true_iff.mp ok
  obtain ⟨k5, k6⟩ := Bool.and_eq_true_iff.mp k5
  obtain ⟨hsame, hu, ha, hap, hm⟩ := frees_parts k5
  have hi := ident_freeW hu ha hap
  have hwi : r.toRowW.claim.within = [] := List.isEmpty_iff.mp k6
  refine ⟨k1, hw, ⟨hb, o1, by show r.makers.map _ = []; rw [hm]; rfl⟩, hw.witness, fun w => ⟨(left.behind hX hch w).1, fun s' hs' => ?_⟩⟩
  obtain ⟨s₀, hf, hg0, s, hT, hz, hgens, hg, G00, y⟩ := (left.behind (XP := fun mg h => XP mg h ∧ RecFacts r.records h) (fun s hs => ⟨hX s hs, hRf s hs⟩) hch w).2 s' hs'
  have G0 : Ground q loose [] XP w s (s.heap.nsMap mainGlobals) (s.heap.nsMap builtinsNs) s.heap := ⟨G00.T, G00.B, G00.D, G00.TE, G00.TD, G00.W, G00.X.1, G00.cls, G00.has, G00.apart, G00.once, G00.K⟩
  have RF := G00.X.2
  have hT' := hT
  refine ⟨s₀, hf, hg0, s, hT, (fun n hn => ?_), RF.1, RF.2.1, ?_⟩
  · obtain rfl : n = r.name := by split at hn <;> simp_all
    exact pinned_of_view hg G0 hdef hp hk
  have hgens : s.gens = #[] := Array.eq_empty_of_size_eq_zero (beq_iff_eq.mp hgens)
  have G : Ground q loose r.records XP w s _ _ s.heap := RF.ground G0
  refine callFromC (c := r.toRowW.claim) hz hgens fun args hpre hlay ord hord => ?_
  obtain ⟨⟨vs, s₁⟩, hlaid⟩ := Option.isSome_iff_exists.mp (layAllW_isSome (P := w.params) (ord := ord) G.has args r.args s (pre_splitW hpre).1)
  have keeps := layAllW_keeps _ _ _ hlaid
  have hal := layAllW_rest _ _ _ hlaid
  obtain ⟨as, hrd, hin, hold⟩ := reads_layAllW hord _ _ _ hlaid hlay s₁.heap (fun _ _ e => e)
  have L : Laid r.records w s s₁ args vs as := ⟨⟨ord, hord, hlaid⟩, hrd, hin, hold, keeps, hal.1.trans hgens, hal.2.2.1⟩
  have G₁ := G.keeps hXk keeps
  obtain ⟨a, o, pm, cd, doc, dV, kV, h1, h2, h3, h4, h5⟩ := G₁.fn hdef
  have hcall := walk w s s₁ _ _ G₁ (hYk _ _ _ (hY w s y) keeps) a o pm cd doc dV kV h2 h3 h4 h5 (defOf_name hdef ▸ h1) L.gens args vs as hpre hlay L.reads L.well (L.low G.low)
  refine ⟨vs, s₁, hlaid, ?_⟩
  have fin : ∀ (res : Result) (s' : Shared), GoodWG r.toRowW.claim (classAt s.heap) (ExcName.means s.heap) args s₁ res s' → _ := fun res s' g =>
    have z := g.laid (c := r.toRowW.claim) hsame hwi hi L
    (⟨z.1, z.2.1, z.2.2, fun q => ⟨namesKept_of hT' hg r.keeps keeps g.2.1.old, noTable hwr q⟩⟩ : _ ∧ _ ∧ _ ∧ (r.writes = true → namesKept r.toRowW.claim.prog r.keeps s.heap s'.heap ∧ ∀ x ∈ r.toRowW.claim.records, ∀ a, classAt s.heap x.1 = some a → recordClass s'.heap a x.1 (x.2.map (·.1)) = true))
  show Sem.wp (model r.prog w) ctx0 (do match ← nsGet mainNs r.name with
      | some f => do ret (← PySem.call f vs)
      | none => unsupported "claim.caller:no-such-global") _ _ default s₁
  rw [Sem.wp_bind']
  refine Eq.mpr (Sem.wp_nsGet (model r.prog w) ctx0 _ default s₁ (a := mainNs) G₁.T.g _ _) ?_
  first | rw [h1] | (rw [← defOf_name hdef]; rw [h1]) | (rw [defOf_name hdef] at h1; rw [h1])
  show Sem.wp (model r.prog w) ctx0 (do ret (← PySem.call (.ref a) vs)) _ _ default s₁
  rw [Sem.wp_bind']
  exact Sem.wp_mono _ _ _ (fun v p' s' g => ⟨_, rfl, fin _ _ g⟩) (fun e p' s' g => fin _ _ g) _ _ hcall

end Mine
end
section
open PySem PySem.Sre
set_option Elab.async false
set_option maxRecDepth 10000
namespace Mine
noncomputable def qcode : Array Nat := #[14, 8, 1, 2, 4294967295, 1, 1, 34, 0, 16, 34, 28, 22, 0, 4294967295, 7, 11, 13, 7, 21, 16, 34, 16, 92, 0, 15, 8, 6, 16, 92, 2, 15, 2, 0, 1, 16, 34, 1]
/-- a state of the matcher -/
noncomputable def st (text : Array Nat) (start : Nat) (must : Bool) (pc pos handed : Nat) (outer : Bool) (loops : Array Loop) (inner : Option Nat) (frames : List Sre.Frame) (weight : Nat) (ans : Option Bool) (seen : Seen) : M :=
  { code := qcode, text, lim := text.size, start, lastStart := text.size, mustAdvance := must, pc, pos, handed, outermost := outer, marks := #[], loops, inner, frames, weight, answer := ans, seen }
noncomputable def kq : Sre.Kept := { lastmark := -1, lastindex := -1, whole := true, marks := #[] }
noncomputable def fS (s : Nat) (o : Bool) : Sre.Frame := { wait := .nextStart, pc := 9, pos := s, outermost := o }
noncomputable def fP (i : Nat) (c : Int) (o : Bool) : Sre.Frame := { wait := .possMore, pc := 11, pos := i, outermost := o, count := c, kept := kq, loop := 0 }
noncomputable def fPn (i : Nat) (c : Int) (o : Bool) : Sre.Frame := { wait := .possMore, pc := 11, pos := i, outermost := o, count := c, kept := kq, loop := 0 }
noncomputable def fB (pc i : Nat) : Sre.Frame := { wait := .nextBranch, pc := pc, pos := i, outermost := false, kept := kq }
noncomputable def lp : Array Loop := #[{ pc := 0, outer := none }]
section
variable {t : Array Nat} {s h i j : Nat} {must o : Bool} {c : Int} {fr : List Sre.Frame} {w : Nat} {sn : Seen}
theorem run_add (a b : Nat) (m : M) : M.runFor (a + b) m = M.runFor b (M.runFor a m) := by
  induction a generalizing m with
  | zero => rw [Nat.zero_add]; rfl
  | succ a ih =>
    rw [Nat.succ_add]
    show (if m.outcome.isSome then m else M.runFor (a + b) m.step) = M.runFor b (if m.outcome.isSome then m else M.runFor a m.step)
    by_cases hm : m.outcome.isSome = true
    · rw [if_pos hm, if_pos hm]
      cases b with
      | zero => rfl
      | succ b => show m = (if m.outcome.isSome then m else _); rw [if_pos hm]
    · rw [if_neg hm, if_neg hm]; exact ih _
theorem run_one {m : M} (h : m.outcome = none) : M.runFor 1 m = m.step := by
  show (if m.outcome.isSome then m else M.runFor 0 m.step) = m.step
  rw [h]; rfl
/-- m leads to m' in k steps or fewer -/
noncomputable def MGoes (k : Nat) (m m' : M) : Prop := ∃ n, n ≤ k ∧ M.runFor n m = m'
theorem MGoes.refl {m : M} : MGoes 0 m m := ⟨0, Nat.le_refl _, rfl⟩
theorem MGoes.one {m m' : M} (h : m.outcome = none) (e : m.step = m') : MGoes 1 m m' := ⟨1, Nat.le_refl _, by rw [run_one h, e]⟩
theorem MGoes.trans {a b : Nat} {m m' m'' : M} (h : MGoes a m m') (h' : MGoes b m' m'') : MGoes (a + b) m m'' := by
  obtain ⟨n, hn, e⟩ := h
  obtain ⟨n', hn', e'⟩ := h'
  exact ⟨n + n', Nat.add_le_add hn hn', by rw [run_add, e, e']⟩
theorem MGoes.mono {a b : Nat} {m m' : M} (h : MGoes a m m') (hb : a ≤ b) : MGoes b m m' := let ⟨n, hn, e⟩ := h; ⟨n, Nat.le_trans hn hb, e⟩

-- BRANCH at 15: the first way
theorem s15 : (st t s must 15 i h false lp (some 0) fr 2 none sn).step = st t s must 17 i i false lp (some 0) (fB 16 i :: fr) 3 none (sn.add 7) := by rfl
theorem acc17 (x : Nat) : accepts qcode 17 x sn = .ok (if x = 34 then (false, (((sn.add 21).add 16))) else if x = 92 then (false, ((sn.add 21).add 16).add 16) else (true, (((sn.add 21).add 16).add 16).add 0)) := by
  by_cases h1 : x = 34
  · subst h1; rfl
  · by_cases h2 : x = 92
    · subst h2; rfl
    · rw [if_neg h1, if_neg h2]
      have e1 : (x == 34) = false := by simpa using h1
      have e2 : (x == 92) = false := by simpa using h2
      show inSet qcode x 38 19 true sn = _
      show inSet qcode x 37 20 false (sn.add 21) = _
      show (if (x == 34) = true then _ else inSet qcode x 36 22 false ((sn.add 21).add 16)) = _
      rw [if_neg (by simp [e1])]
      show (if (x == 92) = true then _ else inSet qcode x 35 24 false (((sn.add 21).add 16).add 16)) = _
      rw [if_neg (by simp [e2])]
      rfl
noncomputable def sn17 (sn : Seen) : Seen := (((sn.add 13).add 21).add 16).add 16
-- IN at 17
theorem s17 {hd : Nat} (hi : i < t.size) (h1 : t.getD i 0 ≠ 34) (h2 : t.getD i 0 ≠ 92) : (st t s must 17 i hd false lp (some 0) fr w none sn).step = st t s must 25 (i + 1) hd false lp (some 0) fr w none ((sn17 sn).add 0) := by
  show (if i ≥ t.size then _ else match accepts qcode 17 (t.getD i 0) (sn.add 13) with | .error why => _ | .ok (false, seen) => _ | .ok (true, seen) => _) = _
  rw [if_neg (by omega), acc17, if_neg h1, if_neg h2]
  rfl
theorem s17e {hd : Nat} (hi : t.size ≤ i) : (st t s must 17 i hd false lp (some 0) fr w none sn).step = st t s must 17 i hd false lp (some 0) fr w (some false) (sn.add 13) := by
  show (if i ≥ t.size then _ else _) = _
  rw [if_pos hi]; rfl
theorem s17q {hd : Nat} (hi : i < t.size) (h1 : t.getD i 0 = 34) : (st t s must 17 i hd false lp (some 0) fr w none sn).step = st t s must 17 i hd false lp (some 0) fr w (some false) (((sn.add 13).add 21).add 16) := by
  show (if i ≥ t.size then _ else match accepts qcode 17 (t.getD i 0) (sn.add 13) with | .error why => _ | .ok (false, seen) => _ | .ok (true, seen) => _) = _
  rw [if_neg (by omega), acc17, if_pos h1]
  rfl
theorem s17b {hd : Nat} (hi : i < t.size) (h1 : t.getD i 0 = 92) : (st t s must 17 i hd false lp (some 0) fr w none sn).step = st t s must 17 i hd false lp (some 0) fr w (some false) (sn17 sn) := by
  show (if i ≥ t.size then _ else match accepts qcode 17 (t.getD i 0) (sn.add 13) with | .error why => _ | .ok (false, seen) => _ | .ok (true, seen) => _) = _
  rw [if_neg (by omega), acc17, if_neg (by omega), if_pos h1]
  rfl
-- JUMPs
theorem s25 {hd : Nat} : (st t s must 25 i hd false lp (some 0) fr w none sn).step = st t s must 34 i hd false lp (some 0) fr w none (sn.add 15) := by rfl
theorem s31 {hd : Nat} : (st t s must 31 i hd false lp (some 0) fr w none sn).step = st t s must 34 i hd false lp (some 0) fr w none (sn.add 15) := by rfl
-- SUCCESS of the body
theorem s34 {hd : Nat} : (st t s must 34 i hd false lp (some 0) fr w none sn).step = st t s must 34 i i false lp (some 0) fr w (some true) (sn.add 1) := by rfl
-- LITERAL 92 at 28
theorem s28 {hd : Nat} (hi : i < t.size) (h1 : t.getD i 0 = 92) : (st t s must 28 i hd false lp (some 0) fr w none sn).step = st t s must 30 (i + 1) hd false lp (some 0) fr w none (sn.add 16) := by
  show (if i ≥ t.size then _ else match (Except.ok (t.getD i 0 == 92, sn.add 16) : Except String (Bool × Seen)) with | .error why => _ | .ok (false, seen) => _ | .ok (true, seen) => _) = _
  rw [if_neg (by omega), h1]
  rfl
theorem s28n {hd : Nat} (hi : t.size ≤ i ∨ t.getD i 0 ≠ 92) : (st t s must 28 i hd false lp (some 0) fr w none sn).step = st t s must 28 i hd false lp (some 0) fr w (some false) (sn.add 16) := by
  show (if i ≥ t.size then _ else match (Except.ok (t.getD i 0 == 92, sn.add 16) : Except String (Bool × Seen)) with | .error why => _ | .ok (false, seen) => _ | .ok (true, seen) => _) = _
  by_cases h : t.size ≤ i
  · rw [if_pos h]; rfl
  · rw [if_neg h]
    have e : (t.getD i 0 == 92) = false := by simpa using hi.resolve_left h
    rw [e]; rfl
-- ANY at 30
theorem s30 {hd : Nat} (hi : i < t.size) (h1 : t.getD i 0 ≠ 10) : (st t s must 30 i hd false lp (some 0) fr w none sn).step = st t s must 31 (i + 1) hd false lp (some 0) fr w none (sn.add 2) := by
  show (if i ≥ t.size then _ else match (Except.ok (t.getD i 0 != 10, sn.add 2) : Except String (Bool × Seen)) with | .error why => _ | .ok (false, seen) => _ | .ok (true, seen) => _) = _
  have e : (t.getD i 0 != 10) = true := by simpa using h1
  rw [if_neg (by omega), e]
  rfl
theorem s30n {hd : Nat} (hi : t.size ≤ i ∨ t.getD i 0 = 10) : (st t s must 30 i hd false lp (some 0) fr w none sn).step = st t s must 30 i hd false lp (some 0) fr w (some false) (sn.add 2) := by
  show (if i ≥ t.size then _ else match (Except.ok (t.getD i 0 != 10, sn.add 2) : Except String (Bool × Seen)) with | .error why => _ | .ok (false, seen) => _ | .ok (true, seen) => _) = _
  by_cases h : t.size ≤ i
  · rw [if_pos h]; rfl
  · rw [if_neg h]
    have e : (t.getD i 0 != 10) = false := by simpa using hi.resolve_left h
    rw [e]; rfl
-- the branches' frames
theorem rB {pc p q hd : Nat} : (st t s must pc p hd false lp (some 0) (fB q i :: fr) 3 (some true) sn).step = st t s must q i hd false lp (some 0) fr 2 (some true) sn := by rfl
theorem rB16 {pc p hd : Nat} : (st t s must pc p hd false lp (some 0) (fB 16 i :: fr) 3 (some false) sn).step = st t s must 28 i i false lp (some 0) (fB 27 i :: fr) 3 none sn := by rfl
theorem rB27 {pc p hd : Nat} : (st t s must pc p hd false lp (some 0) (fB 27 i :: fr) 3 (some false) sn).step = st t s must 27 i hd false lp (some 0) fr 2 (some false) sn := by rfl
-- the repeat's frame
theorem rPy {pc p hd : Nat} (hne : i ≠ hd) (hc : 0 ≤ c) : (st t s must pc p hd false lp (some 0) (fP i c o :: fr) 2 (some true) sn).step = st t s must 15 hd hd false lp (some 0) (fP hd (c + 1) o :: fr) 2 none sn := by
  show (if c + 1 < ((0 : Nat) : Int) then _ else if ((decide (c + 1 < ((4294967295 : Nat) : Int)) || ((4294967295 : Nat) == maxRepeat)) && (some i != some hd)) = true then _ else _) = _
  have e1 : ((4294967295 : Nat) == maxRepeat) = true := rfl
  have e2 : (some i != some hd) = true := by simpa using hne
  rw [if_neg (by omega), e1, e2, Bool.or_true, Bool.and_true, if_pos rfl]
  rfl
theorem rPn {pc p hd : Nat} (hc : 0 ≤ c) : (st t s must pc p hd false lp (some 0) (fP i c o :: fr) 2 (some false) sn).step = st t s must 35 i i o #[] none fr 1 none sn := by
  show (if c < ((0 : Nat) : Int) then _ else if ((decide (c < ((4294967295 : Nat) : Int)) || ((4294967295 : Nat) == maxRepeat)) && (some i != some i)) = true then _ else _) = _
  have e2 : (some i != some i) = false := by simp
  rw [if_neg (by omega), e2, Bool.and_false, if_neg Bool.false_ne_true]
  rfl
-- LITERAL 34 at 35, at 9
theorem s35 {hd : Nat} (hi : i < t.size) (h1 : t.getD i 0 = 34) : (st t s must 35 i hd o #[] none fr w none sn).step = st t s must 37 (i + 1) hd o #[] none fr w none (sn.add 16) := by
  show (if i ≥ t.size then _ else match (Except.ok (t.getD i 0 == 34, sn.add 16) : Except String (Bool × Seen)) with | .error why => _ | .ok (false, seen) => _ | .ok (true, seen) => _) = _
  rw [if_neg (by omega), h1]
  rfl
theorem s35n {hd : Nat} (hi : t.size ≤ i ∨ t.getD i 0 ≠ 34) : (st t s must 35 i hd o #[] none fr w none sn).step = st t s must 35 i hd o #[] none fr w (some false) (sn.add 16) := by
  show (if i ≥ t.size then _ else match (Except.ok (t.getD i 0 == 34, sn.add 16) : Except String (Bool × Seen)) with | .error why => _ | .ok (false, seen) => _ | .ok (true, seen) => _) = _
  by_cases h : t.size ≤ i
  · rw [if_pos h]; rfl
  · rw [if_neg h]
    have e : (t.getD i 0 == 34) = false := by simpa using hi.resolve_left h
    rw [e]; rfl
theorem s9 {hd : Nat} (hi : i < t.size) (h1 : t.getD i 0 = 34) : (st t s must 9 i hd o #[] none fr w none sn).step = st t s must 11 (i + 1) hd o #[] none fr w none (sn.add 16) := by
  show (if i ≥ t.size then _ else match (Except.ok (t.getD i 0 == 34, sn.add 16) : Except String (Bool × Seen)) with | .error why => _ | .ok (false, seen) => _ | .ok (true, seen) => _) = _
  rw [if_neg (by omega), h1]
  rfl
theorem s9n {hd : Nat} (hi : t.size ≤ i ∨ t.getD i 0 ≠ 34) : (st t s must 9 i hd o #[] none fr w none sn).step = st t s must 9 i hd o #[] none fr w (some false) (sn.add 16) := by
  show (if i ≥ t.size then _ else match (Except.ok (t.getD i 0 == 34, sn.add 16) : Except String (Bool × Seen)) with | .error why => _ | .ok (false, seen) => _ | .ok (true, seen) => _) = _
  by_cases h : t.size ≤ i
  · rw [if_pos h]; rfl
  · rw [if_neg h]
    have e : (t.getD i 0 == 34) = false := by simpa using hi.resolve_left h
    rw [e]; rfl
-- POSSESSIVE_REPEAT at 11
theorem s11 {hd : Nat} : (st t s must 11 i hd o #[] none fr 1 none sn).step = st t s must 15 i i false lp (some 0) (fP i 0 o :: fr) 2 none (sn.add 28) := by rfl
-- SUCCESS of all
theorem s37 {hd : Nat} (hm : must = false ∨ i ≠ s) : (st t s must 37 i hd o #[] none fr w none sn).step = st t s must 37 i i o #[] none fr w (some true) (sn.add 1) := by
  show (if (o && ((false && _) || (must && (i == s)))) = true then _ else _) = _
  have e : (must && (i == s)) = false := by
    rcases hm with rfl | hm
    · rfl
    · have : (i == s) = false := by simpa using hm
      rw [this, Bool.and_false]
  rw [e, Bool.false_and, Bool.or_false, Bool.and_false, if_neg Bool.false_ne_true]
  rfl
-- the start's frame
theorem rSy {pc p hd : Nat} : (st t s must pc p hd o #[] none [fS i o] 1 (some true) sn).step = st t s must 9 i hd o #[] none [] 0 (some true) sn := by rfl
theorem rSn {pc p hd : Nat} (hi : i < t.size) : (st t s must pc p hd o #[] none [fS i o] 1 (some false) sn).step = st t (i + 1) false 9 (i + 1) (i + 1) false #[] none [fS (i + 1) false] 1 none sn := by
  show (if i < t.size then _ else _) = _
  rw [if_pos hi]; rfl
theorem rSo {pc p hd : Nat} (hi : t.size ≤ i) : (st t s must pc p hd o #[] none [fS i o] 1 (some false) sn).step = st t s must 9 i hd o #[] none [] 0 (some false) sn := by
  show (if i < t.size then _ else _) = _
  rw [if_neg (by omega)]; rfl
theorem rEnd {pc p hd : Nat} {b : Bool} : (st t s must pc p hd o #[] none [] 0 (some b) sn).step = { st t s must pc p hd o #[] none [] 0 (some b) sn with outcome := some (if b = true then .matched else .failed) } := by
  cases b <;> rfl
end
end Mine
end
section
open PySem PySem.Sre
set_option Elab.async false
set_option maxRecDepth 10000
namespace Mine
/-- behind an opening quote: what is left behind the closing one -/
noncomputable def closeQ : List Nat → Option (List Nat)
  | [] => none
  | [c] => if c = 34 then some [] else none
  | c :: d :: t => if c = 34 then some (d :: t) else if c = 92 then (if d = 10 then none else closeQ t) else closeQ (d :: t)
/-- the first text in quotes: how many signs ahead of it, what is left behind it -/
noncomputable def findQ : List Nat → Option (Nat × List Nat)
  | [] => none
  | c :: t => match (if c = 34 then closeQ t else none) with
    | some r => some (0, r)
    | none => (findQ t).map fun x => (x.1 + 1, x.2)
theorem drop_cons {t : Array Nat} {i c : Nat} {r : List Nat} (h : t.toList.drop i = c :: r) : i < t.size ∧ t.getD i 0 = c ∧ t.toList.drop (i + 1) = r := by
  have hi : i < t.toList.length := by
    rcases Nat.lt_or_ge i t.toList.length with hl | hl
    · exact hl
    · rw [List.drop_eq_nil_of_le hl] at h; cases h
  rw [List.drop_eq_getElem_cons hi] at h
  obtain ⟨h1, h2⟩ := List.cons.inj h
  have hs : i < t.size := by simpa using hi
  refine ⟨hs, ?_, h2⟩
  rw [Array.getD_eq_getD_getElem?, Array.getElem?_eq_getElem hs]
  simpa using h1
theorem drop_nil {t : Array Nat} {i : Nat} (h : t.toList.drop i = []) : t.size ≤ i := by
  have := List.drop_eq_nil_iff.mp h
  simpa using this
theorem drop_len {t : Array Nat} {i : Nat} {r : List Nat} (h : t.toList.drop i = r) (hi : i ≤ t.size) : i + r.length = t.size := by
  rw [← h, List.length_drop]
  simp; omega
theorem closeQ_len : ∀ {u r : List Nat}, closeQ u = some r → r.length < u.length
  | [], _, h => by cases h
  | [c], r, h => by
    unfold closeQ at h
    split at h
    · cases h; simp
    · cases h
  | c :: d :: t, r, h => by
    unfold closeQ at h
    split at h
    · cases h; simp
    · split at h
      · split at h
        · cases h
        · have := closeQ_len h; simp at this ⊢; omega
      · have := closeQ_len h; simp at this ⊢; omega
section
variable {t : Array Nat} {s : Nat} {must o : Bool} {fr : List Sre.Frame}
/-- the turn of the repeat that finds nothing more -/
theorem turn_stop {i : Nat} {c : Int} {sn : Seen} (hc : 0 ≤ c) (h : t.size ≤ i ∨ t.getD i 0 = 34 ∨ (t.getD i 0 = 92 ∧ (t.size ≤ i + 1 ∨ t.getD (i + 1) 0 = 10))) :
    ∃ sn', MGoes 8 (st t s must 15 i i false lp (some 0) (fP i c o :: fr) 2 none sn) (st t s must 35 i i o #[] none fr 1 none sn') := by
  rcases Nat.lt_or_ge i t.size with hi | hi
  · rcases h with h | h | ⟨h, h'⟩
    · omega
    · exact ⟨_, (((((MGoes.one rfl s15).trans (.one rfl (s17q hi h))).trans (.one rfl rB16)).trans (.one rfl (s28n (.inr (by omega))))).trans (.one rfl rB27)).trans (.one rfl (rPn hc)) |>.mono (by omega)⟩
    · exact ⟨_, ((((((MGoes.one rfl s15).trans (.one rfl (s17b hi h))).trans (.one rfl rB16)).trans (.one rfl (s28 hi h))).trans (.one rfl (s30n h'))).trans (.one rfl rB27)).trans (.one rfl (rPn hc)) |>.mono (by omega)⟩
  · exact ⟨_, (((((MGoes.one rfl s15).trans (.one rfl (s17e hi))).trans (.one rfl rB16)).trans (.one rfl (s28n (.inl hi)))).trans (.one rfl rB27)).trans (.one rfl (rPn hc)) |>.mono (by omega)⟩
theorem turn_one {i : Nat} {c : Int} {sn : Seen} (hc : 0 ≤ c) (hi : i < t.size) (h1 : t.getD i 0 ≠ 34) (h2 : t.getD i 0 ≠ 92) :
    ∃ sn', MGoes 9 (st t s must 15 i i false lp (some 0) (fP i c o :: fr) 2 none sn) (st t s must 15 (i + 1) (i + 1) false lp (some 0) (fP (i + 1) (c + 1) o :: fr) 2 none sn') :=
  ⟨_, (((((MGoes.one rfl s15).trans (.one rfl (s17 hi h1 h2))).trans (.one rfl s25)).trans (.one rfl s34)).trans (.one rfl rB)).trans (.one rfl (rPy (by omega) hc)) |>.mono (by omega)⟩
theorem turn_two {i : Nat} {c : Int} {sn : Seen} (hc : 0 ≤ c) (hi : i + 1 < t.size) (h1 : t.getD i 0 = 92) (h2 : t.getD (i + 1) 0 ≠ 10) :
    ∃ sn', MGoes 9 (st t s must 15 i i false lp (some 0) (fP i c o :: fr) 2 none sn) (st t s must 15 (i + 2) (i + 2) false lp (some 0) (fP (i + 2) (c + 1) o :: fr) 2 none sn') :=
  ⟨_, ((((((((MGoes.one rfl s15).trans (.one rfl (s17b (by omega) h1))).trans (.one rfl rB16)).trans (.one rfl (s28 (by omega) h1))).trans (.one rfl (s30 hi h2))).trans (.one rfl s31)).trans (.one rfl s34)).trans (.one rfl rB)).trans (.one rfl (rPy (by omega) hc)) |>.mono (by omega)⟩
/-- from behind the opening quote on -/
theorem closes : ∀ (n : Nat) (u : List Nat) (i : Nat) (c : Int) (sn : Seen), u.length ≤ n → i ≤ t.size → t.toList.drop i = u → 0 ≤ c →
    match closeQ u with
    | some r => ∃ hd sn', MGoes (9 * u.length + 9) (st t s must 15 i i false lp (some 0) (fP i c o :: fr) 2 none sn) (st t s must 37 (t.size - r.length) hd o #[] none fr 1 none sn')
    | none => ∃ p hd sn', MGoes (9 * u.length + 9) (st t s must 15 i i false lp (some 0) (fP i c o :: fr) 2 none sn) (st t s must 35 p hd o #[] none fr 1 (some false) sn') := by
  intro n
  induction n with
  | zero =>
    intro u i c sn hn hi hu hc
    have : u = [] := List.eq_nil_of_length_eq_zero (by omega)
    subst this
    obtain ⟨sn', g⟩ := turn_stop (s := s) (must := must) (o := o) (fr := fr) (sn := sn) hc (.inl (drop_nil hu))
    exact ⟨_, _, _, g.trans (.one rfl (s35n (.inl (drop_nil hu)))) |>.mono (by omega)⟩
  | succ n ih =>
    intro u i c sn hn hi hu hc
    match u, hu with
    | [], hu =>
      obtain ⟨sn', g⟩ := turn_stop (s := s) (must := must) (o := o) (fr := fr) (sn := sn) hc (.inl (drop_nil hu))
      exact ⟨_, _, _, g.trans (.one rfl (s35n (.inl (drop_nil hu)))) |>.mono (by omega)⟩
    | [x], hu =>
      obtain ⟨h1, h2, h3⟩ := drop_cons hu
      have h4 := drop_nil h3
      unfold closeQ
      by_cases hx : x = 34
      · rw [if_pos hx]
        obtain ⟨sn', g⟩ := turn_stop (s := s) (must := must) (o := o) (fr := fr) (sn := sn) hc (.inr (.inl (by omega : t.getD i 0 = 34)))
        have e : t.size - ([] : List Nat).length = i + 1 := by simp; omega
        show ∃ hd sn', MGoes _ _ (st t s must 37 (t.size - ([] : List Nat).length) hd o #[] none fr 1 none sn')
        rw [e]
        exact ⟨_, _, (g.trans (.one rfl (s35 h1 (by omega)))).mono (by omega)⟩
      · rw [if_neg hx]
        by_cases hy : x = 92
        · obtain ⟨sn', g⟩ := turn_stop (s := s) (must := must) (o := o) (fr := fr) (sn := sn) hc (.inr (.inr ⟨(by omega : t.getD i 0 = 92), .inl h4⟩))
          exact ⟨_, _, _, g.trans (.one rfl (s35n (.inr (by omega)))) |>.mono (by omega)⟩
        · obtain ⟨sn', g⟩ := turn_one (s := s) (must := must) (o := o) (fr := fr) (sn := sn) hc h1 (by omega) (by omega)
          obtain ⟨sn'', g'⟩ := turn_stop (s := s) (must := must) (o := o) (fr := fr) (sn := sn') (c := c + 1) (by omega) (.inl h4)
          exact ⟨_, _, _, (g.trans g').trans (.one rfl (s35n (.inl h4))) |>.mono (by simp)⟩
    | x :: y :: r, hu =>
      obtain ⟨h1, h2, h3⟩ := drop_cons hu
      obtain ⟨h4, h5, h6⟩ := drop_cons h3
      have hl := drop_len h6 (by omega)
      unfold closeQ
      by_cases hx : x = 34
      · rw [if_pos hx]
        obtain ⟨sn', g⟩ := turn_stop (s := s) (must := must) (o := o) (fr := fr) (sn := sn) hc (.inr (.inl (by omega : t.getD i 0 = 34)))
        have e : t.size - (y :: r).length = i + 1 := by simp; omega
        show ∃ hd sn', MGoes _ _ (st t s must 37 (t.size - (y :: r).length) hd o #[] none fr 1 none sn')
        rw [e]
        exact ⟨_, _, (g.trans (.one rfl (s35 h1 (by omega)))).mono (by omega)⟩
      · rw [if_neg hx]
        by_cases hy : x = 92
        · rw [if_pos hy]
          by_cases hz : y = 10
          · rw [if_pos hz]
            obtain ⟨sn', g⟩ := turn_stop (s := s) (must := must) (o := o) (fr := fr) (sn := sn) hc (.inr (.inr ⟨(by omega : t.getD i 0 = 92), .inr (by omega)⟩))
            exact ⟨_, _, _, g.trans (.one rfl (s35n (.inr (by omega)))) |>.mono (by omega)⟩
          · rw [if_neg hz]
            obtain ⟨sn', g⟩ := turn_two (s := s) (must := must) (o := o) (fr := fr) (sn := sn) hc h4 (by omega) (by omega)
            have k := ih r (i + 2) (c + 1) sn' (by simp at hn; omega) (by omega) h6 (by omega)
            revert k
            cases closeQ r with
            | none => rintro ⟨p, hd, sn'', g'⟩; exact ⟨p, hd, sn'', (g.trans g').mono (by simp; omega)⟩
            | some q => rintro ⟨hd, sn'', g'⟩; exact ⟨hd, sn'', (g.trans g').mono (by simp; omega)⟩
        · rw [if_neg hy]
          obtain ⟨sn', g⟩ := turn_one (s := s) (must := must) (o := o) (fr := fr) (sn := sn) hc h1 (by omega) (by omega)
          have k := ih (y :: r) (i + 1) (c + 1) sn' (by simp at hn ⊢; omega) (by omega) h3 (by omega)
          revert k
          cases closeQ (y :: r) with
          | none => rintro ⟨p, hd, sn'', g'⟩; exact ⟨p, hd, sn'', (g.trans g').mono (by simp; omega)⟩
          | some q => rintro ⟨hd, sn'', g'⟩; exact ⟨hd, sn'', (g.trans g').mono (by simp; omega)⟩
/-- the matcher's end -/
noncomputable def Ends (t : Array Nat) (s : Nat) : Option (Nat × List Nat) → M → Prop
  | some (k, r), m => m.outcome = some .matched ∧ m.start = s + k ∧ m.handed = t.size - r.length ∧ m.lastmark = -1
  | none, m => m.outcome = some .failed
theorem searches (D : Nat) (hD : 9 * t.size + 20 ≤ D) : ∀ (u : List Nat) (s : Nat) (must o : Bool) (sn : Seen), s ≤ t.size → t.toList.drop s = u →
    ∃ m, MGoes (D * (u.length + 1)) (st t s must 9 s s o #[] none [fS s o] 1 none sn) m ∧ Ends t s (findQ u) m := by
  intro u
  induction u with
  | nil =>
    intro s must o sn hs hu
    exact ⟨_, ((MGoes.one rfl (s9n (.inl (drop_nil hu)))).trans (.one rfl (rSo (drop_nil hu)))).trans (.one rfl rEnd) |>.mono (by simp; omega), rfl⟩
  | cons x u ih =>
    intro s must o sn hs hu
    obtain ⟨h1, h2, h3⟩ := drop_cons hu
    have hl := drop_len h3 (by omega)
    have go : ∀ {p hd : Nat} {pc : Nat} {sn' : Seen}, (if x = 34 then closeQ u else none) = none → ∃ m, MGoes (D * (u.length + 1) + 1) (st t s must pc p hd o #[] none [fS s o] 1 (some false) sn') m ∧ Ends t s (findQ (x :: u)) m := by
      intro p hd pc sn' hn
      obtain ⟨m, g, e⟩ := ih (s + 1) false false sn' (by omega) h3
      refine ⟨m, ((MGoes.one rfl (rSn h1)).trans g).mono (by omega), ?_⟩
      unfold findQ
      rw [hn]
      revert e
      cases findQ u with
      | none => exact fun e => e
      | some q => rintro ⟨a, b, c, d⟩; exact ⟨a, by rw [b]; show s + 1 + q.1 = s + (q.1 + 1); omega, c, d⟩
    have e1 : D * ((x :: u).length + 1) = D * (u.length + 1) + D := by rw [List.length_cons, Nat.mul_succ]
    rw [e1]
    by_cases hx : x = 34
    · have g0 : MGoes 2 (st t s must 9 s s o #[] none [fS s o] 1 none sn) _ := (MGoes.one rfl (s9 h1 (by omega))).trans (.one rfl s11)
      have k := closes (t := t) (s := s) (must := must) (o := o) (fr := [fS s o]) u.length u (s + 1) 0 ((sn.add 16).add 28) (Nat.le_refl _) (by omega) h3 (by omega)
      cases hq : closeQ u with
      | none =>
        rw [hq] at k
        obtain ⟨p, hd, sn', g⟩ := k
        obtain ⟨m, g', e⟩ := go (p := p) (hd := hd) (pc := 35) (sn' := sn') (by rw [if_pos hx]; exact hq)
        exact ⟨m, ((g0.trans g).trans g').mono (by omega), e⟩
      | some r =>
        rw [hq] at k
        obtain ⟨hd, sn', g⟩ := k
        have hr := closeQ_len hq
        refine ⟨_, (((g0.trans g).trans (.one rfl (s37 (.inr (by omega))))).trans (.one rfl rSy)).trans (.one rfl rEnd) |>.mono (by omega), ?_⟩
        unfold findQ
        rw [if_pos hx, hq]
        exact ⟨rfl, rfl, rfl, rfl⟩
    · obtain ⟨m, g', e⟩ := go (p := s) (hd := s) (pc := 9) (sn' := sn.add 16) (by rw [if_neg hx])
      exact ⟨m, ((MGoes.one rfl (s9n (.inr (by omega)))).trans g').mono (by omega), e⟩
end
end Mine
end
section
open PySem PySem.Sre
set_option Elab.async false
set_option maxRecDepth 10000
namespace Mine
theorem head_q : header qcode = (2, 9) := by rfl
theorem fresh_big (t : Array Nat) (s : Nat) (h2 : 2 ≤ t.size - s) (hs : s ≤ t.size) : forSearch qcode t 0 s t.size false = st t s false 9 s s true #[] none [fS s true] 1 none (({} : Seen).add 14) := by
  unfold forSearch
  rw [head_q]
  dsimp only
  rw [if_neg (by simp; omega)]
  rfl
theorem fresh_small (t : Array Nat) (s : Nat) (h2 : t.size - s < 2) : ∃ m : M, forSearch qcode t 0 s t.size false = m ∧ m.outcome = none ∧ m.answer = some false ∧ m.frames = [] := by
  unfold forSearch
  rw [head_q]
  dsimp only
  rw [if_pos (by simp; omega)]
  exact ⟨_, rfl, rfl, rfl, rfl⟩
theorem findQ_short {u : List Nat} (h : u.length < 2) : findQ u = none := by
  match u, h with
  | [], _ => rfl
  | [x], _ =>
    unfold findQ findQ
    by_cases hx : x = 34
    · rw [if_pos hx]; rfl
    · rw [if_neg hx]; rfl
  | x :: y :: r, h => simp at h; omega
theorem step_end {m : M} (h1 : m.outcome = none) (h2 : m.answer = some false) (h3 : m.frames = []) : m.step = { m with outcome := some .failed } := by
  unfold M.step
  rw [h1, h2, h3]
  rfl
/-- the matcher as the pattern's search starts it -/
theorem search_is (t : Array Nat) (s : Nat) (hs : s ≤ t.size) : ∃ m, MGoes ((9 * t.size + 20) * (t.size + 2)) (forSearch qcode t 0 s t.size false) m ∧ Ends t s (findQ (t.toList.drop s)) m := by
  rcases Nat.lt_or_ge (t.size - s) 2 with h2 | h2
  · obtain ⟨m, e, h3, h4, h5⟩ := fresh_small t s h2
    rw [findQ_short (by simp; omega), e]
    exact ⟨_, (MGoes.one h3 (step_end h3 h4 h5)).mono (Nat.mul_pos (by omega) (by omega)), rfl⟩
  · rw [fresh_big t s h2 hs]
    obtain ⟨m, g, hm⟩ := searches (9 * t.size + 20) (Nat.le_refl _) (t.toList.drop s) s false true (({} : Seen).add 14) hs rfl
    refine ⟨m, g.mono (Nat.mul_le_mul (Nat.le_refl _) ?_), hm⟩
    simp; omega
theorem ends_out {t : Array Nat} {s : Nat} {r : Option (Nat × List Nat)} {m : M} (h : Ends t s r m) : m.outcome.isSome = true := by
  match r, h with
  | none, h => rw [show m.outcome = _ from h]; rfl
  | some q, h => rw [h.1]; rfl
theorem run_stay {m : M} (h : m.outcome.isSome = true) : ∀ k, M.runFor k m = m
  | 0 => rfl
  | k + 1 => by show (if m.outcome.isSome then m else _) = m; rw [if_pos h]
/-- in turns of four steps -/
theorem goes_four {k : Nat} {m m' : M} (g : MGoes k m m') (h : m'.outcome.isSome = true) : M.runFor (4 * (k + 1)) m = m' := by
  obtain ⟨n, hn, e⟩ := g
  have e2 : 4 * (k + 1) = n + (4 * (k + 1) - n) := by omega
  rw [e2, run_add, e, run_stay h]
end Mine
end
section
open PySem PySem.W PyProof.Rows PySem.Calls
set_option Elab.async false
set_option maxRecDepth 100000
namespace Mine
theorem plainAttrs_re : PlainAttrs "re.Pattern" :=
  ⟨⟨"object.__getattribute__", by rw [typeLookup_type, builtinLookup_eq_fast]; kernel_rfl, by decide +kernel⟩, by rw [typeLookup_type, builtinLookup_eq_fast]; kernel_rfl⟩
theorem slot_re_sub : Slot "re.Pattern" "sub" "re.Pattern.sub" :=
  .of (owner := "re.Pattern") (n := "sub") (by rw [typeLookup_type, builtinLookup_eq_fast]; kernel_rfl) (by decide +kernel) (by decide +kernel) (by decide +kernel)
    (by first | exact .inl (by decide +kernel) | exact .inr (by decide +kernel)) (by rw [isSubtype_type]; kernel_rfl)
theorem type_re_sub : typeOf (.builtin "re.Pattern.sub") = pure (.type "method_descriptor") := by show builtinType _ = _; rw [builtinType_eq_fast]; kernel_rfl
theorem entry_re_sub : entryFor table "re.Pattern.sub" = some Builtin.«re.Pattern.sub» := entryFor_of_tree (by kernel_rfl)
theorem entry_re_loop : entryFor table "re.Pattern.sub.loop" = some Builtin.«re.Pattern.sub.loop» := entryFor_of_tree (by kernel_rfl)
theorem args_re_sub_3 (a b c : Value) : argsOk "re.Pattern.sub" ⟨[a, b, c], []⟩ := by
  unfold argsOk; kernel_rfl
theorem slot_bytes_join : Slot "bytes" "join" "bytes.join" :=
  .of (owner := "bytes") (n := "join") (by rw [typeLookup_type, builtinLookup_eq_fast]; kernel_rfl) (by decide +kernel) (by decide +kernel) (by decide +kernel)
    (by first | exact .inl (by decide +kernel) | exact .inr (by decide +kernel)) (by rw [isSubtype_type]; kernel_rfl)
theorem entry_bytes_join : entryFor table "bytes.join" = some Builtin.«bytes.join» := entryFor_of_tree (by kernel_rfl)
theorem args_bytes_join_2 (a b : Value) : argsOk "bytes.join" ⟨[a, b], []⟩ := by
  unfold argsOk; kernel_rfl
theorem slot_bytes_count : Slot "bytes" "count" "bytes.count" :=
  .of (owner := "bytes") (n := "count") (by rw [typeLookup_type, builtinLookup_eq_fast]; kernel_rfl) (by decide +kernel) (by decide +kernel) (by decide +kernel)
    (by first | exact .inl (by decide +kernel) | exact .inr (by decide +kernel)) (by rw [isSubtype_type]; kernel_rfl)
theorem type_bytes_count : typeOf (.builtin "bytes.count") = pure (.type "method_descriptor") := by show builtinType _ = _; rw [builtinType_eq_fast]; kernel_rfl
theorem entry_bytes_count : entryFor table "bytes.count" = some Builtin.«bytes.count» := entryFor_of_tree (by kernel_rfl)
theorem args_bytes_count_2 (a b : Value) : argsOk "bytes.count" ⟨[a, b], []⟩ := by
  unfold argsOk; kernel_rfl
end Mine
end
section
open PySem PySem.W PyProof.Rows PySem.Calls PySem.Builtin.Re
set_option Elab.async false
set_option maxRecDepth 100000
namespace Mine
section
variable {M : Model} {A : Around} {E : Value → Shared → Prop} {s : Shared}
theorem drive_is {k : Nat} : ∀ {n : Nat} {m m' : Sre.M} {Q : Sre.M → Shared → Prop}, k < n → Sre.M.runFor (4 * (k + 1)) m = m' → m'.outcome.isSome = true → Q m' s → wpAny M A (reDrive n m) Q E s := by
  induction k with
  | zero =>
    intro n m m' Q hn hr ho hq
    obtain ⟨n, rfl⟩ : ∃ j, n = j + 1 := ⟨n - 1, by omega⟩
    unfold reDrive
    have e : m.runFor reTurnSteps = m' := hr
    simp only [e, ho, if_true]
    exact wpAny_pure hq
  | succ k ih =>
    intro n m m' Q hn hr ho hq
    obtain ⟨n, rfl⟩ : ∃ j, n = j + 1 := ⟨n - 1, by omega⟩
    unfold reDrive
    have e : m'  = Sre.M.runFor (4 * (k + 1)) (m.runFor reTurnSteps) := by
      rw [← hr, show 4 * (k + 1 + 1) = 4 + 4 * (k + 1) by omega, run_add]
      rfl
    by_cases h4 : (m.runFor reTurnSteps).outcome.isSome = true
    · have e' : m' = m.runFor reTurnSteps := by rw [e, run_stay h4]
      simp only [h4, if_true]
      exact wpAny_pure (e' ▸ hq)
    · simp only [h4]
      exact wpAny_bind (wpAny_rule (ih (by omega) e.symm ho hq))
theorem rules_go {α : Type} (l : List α) (c : α → Bool) (tag : α → String) {Q : PUnit → Shared → Prop} (h : Q ⟨⟩ s) :
    wpAny M A (forIn l PUnit.unit fun i _ => (if c i = true then (do rule (tag i); pure (ForInStep.yield PUnit.unit)) else pure (ForInStep.yield PUnit.unit))) Q E s := by
  refine wpAny_forIn_list _ (fun _ _ s' => s' = s) _ (fun x rest b s' hs => ?_) (fun b s' hs => hs ▸ h) l _ rfl
  refine wpAny_ite ?_
  by_cases hc : c x = true
  · rw [if_pos hc]; exact wpAny_bind (wpAny_rule (wpAny_pure hs))
  · rw [if_neg hc]; exact wpAny_pure hs
theorem run_is {k : Nat} {m m' : Sre.M} {Q : Option Sre.M → Shared → Prop} (hk : k < 2 ^ 64) (g : MGoes k m m') (t : Array Nat) (st0 : Nat) (r : Option (Nat × List Nat)) (he : Ends t st0 r m')
    (h : Q (r.map fun _ => m') s) : wpAny M A (reRunToEnd m) Q E s := by
  unfold reRunToEnd
  refine wpAny_bind (drive_is hk (goes_four g (ends_out he)) (ends_out he) ?_)
  refine wpAny_bind (rules_go _ _ _ ?_)
  match r, he, h with
  | none, he, h => rw [show m'.outcome = _ from he]; exact wpAny_pure h
  | some q, he, h => rw [he.1]; exact wpAny_pure h
end
end Mine
end
section
open PySem PySem.W PyProof.Rows PySem.Calls
set_option Elab.async false
set_option maxRecDepth 100000
namespace Mine
open Builtin
/-- a byte is counted -/
theorem occ_one (b : Array UInt8) (c : UInt8) : (Bytes.occurrences b #[c] 0 b.size).length = b.toList.count c := by
  unfold Bytes.occurrences
  have e1 : (List.range (b.size + 1 - (0 + (#[c] : Array UInt8).size))).map (· + 0) = List.range b.size := by simp
  simp only [e1]
  rw [List.length_reverse]
  have key : ∀ n, n ≤ b.size → (((List.range n).foldl (fun (acc : List Nat × Nat) i => if (i ≥ acc.2 && b.extract i (i + (#[c] : Array UInt8).size) == #[c]) = true then (i :: acc.1, i + (#[c] : Array UInt8).size) else acc) ([], 0)).1.length = (b.toList.take n).count c ∧
      ((List.range n).foldl (fun (acc : List Nat × Nat) i => if (i ≥ acc.2 && b.extract i (i + (#[c] : Array UInt8).size) == #[c]) = true then (i :: acc.1, i + (#[c] : Array UInt8).size) else acc) ([], 0)).2 ≤ n) := by
    intro n
    induction n with
    | zero => intro _; exact ⟨by simp, Nat.le_refl _⟩
    | succ n ih =>
      intro hn
      obtain ⟨h1, h2⟩ := ih (by omega)
      rw [List.range_succ, List.foldl_append, List.foldl_cons, List.foldl_nil]
      generalize (List.range n).foldl (fun (acc : List Nat × Nat) i => if (i ≥ acc.2 && b.extract i (i + (#[c] : Array UInt8).size) == #[c]) = true then (i :: acc.1, i + (#[c] : Array UInt8).size) else acc) ([], 0) = acc at h1 h2 ⊢
      have hx : b.toList.take (n + 1) = b.toList.take n ++ [b[n]'(by omega)] := by
        rw [List.take_add_one, List.getElem?_eq_getElem (by simp; omega)]; simp
      have hex : b.extract n (n + (#[c] : Array UInt8).size) = #[b[n]'(by omega)] := by
        apply Array.ext
        · simp; omega
        · intro i h1 h2
          simp at h2
          subst h2
          simp
      rw [hx, List.count_append, List.count_singleton, hex]
      have h3 : decide (n ≥ acc.2) = true := by simpa using h2
      rw [h3, Bool.true_and]
      by_cases hc : b[n]'(by omega) = c
      · have e : ((#[b[n]'(by omega)] : Array UInt8) == #[c]) = true := by rw [hc]; simp
        rw [if_pos e]
        have e' : (b[n]'(by omega) == c) = true := by simpa using hc
        rw [e']
        exact ⟨by simp [h1], by simp⟩
      · have e : ((#[b[n]'(by omega)] : Array UInt8) == #[c]) = false := by
          rw [beq_eq_false_iff_ne]
          intro h; apply hc; simpa using h
        rw [if_neg (by rw [e]; exact Bool.false_ne_true)]
        have e' : (b[n]'(by omega) == c) = false := by simpa using hc
        rw [e']
        exact ⟨by simp [h1], by omega⟩
  have := (key b.size (Nat.le_refl _)).1
  rw [this, List.take_of_length_le (by simp)]
section
variable {prog : Program} {w : World} {A : Around} {E : Value → Shared → Prop} {s : Shared}
theorem count_bytes {b : Array UInt8} {c : UInt8} {t u : Tok} {Q : Value → Shared → Prop} (h : ∀ t', Q (.int ((b.toList.count c : Nat) : Int) t') { s with toks := s.toks + 1 }) :
    wpAny (model prog w) A (call (.builtin "bytes.count") [.bytes b t, .bytes #[c] u]) Q E s := by
  refine wpAny_call_entry slot_bytes_count (typeIs_bytes s b t) entry_bytes_count ?_ (args_bytes_count_2 _ _)
  unfold «bytes.count» Bytes.countM
  refine wpAny_bind ?_
  unfold Bytes.searchArgs
  refine wpAny_bind (m := selfAndSome _ _ _ _ _) (wpAny_pure ?_)
  dsimp only
  refine wpAny_bind (m := Bytes.bound? _) (wpAny_pure ?_)
  refine wpAny_bind (m := Bytes.bound? _) (wpAny_pure ?_)
  refine wpAny_bind (m := Bytes.buffer? _ _) (wpAny_of_eq KBy.buffer_eq ?_)
  dsimp only
  refine wpAny_bind (wpAny_pure ?_)
  refine wpAny_bind (m := Bytes.payload _) (wpAny_pure ?_)
  refine wpAny_pure ?_
  have ew : Bytes.window b.size none none = (0, (b.size : Int)) := by
    unfold Bytes.window
    simp only [Option.getD_none]
    rw [if_neg (by omega), if_neg (by omega), Int.min_self]
  rw [ew]
  dsimp only
  have e1 : ((#[c] : Array UInt8).size : Int) = 1 := rfl
  rw [e1]
  by_cases h0 : b.size = 0
  · rw [if_pos (by omega)]
    have eb : b = #[] := Array.eq_empty_of_size_eq_zero h0
    subst eb
    exact wpAny_bind (wpAny_mkInt (wpAny_pure ⟨_, rfl, h _⟩))
  · rw [if_neg (by omega)]
    dsimp only
    have e2 : ((#[c] : Array UInt8).isEmpty) = false := rfl
    rw [e2, if_neg Bool.false_ne_true]
    have e3 : ((b.size : Int)).toNat = b.size := by omega
    have e4 : (0 : Int).toNat = 0 := rfl
    rw [e3, e4, occ_one]
    exact wpAny_bind (wpAny_mkInt (wpAny_pure ⟨_, rfl, h _⟩))
/-- the texts of bytes that a list holds -/
noncomputable def BytesAre : List Value → List (Array UInt8) → Prop
  | [], [] => True
  | v :: vs, x :: xs => (∃ t, v = .bytes x t) ∧ BytesAre vs xs
  | _, _ => False
theorem bytesAre_len : ∀ {vs : List Value} {xs : List (Array UInt8)}, BytesAre vs xs → vs.length = xs.length
  | [], [], _ => rfl
  | [], _ :: _, h => h.elim
  | _ :: _, [], h => h.elim
  | _ :: _, _ :: _, ⟨_, h⟩ => by simp [bytesAre_len h]
theorem bytesAre_snoc {x : Array UInt8} {t : Tok} : ∀ {vs : List Value} {xs : List (Array UInt8)}, BytesAre vs xs → BytesAre (vs ++ [.bytes x t]) (xs ++ [x])
  | [], [], _ => ⟨⟨t, rfl⟩, trivial⟩
  | [], _ :: _, h => h.elim
  | _ :: _, [], h => h.elim
  | _ :: _, _ :: _, ⟨h1, h⟩ => ⟨h1, bytesAre_snoc h⟩
theorem bytesAre_get : ∀ {vs : List Value} {xs : List (Array UInt8)}, BytesAre vs xs → ∀ i, i < vs.length → ∃ x t, vs[i]? = some (.bytes x t) ∧ xs[i]? = some x
  | [], [], _, _, h => by simp at h
  | [], _ :: _, h, _, _ => h.elim
  | _ :: _, [], h, _, _ => h.elim
  | _ :: _, x :: _, ⟨⟨t, rfl⟩, h⟩, 0, _ => ⟨x, t, rfl, rfl⟩
  | _ :: _, x :: _, ⟨_, h⟩, i + 1, hi => bytesAre_get h i (by simpa using hi)
theorem joined_nil (xs : List (Array UInt8)) : (Bytes.joined #[] xs).toList = (xs.map (·.toList)).flatten := by
  unfold Bytes.joined
  have key : ∀ (l : List (Array UInt8 × Nat)) (acc : Array UInt8), (l.foldl (fun out (p : Array UInt8 × Nat) => (if p.2 > 0 then out ++ (#[] : Array UInt8) else out) ++ p.1) acc).toList = acc.toList ++ (l.map (·.1.toList)).flatten := by
    intro l
    induction l with
    | nil => intro acc; simp
    | cons p l ih =>
      intro acc
      rw [List.foldl_cons, ih]
      split <;> simp
  have e := key xs.zipIdx #[]
  refine Eq.trans ?_ (e.trans ?_)
  · rfl
  · simp only [List.nil_append]
    congr 1
    have fst : ∀ (l : List (Array UInt8)) (k : Nat), (l.zipIdx k).map (fun x => x.1.toList) = l.map (·.toList) := by
      intro l
      induction l with
      | nil => intro k; rfl
      | cons x l ih => intro k; rw [List.zipIdx_cons, List.map_cons, ih]; rfl
    exact fst xs 0
theorem buffer_full {id : String} {f : Bool} {b : Array UInt8} {t : Tok} : Bytes.buffer? id (.bytes b t) f = pure (some b) := by
  unfold Bytes.buffer?
  rw [KBy.special_eq KBy.look_buffer, KBy.own_buffer, KBy.own_release]
  kernel_rfl
theorem take_eq {id : String} {b : Array UInt8} {t : Tok} : Bytes.takeBufferQuiet? id (.bytes b t) 0 = pure (some (b, none)) := by
  unfold Bytes.takeBufferQuiet? Bytes.takeBuffer?
  rw [KBy.special_eq KBy.look_buffer, KBy.own_buffer, buffer_full]
  kernel_rfl
theorem letGo_go : ∀ {taken : List (Value × Option Value)} {keep : List Value} {s : Shared} {Q : Unit → Shared → Prop}, (∀ y ∈ taken, y.2 = none ∧ ∃ c t, y.1 = .bytes c t) → Q () s → wpAny (model prog w) A (Bytes.joinLetGo taken keep) Q E s
  | [], _, _, _, _, h => wpAny_pure h
  | (x, o) :: rest, keep, s, Q, hy, h => by
    have e : o = none := (hy _ (.head _)).1
    subst e
    unfold Bytes.joinLetGo
    exact wpAny_bind (wpAny_letGo (letGo_go (fun y hy' => hy y (.tail _ hy')) h))
theorem sizes_le {xs : List (Array UInt8)} : ((xs.map (·.toList)).flatten).length = (xs.map (·.size)).sum := by
  induction xs with
  | nil => rfl
  | cons x xs ih => simp [ih]
theorem fold_sizes {xs : List (Array UInt8)} : ∀ {n : Nat}, xs.toArray.foldl (fun (x1 : Nat) (x2 : Array UInt8) => x1 + x2.size) n = n + (xs.map (·.size)).sum := by
  induction xs with
  | nil => intro n; simp
  | cons x xs ih => intro n; simp at ih ⊢; rw [ih]; omega
theorem join_end {xs : List (Array UInt8)} {b2 : List (Value × Option Value)} {b1 : Array (Array UInt8)} {t : Tok} {Q : Fin → Shared → Prop} {str : String} (hsz : ((xs.map (·.toList)).flatten).length ≤ 1000000) (hb1 : b1 = xs.toArray) (hb2 : ∀ y ∈ b2, y.2 = none ∧ ∃ c t, y.1 = .bytes c t)
    (h : ∀ y t' k, y.toList = (xs.map (·.toList)).flatten → Q (.done (.ret (.bytes y t'))) { s with toks := k }) :
    wpAny (model prog w) A (do
            let sep ← Bytes.payload (Value.bytes #[] t)
            if Bytes.tooLong (Array.foldl (fun x1 x2 => x1 + x2.size) (sep.size * (b1.size - 1)) b1) = true then
                do
                (unsupported str : Sem Unit)
                let result ← Bytes.Kind.bytes.new (Bytes.joined sep b1.toList)
                holding (result :: List.flatMap (fun x => x.fst :: x.snd.toList) b2) point
                Bytes.joinLetGo b2 [result]
                ret result
              else do
                let result ← Bytes.Kind.bytes.new (Bytes.joined sep b1.toList)
                holding (result :: List.flatMap (fun x => x.fst :: x.snd.toList) b2) point
                Bytes.joinLetGo b2 [result]
                ret result) Q E s := by
  subst hb1
  refine wpAny_bind (m := Bytes.payload _) (wpAny_pure ?_)
  have hj := joined_nil xs
  have hs : (Bytes.joined #[] xs).size = ((xs.map (·.toList)).flatten).length := by rw [← hj]; simp
  refine ifF (by
    have e : Bytes.tooLong (Array.foldl (fun (x1 : Nat) (x2 : Array UInt8) => x1 + x2.size) ((#[] : Array UInt8).size * (xs.toArray.size - 1)) xs.toArray) = false := KBy.tooLong_not (by rw [fold_sizes, ← sizes_le]; simp at hsz ⊢; omega)
    rw [e]; exact Bool.false_ne_true) ?_
  show wpAny _ _ (mkBytes (Bytes.joined #[] xs.toArray.toList) >>= fun r => _) _ _ _
  refine wpAny_bind (wpAny_mkBytes ?_ (by show (Bytes.joined #[] xs).size ≤ _; rw [hs, sizeLine_eq]; omega))
  refine wpAny_bind (wpAny_holding (wpAny_point ?_))
  refine wpAny_bind (letGo_go hb2 ?_)
  exact wpAny_pure (h _ _ _ hj)
theorem join_bytes {a : Addr} {vs : List Value} {xs : List (Array UInt8)} {n : Nat} {t : Tok} {Q : Value → Shared → Prop} (ha : s.heap.get? a = some (W.listOf vs.toArray n)) (hv : BytesAre vs xs) (hsz : ((xs.map (·.toList)).flatten).length ≤ 1000000)
    (h : ∀ y t' k, y.toList = (xs.map (·.toList)).flatten → Q (.bytes y t') { s with toks := k }) :
    wpAny (model prog w) A (call (.builtin "bytes.join") [.bytes #[] t, .ref a]) Q E s := by
  refine wpAny_call_entry slot_bytes_join (typeIs_bytes s _ t) entry_bytes_join ?_ (args_bytes_join_2 _ _)
  have hT : s.TypeIs (.ref a) "list" := ⟨_, ha, rfl⟩
  unfold «bytes.join» Bytes.joinM
  refine wpAny_bind (m := selfAndOne _ _) (wpAny_pure ?_)
  dsimp only
  show wpAny _ _ (Bytes.joinItems (.ref a) >>= fun seq => _) _ _ _
  unfold Bytes.joinItems
  refine wpAny_bind (wpAny_bind (wpAny_typeOf hT ?_))
  refine ifT (by decide) ?_
  refine wpAny_pure ?_
  refine wpAny_bind (wpAny_seqItems ha rfl ?_)
  dsimp only
  refine ifT (by decide) ?_
  rcases vs with _ | ⟨v, _ | ⟨v', r⟩⟩
  · rcases xs with _ | ⟨x, xs⟩
    · show wpAny _ _ (forIn [:0] _ _ >>= fun r => _) _ _ _
      rw [KPc.range_list]
      refine wpAny_bind (wpAny_pure ?_)
      exact join_end (xs := []) hsz rfl (fun _ h => nomatch h) (fun y t' k e => ⟨_, rfl, h y t' k e⟩)
    · exact hv.elim
  · rcases xs with _ | ⟨x, _ | ⟨x', xs⟩⟩
    · exact hv.elim
    · obtain ⟨⟨tx, rfl⟩, _⟩ := hv
      show wpAny _ _ (typeOf (.bytes x tx) >>= fun r => _) _ _ _
      refine wpAny_bind (wpAny_typeOf (typeIs_bytes s x tx) ?_)
      refine ifT (by decide) ?_
      exact wpAny_bind (wpAny_rule (wpAny_pure ⟨_, rfl, h x tx s.toks (by simp)⟩))
    · exact hv.2.elim
  · show wpAny _ _ (forIn [:(v :: v' :: r).toArray.size] _ _ >>= fun r => _) _ _ _
    refine wpAny_bind ?_
    rw [KPc.range_list]
    have hl := bytesAre_len hv
    refine wpAny_forIn_list _ (fun l (b : Array (Array UInt8) × List (Value × Option Value)) s' => ∃ i, l = List.range' i ((v :: v' :: r).length - i) 1 ∧ i ≤ (v :: v' :: r).length ∧ s' = s ∧ b.1 = (xs.take i).toArray ∧ (∀ y ∈ b.2, y.2 = none ∧ ∃ c t, y.1 = .bytes c t)) _ ?_ ?_ _ _ ⟨0, by simp, by simp, rfl, by simp, by simp⟩
    · rintro i rest ⟨b1, b2⟩ s' ⟨j, hj, hj2, rfl, hb1, hb2⟩
      dsimp only at hb1 hb2 ⊢
      have hji : i = j ∧ j < (v :: v' :: r).length ∧ rest = List.range' (j + 1) ((v :: v' :: r).length - (j + 1)) 1 := by
        rcases Nat.lt_or_ge j (v :: v' :: r).length with hl' | hl'
        · rw [show (v :: v' :: r).length - j = ((v :: v' :: r).length - (j + 1)) + 1 by omega, List.range'_succ] at hj
          obtain ⟨h1, h2⟩ := List.cons.inj hj
          exact ⟨h1, hl', h2⟩
        · rw [show (v :: v' :: r).length - j = 0 by omega] at hj
          cases hj
      obtain ⟨rfl, hlt, hrest⟩ := hji
      obtain ⟨x, tx, hx1, hx2⟩ := bytesAre_get hv i hlt
      have hget : (v :: v' :: r).toArray.getD i Value.none = .bytes x tx := by
        rw [Array.getD_eq_getD_getElem?]
        simp [hx1]
      refine wpAny_bind (wpAny_seqItems ha rfl ?_)
      dsimp only
      have hany : (b2.any fun x => x.fst.onHeap) = false := by
        rw [List.any_eq_false]
        intro y hy
        obtain ⟨_, c, t, e⟩ := hb2 y hy
        rw [e]
        exact Bool.false_ne_true
      refine ifF (by rw [hany]; decide) ?_
      rw [hget]
      refine wpAny_bind (wpAny_holding (wpAny_of_eq take_eq ?_))
      dsimp only
      refine wpAny_bind (wpAny_seqItems ha rfl ?_)
      dsimp only
      refine ifF (by simp) ?_
      refine wpAny_pure ⟨i + 1, hrest, hlt, rfl, ?_, ?_⟩
      · show b1.push x = _
        rw [hb1, List.take_add_one, hx2]
        simp
      · intro y hy
        rcases List.mem_append.mp hy with hy | hy
        · exact hb2 y hy
        · rw [List.mem_singleton] at hy
          subst hy
          exact ⟨rfl, x, tx, rfl⟩
    · rintro ⟨b1, b2⟩ s' ⟨j, hj, hj2, rfl, hb1, hb2⟩
      dsimp only at hb1 hb2 ⊢
      have hjl : j = (v :: v' :: r).length := by
        rcases Nat.lt_or_ge j (v :: v' :: r).length with hl' | hl'
        · rw [show (v :: v' :: r).length - j = ((v :: v' :: r).length - (j + 1)) + 1 by omega, List.range'_succ] at hj
          cases hj
        · omega
      rw [hjl, hl, List.take_length] at hb1
      exact join_end hsz hb1 hb2 (fun y t' k e => ⟨_, rfl, h y t' k e⟩)
end
end Mine
end
section
open PySem PySem.W PyProof.Rows PySem.Calls PySem.Builtin PySem.Builtin.Re
set_option Elab.async false
set_option maxRecDepth 100000
namespace Mine
/-- the text without what stands in quotes -/
noncomputable def strip : Nat → List Nat → List Nat
  | 0, u => u
  | _ + 1, [] => []
  | n + 1, c :: t => match (if c = 34 then closeQ t else none) with
    | some r => strip n r
    | none => c :: strip n t
theorem qlen {c : Nat} {t r : List Nat} (h : (if c = 34 then closeQ t else none) = some r) : r.length < t.length := by
  split at h
  · exact closeQ_len h
  · cases h
theorem strip_fuel : ∀ (n n' : Nat) (u : List Nat), u.length ≤ n → u.length ≤ n' → strip n u = strip n' u := by
  intro n
  induction n with
  | zero =>
    intro n' u h h'
    have : u = [] := List.eq_nil_of_length_eq_zero (by omega)
    subst this
    cases n' <;> rfl
  | succ n ih =>
    intro n' u h h'
    match u, n', h' with
    | [], 0, _ => rfl
    | [], _ + 1, _ => rfl
    | c :: t, n' + 1, h' =>
      unfold strip
      cases hq : (if c = 34 then closeQ t else none) with
      | none => simp only; rw [ih n' t (by simpa using h) (by simpa using h')]
      | some r => have := qlen hq; simp only; exact ih n' r (by simp at h; omega) (by simp at h'; omega)
theorem strip_none : ∀ (n : Nat) (u : List Nat), findQ u = none → strip n u = u := by
  intro n
  induction n with
  | zero => intro u _; rfl
  | succ n ih =>
    intro u h
    match u, h with
    | [], _ => rfl
    | c :: t, h =>
      unfold findQ at h
      unfold strip
      cases hq : (if c = 34 then closeQ t else none) with
      | some r => rw [hq] at h; cases h
      | none =>
        rw [hq] at h
        simp only at h ⊢
        rw [Option.map_eq_none_iff] at h
        rw [ih t h]
theorem find_len : ∀ (u : List Nat) (k : Nat) (r : List Nat), findQ u = some (k, r) → r.length + k < u.length := by
  intro u
  induction u with
  | nil => intro k r h; cases h
  | cons c t ih =>
    intro k r h
    unfold findQ at h
    cases hq : (if c = 34 then closeQ t else none) with
    | some r' =>
      rw [hq] at h
      have := qlen hq
      cases h
      simp; omega
    | none =>
      rw [hq] at h
      simp only at h
      obtain ⟨⟨k', r'⟩, e, h2⟩ := Option.map_eq_some_iff.mp h
      cases h2
      have := ih k' r' e
      simp; omega
theorem strip_some : ∀ (u : List Nat) (n k : Nat) (r : List Nat), u.length ≤ n → findQ u = some (k, r) → strip n u = u.take k ++ strip n r := by
  intro u
  induction u with
  | nil => intro n k r _ h; cases h
  | cons c t ih =>
    intro n k r hn h
    have hl := find_len _ _ _ h
    obtain ⟨n, rfl⟩ : ∃ j, n = j + 1 := ⟨n - 1, by simp at hn; omega⟩
    rw [show strip (n + 1) (c :: t) = (match (if c = 34 then closeQ t else none) with | some r => strip n r | none => c :: strip n t) from rfl]
    unfold findQ at h
    cases hq : (if c = 34 then closeQ t else none) with
    | some r' =>
      rw [hq] at h
      have := qlen hq
      cases h
      simp only [List.take_zero, List.nil_append]
      exact strip_fuel _ _ _ (by simp at hn; omega) (by simp at hn; omega)
    | none =>
      rw [hq] at h
      simp only at h ⊢
      obtain ⟨⟨k', r'⟩, e, h2⟩ := Option.map_eq_some_iff.mp h
      cases h2
      rw [ih n k' r' (by simpa using hn) e, List.take_succ_cons, List.cons_append]
      have h3 := find_len _ _ _ e
      rw [strip_fuel n (n + 1) r' (by simp at hn; omega) (by simp at hn; omega)]
section
variable {prog : Program} {w : World} {A : Around} {E : Value → Shared → Prop} {s : Shared}
/-- the pattern's object -/
structure PatAt (h : Heap) (pa ct : Addr) : Prop where
  there : ∃ o fs, h.get? pa = some o ∧ o.cls = .type "re.Pattern" ∧ o.dict = none ∧ o.data = .fields fs ∧ fs.getD 5 .none = .ref ct ∧ reRawNat (fs.getD 6 .none) = 1 ∧ reRawNat (fs.getD 2 .none) = 0
  code : ∃ o items n, h.get? ct = some o ∧ o.data = .seq items n ∧ (items.map reRawOf).map (·.toNat) = qcode
theorem PatAt.keeps {h h' : Heap} {pa ct : Addr} (P : PatAt h pa ct) (k : ∀ b o, h.get? b = some o → h'.get? b = some o) : PatAt h' pa ct := by
  obtain ⟨⟨o, fs, a, b⟩, ⟨o', items, n, c, d⟩⟩ := P
  exact ⟨⟨o, fs, k _ _ a, b⟩, ⟨o', items, n, k _ _ c, d⟩⟩
noncomputable def nat8 (b : Array UInt8) : Array Nat := b.map (·.toNat)
theorem not_str {b : Array UInt8} {t : Tok} : asStr? (.bytes b t) = pure none := by rfl
theorem text_is {b : Array UInt8} {t : Tok} : reTextOf (.bytes b t) = pure (nat8 b, 1) := by
  unfold reTextOf
  rw [not_str, KBy.quiet_eq]
  rfl
theorem noInside {b : Array UInt8} {t : Tok} : reNoCollectionInside (.bytes b t) 1 = pure ⟨⟩ := by
  unfold reNoCollectionInside
  rw [KBy.isInstance_eq]
  rfl
theorem target_is {pa ct : Addr} {b : Array UInt8} {t : Tok} {Q : ReTarget → Shared → Prop} (P : PatAt s.heap pa ct)
    (h : Q { pattern := .ref pa, string := .bytes b t, code := qcode, text := nat8 b, kind := 1, groups := 0, pos := 0, lim := (nat8 b).size } s) :
    wpAny (model prog w) A (reWholeTarget (.ref pa) (.bytes b t)) Q E s := by
  obtain ⟨⟨o, fs, ho, hc, hdn, hd, h5, h6, h2⟩, ⟨o', items, n, ho', hd', hq⟩⟩ := P
  unfold reWholeTarget
  refine wpAny_bind (wpAny_fieldsOf ho hd ?_)
  rw [text_is]
  refine wpAny_bind (wpAny_pure ?_)
  dsimp only
  rw [h6, h5, h2]
  refine wpAny_ite ?_
  rw [if_neg (by decide)]
  refine wpAny_ite ?_
  rw [if_neg (by decide), noInside]
  refine wpAny_bind (wpAny_pure ?_)
  unfold reRawItems
  refine wpAny_bind (wpAny_bind (wpAny_seqItems ho' hd' (wpAny_pure ?_)))
  show wpAny _ _ (pure _) _ _ _
  rw [show (Option.getD (some items) #[]) = items from rfl, hq]
  exact wpAny_pure h
theorem found_is {pa ct : Addr} {b : Array UInt8} {t : Tok} {i : Nat} {Q : Option Sre.M → Shared → Prop} (hi : i ≤ (nat8 b).size) (hb : b.size < 1000)
    (h : ∀ m, Ends (nat8 b) i (findQ ((nat8 b).toList.drop i)) m → Q ((findQ ((nat8 b).toList.drop i)).map fun _ => m) s) :
    wpAny (model prog w) A (reNextFound { pattern := .ref pa, string := .bytes b t, code := qcode, text := nat8 b, kind := 1, groups := 0, pos := 0, lim := (nat8 b).size } i false) Q E s := by
  obtain ⟨m, g, e⟩ := search_is (nat8 b) i hi
  have hz : (nat8 b).size = b.size := by simp [nat8]
  have hk : (9 * (nat8 b).size + 20) * ((nat8 b).size + 2) ≤ (9 * 1000 + 20) * (1000 + 2) := Nat.mul_le_mul (by omega) (by omega)
  exact run_is (Nat.lt_of_le_of_lt hk (by decide)) g (nat8 b) i _ e (h m e)
theorem literal_is {u : Tok} : reLiteralCannotBeTurned (.bytes #[] u) = pure ⟨⟩ := by
  unfold reLiteralCannotBeTurned
  rw [not_str]
  show (isInstance (.bytes #[] u) (.type "bytes") >>= fun r => _) = _
  rw [KBy.isInstance_eq]
  rfl
theorem push_upd {l : Addr} {vs : List Value} {k : Nat} {v : Value} {h₀ : Heap} {L : Addr} {m : PySem.Str → Option Value} {news : List (Addr × Obj)} {Q : Unit → Shared → Prop}
    (F : Fr h₀ L s.heap m) (N : News h₀ L s.heap ((l, W.listOf vs.toArray k) :: news)) (hap : ∀ p ∈ news, p.1 ≠ l) (hz : vs.length ≤ 100000)
    (h : ∀ h', Fr h₀ L h' m → News h₀ L h' ((l, W.listOf (vs ++ [v]).toArray (k + 1)) :: news) → Q () { s with heap := h' }) :
    wpAny (model prog w) A (updateSeq l (·.push v)) Q E s := by
  have z := N _ (.head _)
  refine wpAny_updateSeq z.1 rfl (h _ (F.change (Heap.SameBut.update ..) z.2.1 z.2.2) ?_) (by simp [sizeLine_eq]; omega) (by simp [sizeLine_eq]; omega)
  refine News.setHead N hap (Heap.SameBut.update ..) ?_
  rw [Heap.get?_update_self _ z.1 rfl]
  have e := mapSeq_push vs.toArray k v none #[]
  simp only [List.push_toArray] at e
  exact congrArg some e
end
end Mine
end
section
open PySem PySem.W PyProof.Rows PySem.Calls PySem.Builtin PySem.Builtin.Re
set_option Elab.async false
set_option maxRecDepth 100000
namespace Mine
section
variable {prog : Program} {w : World} {A : Around} {E : Value → Shared → Prop} {s : Shared}
noncomputable def loopArgs (pa l : Addr) (b : Array UInt8) (t u : Tok) (cnt : Int) (done : Nat) : Args :=
  ⟨[.ref pa, .bytes b t, .bytes #[] u, rawInt 0, rawInt 0, rawInt cnt, rawInt done, rawInt done, .bool false, .ref l, .bool false], []⟩
theorem close_suffix : ∀ (u r : List Nat), closeQ u = some r → ∃ p, u = p ++ r
  | [], _, h => by cases h
  | [c], r, h => by
    unfold closeQ at h
    split at h
    · cases h; exact ⟨[c], by simp⟩
    · cases h
  | c :: d :: t, r, h => by
    unfold closeQ at h
    split at h
    · cases h; exact ⟨[c], rfl⟩
    · split at h
      · split at h
        · cases h
        · obtain ⟨p, hp⟩ := close_suffix t r h
          exact ⟨c :: d :: p, by rw [hp]; rfl⟩
      · obtain ⟨p, hp⟩ := close_suffix (d :: t) r h
        exact ⟨c :: p, by rw [hp]; rfl⟩
theorem find_suffix : ∀ (u : List Nat) (k : Nat) (r : List Nat), findQ u = some (k, r) → ∃ p, u = p ++ r := by
  intro u
  induction u with
  | nil => intro k r h; cases h
  | cons c t ih =>
    intro k r h
    unfold findQ at h
    cases hq : (if c = 34 then closeQ t else none) with
    | some r' =>
      rw [hq] at h
      cases h
      split at hq
      · obtain ⟨p, hp⟩ := close_suffix t r hq
        exact ⟨c :: p, by rw [hp]; rfl⟩
      · cases hq
    | none =>
      rw [hq] at h
      simp only at h
      obtain ⟨⟨k', r'⟩, e, h2⟩ := Option.map_eq_some_iff.mp h
      cases h2
      obtain ⟨p, hp⟩ := ih k' r' e
      exact ⟨c :: p, by rw [hp]; rfl⟩
theorem slice_is {t : Array Nat} {i j : Nat} {Q : Value → Shared → Prop} (hz : t.size < 1000) (h : ∀ y t' k, y.toList = ((t.toList.drop i).take (j - i)).map (·.toUInt8) → Q (.bytes y t') { s with toks := k }) :
    wpAny (model prog w) A (reSlice t 1 i j) Q E s := by
  show wpAny _ _ (mkBytes ((t.extract i j).map (·.toUInt8))) _ _ _
  refine wpAny_mkBytes (h _ _ _ ?_) (by simp [sizeLine_eq]; omega)
  simp [Array.toList_extract, List.extract_eq_take_drop]
theorem quiet_loop (args : Args) : (Code.builtin "re.Pattern.sub.loop" args).quiet = true := Code.quiet_builtin _ (by decide +kernel)
theorem plain_loop : plainId "re.Pattern.sub.loop" = true := by decide +kernel
theorem nat8_size (b : Array UInt8) : (nat8 b).size = b.size := by simp [nat8]
theorem tail_is {l : Addr} {b : Array UInt8} {vs : List Value} {xs : List (Array UInt8)} {c : Nat} {h₀ : Heap} {L : Addr} {m : PySem.Str → Option Value} {news : List (Addr × Obj)} {X : Value → Sem Fin} {Q : Fin → Shared → Prop} (hb : b.size < 1000)
    (F : Fr h₀ L s.heap m) (N : News h₀ L s.heap ((l, W.listOf vs.toArray c) :: news)) (hv : BytesAre vs xs) (hsz : ((xs.map (·.toList)).flatten).length ≤ 1000000)
    (h : ∀ y t' tk, y.toList = (xs.map (·.toList)).flatten → Q (.done (.ret (.bytes y t'))) { s with toks := tk }) :
    wpAny (model prog w) A (do
      let joiner ← reSlice (nat8 b) 1 0 0
      let its ← seqItems? (Value.ref l)
      if (its.getD #[]).isEmpty = true then do
          let text ← pure joiner
          if false = true then X text else ret text
        else do
          let text ← call (Value.builtin (if (1 == 0) = true then "str.join" else "bytes.join")) [joiner, Value.ref l]
          if false = true then X text else ret text) Q E s := by
  refine wpAny_bind (slice_is (by rw [nat8_size]; omega) fun y t' k hy => ?_)
  have hy0 : y = #[] := by
    have : y.toList = [] := by rw [hy]; simp
    simpa using this
  subst hy0
  refine wpAny_bind (wpAny_seqItems (N _ (.head _)).1 rfl ?_)
  refine wpAny_ite ?_
  rcases vs with _ | ⟨v, vs⟩
  · rw [if_pos (by rfl)]
    refine wpAny_bind (wpAny_pure ?_)
    rw [if_neg Bool.false_ne_true]
    rcases xs with _ | ⟨x, xs⟩
    · exact wpAny_pure (h #[] t' k (by simp))
    · exact hv.elim
  · rw [if_neg (by simp), if_neg (by decide)]
    refine wpAny_bind (join_bytes (N _ (.head _)).1 hv hsz fun y t'' k' hy => ?_)
    rw [if_neg Bool.false_ne_true]
    exact wpAny_pure (h y t'' k' hy)
theorem sub_loop {pa ct l : Addr} {b : Array UInt8} {t u : Tok} {h₀ : Heap} {L : Addr} {m : PySem.Str → Option Value} {news : List (Addr × Obj)} {R : Result → Shared → Prop} {os0 : Shared} (hb : b.size < 1000)
    (k : ∀ h' y t' tk, Fr h₀ L h' m → News h₀ L h' news → y.toList = (strip b.size (nat8 b).toList).map (·.toUInt8) → R (.ok (.ret (.bytes y t'))) { os0 with heap := h', toks := tk }) :
    ∀ (n : Nat) (rem : List Nat) (done : Nat) (cnt : Int) (vs : List Value) (xs : List (Array UInt8)) (c : Nat) (h : Heap) (tk : Nat), rem.length < n → (nat8 b).toList.drop done = rem → done ≤ b.size → PatAt h₀ pa ct → Fr h₀ L h m →
      News h₀ L h ((l, W.listOf vs.toArray c) :: news) → (∀ p ∈ news, p.1 ≠ l) → BytesAre vs xs → vs.length ≤ 2 * done → (xs.map (·.toList)).flatten ++ (strip rem.length rem).map (·.toUInt8) = (strip b.size (nat8 b).toList).map (·.toUInt8) → ((xs.map (·.toList)).flatten).length ≤ done →
      codeAny (model prog w) A (.builtin "re.Pattern.sub.loop" (loopArgs pa l b t u cnt done)) R { os0 with heap := h, toks := tk } := by
  intro n
  induction n with
  | zero => intro rem _ _ _ _ _ _ _ hn; omega
  | succ n ih =>
    intro rem done cnt vs xs c h tk hn hrem hdone P F N hap hv hvl heq hxl
    have hz := nat8_size b
    refine codeAny_builtin entry_re_loop ?_
    rw [Around.under_plainId plain_loop]
    show wpAny _ _ (reWholeTarget (.ref pa) (.bytes b t) >>= fun r => _) _ _ _
    refine wpAny_bind (target_is (P.keeps F.keep) ?_)
    refine ifT (by decide) ?_
    rw [literal_is]
    refine wpAny_bind (wpAny_pure ?_)
    dsimp only
    refine wpAny_bind (ifF (by simp) ?_)
    rw [Int.toNat_natCast]
    refine found_is (pa := pa) (ct := ct) (by omega) hb fun mm he => ?_
    rw [hrem] at he ⊢
    cases hf : findQ rem with
    | none =>
      rw [hf] at he
      show wpAny _ _ (ite _ _ _) _ _ _
      rw [strip_none _ _ hf] at heq
      have hrl : done + rem.length = b.size := by rw [← hz]; exact drop_len hrem (by omega)
      refine wpAny_ite ?_
      by_cases hlt : done < (nat8 b).size
      · rw [if_pos hlt]
        refine wpAny_bind (slice_is (by omega) fun y t' tk' hy => ?_)
        refine wpAny_bind (push_upd F N hap (by omega) fun h' F' N' => ?_)
        have hy' : y.toList = rem.map (·.toUInt8) := by rw [hy, hrem, List.take_of_length_le (by omega)]
        have hxs : ((xs ++ [y]).map (·.toList)).flatten = (strip b.size (nat8 b).toList).map (·.toUInt8) := by
          rw [← heq]; simp [hy']
        refine tail_is hb F' N' (bytesAre_snoc hv) (by rw [List.map_append, List.flatten_append, List.length_append]; simp [hy']; simp at hxl; omega) fun y t' tk'' hy => ?_
        exact k _ _ _ _ F' (fun q hq => N' q (.tail _ hq)) (hy.trans hxs)
      · rw [if_neg hlt]
        have hr0 : rem = [] := List.eq_nil_of_length_eq_zero (by omega)
        refine tail_is hb F N hv (by omega) fun y t' tk'' hy => ?_
        refine k _ _ _ _ F (fun q hq => N q (.tail _ hq)) (hy.trans ?_)
        rw [← heq, hr0]
        simp
    | some q =>
      obtain ⟨kk, r⟩ := q
      rw [hf] at he
      obtain ⟨_, hst, hhd, _⟩ := he
      show wpAny _ _ (ite _ _ _) _ _ _
      have hfl := find_len _ _ _ hf
      have hrl : done + rem.length = b.size := by rw [← hz]; exact drop_len hrem (by omega)
      have hss := strip_some rem rem.length kk r (Nat.le_refl _) hf
      have hmne : (mm.handed == mm.start) = false := by rw [beq_eq_false_iff_ne, hst, hhd]; omega
      have hdr : (nat8 b).toList.drop mm.handed = r := by
        obtain ⟨p, hp⟩ := find_suffix _ _ _ hf
        have h1 : (nat8 b).toList.drop (done + p.length) = r := by
          rw [← List.drop_drop, hrem, hp]; simp
        have h2 : rem.length = p.length + r.length := by rw [hp]; simp
        rw [show mm.handed = done + p.length by omega]
        exact h1
      have next : ∀ (vs' : List Value) (xs' : List (Array UInt8)) (c' : Nat) (h' : Heap) (tk' : Nat), Fr h₀ L h' m → News h₀ L h' ((l, W.listOf vs'.toArray c') :: news) → BytesAre vs' xs' → vs'.length ≤ 2 * done + 1 → (xs'.map (·.toList)).flatten = (xs.map (·.toList)).flatten ++ (rem.take kk).map (·.toUInt8) →
          wpAny (model prog w) A.in1 (updateSeq l (fun x => x.push (Value.bytes #[] u)) >>= fun _ => again (Code.builtin "re.Pattern.sub.loop" { pos := [Value.ref pa, Value.bytes b t, Value.bytes #[] u, rawInt 0, rawInt 0, rawInt (cnt + 1), rawInt mm.handed, rawInt mm.handed, Value.bool (mm.handed == mm.start), Value.ref l, Value.bool false] }))
            (fun fin s' => match fin with
              | Fin.done f => R (Except.ok f) s'
              | Fin.again c' => c'.quiet = true ∧ codeAny (model prog w) A c' R s') (fun e s' => R (Except.error e) s') { os0 with heap := h', toks := tk' } := by
        intro vs' xs' c' h' tk' F' N' hv' hvl' hx'
        refine wpAny_bind (push_upd F' N' hap (by omega) fun h'' F'' N'' => ?_)
        rw [hmne]
        refine wpAny_pure ⟨quiet_loop _, ?_⟩
        have hx2 : ((xs' ++ [(#[] : Array UInt8)]).map (·.toList)).flatten = (xs.map (·.toList)).flatten ++ (rem.take kk).map (·.toUInt8) := by simp [hx']
        refine ih r mm.handed (cnt + 1) _ (xs' ++ [(#[] : Array UInt8)]) _ h'' tk' (by omega) hdr (by rw [hhd]; omega) P F'' N'' hap (bytesAre_snoc hv') (by rw [List.length_append, hhd]; simp; omega) ?_ ?_
        · rw [hx2, ← heq, hss, List.map_append, ← List.append_assoc, strip_fuel r.length rem.length r (Nat.le_refl _) (by omega)]
        · rw [hx2, List.length_append, List.length_map, List.length_take]
          omega
      refine wpAny_ite ?_
      by_cases hlt : done < mm.start
      · rw [if_pos hlt]
        refine wpAny_bind (slice_is (by omega) fun y t' tk' hy => ?_)
        refine wpAny_bind (push_upd F N hap (by omega) fun h' F' N' => ?_)
        have hy' : y.toList = (rem.take kk).map (·.toUInt8) := by
          have e : mm.start - done = kk := by omega
          rw [hy, hrem]
          show (rem.take (mm.start - done)).map _ = _
          rw [e]
        refine ifT (by decide) ?_
        refine wpAny_bind (wpAny_pure ?_)
        refine ifT (by rfl) ?_
        exact next _ (xs ++ [y]) _ _ _ F' N' (bytesAre_snoc hv) (by simp; omega) (by simp [hy'])
      · rw [if_neg hlt]
        refine ifT (by decide) ?_
        refine wpAny_bind (wpAny_pure ?_)
        refine ifT (by rfl) ?_
        have hk0 : kk = 0 := by omega
        exact next _ xs _ _ _ F N hv (by omega) (by rw [hk0]; simp)
end
end Mine
end
section
open PySem PySem.W PyProof.Rows PySem.Calls PySem.Builtin PySem.Builtin.Re
set_option Elab.async false
set_option maxRecDepth 100000
namespace Mine
section
variable {prog : Program} {w : World} {A : Around} {E : Value → Shared → Prop} {s : Shared}
theorem look_call : typeLookup (.type "bytes") "__call__" = pure none := by rw [typeLookup_type, builtinLookup_eq_fast]; kernel_rfl
theorem sub_call {pa ct : Addr} {b : Array UInt8} {t u : Tok} {h₀ : Heap} {L : Addr} {m : PySem.Str → Option Value} {news : List (Addr × Obj)} {Q : Value → Shared → Prop} (hb : b.size < 1000)
    (P : PatAt h₀ pa ct) (F : Fr h₀ L s.heap m) (N : News h₀ L s.heap news)
    (k : ∀ h' y t' tk, Fr h₀ L h' m → News h₀ L h' news → y.toList = (strip b.size (nat8 b).toList).map (·.toUInt8) → Q (.bytes y t') { s with heap := h', toks := tk }) :
    wpAny (model prog w) A (call (.builtin "re.Pattern.sub") [.ref pa, .bytes #[] u, .bytes b t]) Q E s := by
  have P' := P.keeps F.keep
  obtain ⟨o, fs, ho, hc, hdn, hd, h5, h6, h2⟩ := P'.there
  have hT : s.TypeIs (.ref pa) "re.Pattern" := ⟨o, ho, hc⟩
  refine wpAny_call (codeAny_call_builtin slot_re_sub.plain entry_re_sub (slot_re_sub.check _ _ _ _ _ _ _ _ hT (args_re_sub_3 _ _ _) ?_))
  unfold «re.Pattern.sub» reSubstitute
  show wpAny _ _ (reNamed _ _ _ _ [.bytes #[] u, .bytes b t] [] >>= fun r => _) _ _ _
  refine wpAny_bind (wpAny_pure ?_)
  show wpAny _ _ ((pure 0 : Sem Int) >>= fun r => _) _ _ _
  refine wpAny_bind (wpAny_pure ?_)
  show wpAny _ _ (specialOf (.bytes #[] u) "__call__" >>= fun r => _) _ _ _
  rw [KBy.special_eq look_call]
  refine wpAny_bind (wpAny_pure ?_)
  show wpAny _ _ (asStr? (.bytes #[] u) >>= fun r => _) _ _ _
  rw [not_str]
  refine wpAny_bind (wpAny_pure ?_)
  show wpAny _ _ (Bytes.bufferQuiet? _ (.bytes #[] u) >>= fun r => _) _ _ _
  rw [KBy.quiet_eq]
  refine wpAny_bind (wpAny_pure ?_)
  refine wpAny_bind (wpAny_pure ?_)
  dsimp only
  refine wpAny_ite ?_
  rw [if_neg (by simp)]
  refine wpAny_ite ?_
  rw [if_pos (by simp)]
  refine wpAny_bind (wpAny_pure ?_)
  dsimp only
  refine wpAny_bind (wpAny_holding (target_is P' ?_))
  refine wpAny_ite ?_
  rw [if_neg (by decide)]
  refine wpAny_bind (newList_N F N (fun h' F' N' => ?_) (by simp))
  refine wpAny_pure ⟨quiet_loop _, ?_⟩
  have hap : ∀ p ∈ news, p.1 ≠ s.heap.objs.size := fun p hp => Nat.ne_of_lt (Heap.lt_size (N p hp).1)
  have hl : (nat8 b).toList.length = b.size := by simp [nat8]
  refine sub_loop (os0 := s) hb (fun h'' y t' tk F'' N'' hy => k h'' y t' tk F'' N'' hy) (b.size + 1) (nat8 b).toList 0 0 [] [] 0 h' s.toks (by omega) rfl (Nat.zero_le _) P F' N' hap trivial (Nat.zero_le _) ?_ (Nat.zero_le _)
  rw [hl]; rfl
theorem pat_of {K : Frag} {h : Heap} (X : K.In h) {pa ct : Addr} {o o' : Obj} {fs items : Array Value} {n : Nat} (h1 : K.lookup pa = some o) (h2 : K.lookup ct = some o') (hc : o.cls = .type "re.Pattern") (hdn : o.dict = none) (hd : o.data = .fields fs) (h5 : fs.getD 5 .none = .ref ct)
    (h6 : reRawNat (fs.getD 6 .none) = 1) (h7 : reRawNat (fs.getD 2 .none) = 0) (hd' : o'.data = .seq items n) (hq : (items.map reRawOf).map (·.toNat) = qcode) : PatAt h pa ct :=
  ⟨⟨o, fs, X _ _ h1, hc, hdn, hd, h5, h6, h7⟩, ⟨o', items, n, X _ _ h2, hd', hq⟩⟩
theorem method_sub {pa ct : Addr} {pl : Sem Bool} {Q : Value × List Value → Shared → Prop} (P : PatAt s.heap pa ct) (h : Q (.builtin "re.Pattern.sub", [.ref pa]) s) : wpAny (model prog w) A (getMethod (.ref pa) "sub" pl) Q E s := by
  obtain ⟨o, fs, ho, hc, hdn, _⟩ := P.there
  exact getMethod_builtin ⟨o, ho, hc⟩ plainAttrs_re slot_re_sub type_re_sub (fun a e => by cases e; exact ⟨o, ho, hdn⟩) h
theorem method_count {b : Array UInt8} {t : Tok} {pl : Sem Bool} {Q : Value × List Value → Shared → Prop} (h : Q (.builtin "bytes.count", [.bytes b t]) s) : wpAny (model prog w) A (getMethod (.bytes b t) "count" pl) Q E s :=
  getMethod_builtin (typeIs_bytes s b t) PySem.W.FB.plainAttrs_bytes slot_bytes_count type_bytes_count (fun a e => nomatch e) h
end
end Mine
end
section
open PySem PySem.W PyProof.Rows
set_option Elab.async false
namespace Mine
set_option maxRecDepth 100000
set_option maxHeartbeats 8000000
section
local macro_rules | `(tactic| o_head $_) => `(tactic| assumption)
theorem kmk (h : PySem.Challenge.rw_yh0012_01.row.Holds) : PySem.Challenge.rw_yh0012_01.row.Holds := by k_head
end
noncomputable def VIEW : Program := view PySem.Challenge.rw_yh0012_01.row.toRowW.prog [0,2,5,6,7,8,10,11,12,13,14,15,16,17,18,19,20,21,22,23,24,25,26,27,28,29,30,31,32,33,34,35,36,37,38,39,40,41,42,43,44,45,46,47,48,49,50,51,52,53,54,55,56,57,58,59,60,61,62,63,65,66,67,68,69,70,71,72]
end Mine
end
section
open PySem PySem.W PyProof.Rows PySem.Calls
set_option Elab.async false
set_option maxRecDepth 100000
namespace Mine

/-- the caller of the claim stands below -/
noncomputable def Called (Γ : Ctx) : Prop := (Γ.below.any fun c => c.1.isCaller) = true

noncomputable def wpC {α : Type} (M : Model) (A : Around) (t : Sem α) (Q : α → Shared → Prop) (E : Value → Shared → Prop) (s : Shared) : Prop :=
  ∀ Γ p, Γ.In A → Called Γ → Sem.wp M Γ t (fun a _ s' => Q a s') (fun e _ s' => E e s') p s
noncomputable def codeC (M : Model) (A : Around) (c : Code) (R : Result → Shared → Prop) (s : Shared) : Prop :=
  ∀ Γ p, Γ.code = c → Γ.Below A → Called Γ → wpCode M Γ R p s

theorem Called.enter {Γ : Ctx} (h : Called Γ) (c : Code) (hd : Option Value) (p : PySem.Pos) : Called (Γ.enter c hd p) := by
  show (((Γ.code, p) :: Γ.below).any fun c => c.1.isCaller) = true
  rw [List.any_cons, show (Γ.below.any fun c => c.1.isCaller) = true from h, Bool.or_true]
theorem Called.goto {Γ : Ctx} (h : Called Γ) (c : Code) : Called (Γ.goto c) := h

section
variable {α β : Type} {M : Model} {A : Around} {E E' : Value → Shared → Prop} {s : Shared}

theorem wpC_of_any {t : Sem α} {Q : α → Shared → Prop} (h : wpAny M A t Q E s) : wpC M A t Q E s := fun Γ p hΓ _ => h Γ p hΓ
theorem codeC_of_any {c : Code} {R : Result → Shared → Prop} (h : codeAny M A c R s) : codeC M A c R s := fun Γ p hc hΓ _ => h Γ p hc hΓ
theorem wpC_pure {a : α} {Q : α → Shared → Prop} (h : Q a s) : wpC M A (pure a) Q E s := fun _ _ _ _ => h
theorem wpC_mono {t : Sem α} {Q Q' : α → Shared → Prop} (h : wpC M A t Q E s) (hQ : ∀ a s, Q a s → Q' a s) (hE : ∀ e s, E e s → E' e s) : wpC M A t Q' E' s :=
  fun Γ p hΓ hC => Sem.wp_mono M Γ t (fun a _ s => hQ a s) (fun e _ s => hE e s) p s (h Γ p hΓ hC)
theorem wpC_bind {m : Sem α} {f : α → Sem β} {Q : β → Shared → Prop} (h : wpC M A m (fun a s' => wpC M A (f a) Q E s') E s) : wpC M A (m >>= f) Q E s := fun Γ p hΓ hC => by
  rw [Sem.wp_bind']
  exact Sem.wp_mono M Γ m (fun a p' s' h' => h' Γ p' hΓ hC) (fun _ _ _ h' => h') p s (h Γ p hΓ hC)
theorem wpC_bindA {m : Sem α} {f : α → Sem β} {Q : β → Shared → Prop} (h : wpAny M A m (fun a s' => wpC M A (f a) Q E s') E s) : wpC M A (m >>= f) Q E s := wpC_bind (wpC_of_any h)
theorem wpC_onRaise {m : Sem α} {k : Value → Sem Unit} {Q : α → Shared → Prop} (h : wpC M A m Q (fun e s' => wpC M A (k e) (fun _ s'' => E e s'') E s') s) : wpC M A (m.onRaise k) Q E s := fun Γ p hΓ hC => by
  rw [Sem.wp_onRaise]
  exact Sem.wp_mono M Γ m (fun _ _ _ h' => h') (fun e p' s' h' => h' Γ p' hΓ hC) p s (h Γ p hΓ hC)
theorem wpC_attempt {m : Sem α} {Q : Except Value α → Shared → Prop} (h : wpC M A m (fun a => Q (.ok a)) (fun e => Q (.error e)) s) : wpC M A m.attempt Q E s := fun Γ p hΓ hC => by
  rw [Sem.wp_attempt]; exact h Γ p hΓ hC
theorem wpC_holding {vs : List Value} {m : Sem α} {Q : α → Shared → Prop} (h : wpC M A m Q E s) : wpC M A (holding vs m) Q E s := fun Γ p hΓ hC => by
  rw [Sem.wp_holding]; exact h Γ p hΓ hC
theorem wpC_keep {vs : List Value} {m : Sem α} {Q : α → Shared → Prop} (h : wpC M A m Q E s) : wpC M A (m.keep vs) Q E s := fun Γ p hΓ hC => by
  rw [Sem.wp_keep]; exact h Γ p hΓ hC
theorem wpC_standAt {pos : PySem.Pos} {Q : Unit → Shared → Prop} (h : Q () s) : wpC M A (standAt pos) Q E s := fun _ _ _ _ => h

theorem codeC_mono {c : Code} {R R' : Result → Shared → Prop} (h : codeC M A c R s) (hR : ∀ r s, R r s → R' r s) : codeC M A c R' s :=
  fun Γ p hc hΓ hC => wpCode_mono hR (h Γ p hc hΓ hC)
theorem codeC_of_tree {c : Code} {R : Result → Shared → Prop}
    (h : wpC M (A.under c) (M.den c) (fun fin s' => match fin with | .done f => R (.ok f) s' | .again c' => c'.quiet = true ∧ codeC M A c' R s') (fun e s' => R (.error e) s') s) : codeC M A c R s := fun Γ p hc hΓ hC => by
  rw [wpCode_iff_wp, hc]
  refine Sem.wp_mono M Γ _ (fun fin p' s' h' => ?_) (fun _ _ _ h' => h') p s (h Γ p (hc ▸ hΓ.in) hC)
  cases fin with
  | done f => exact h'
  | again c' => exact ⟨h'.1, h'.2 (Γ.goto c') p' rfl (hΓ.goto c') (hC.goto c')⟩
theorem codeC_loop {c : Code} {R : Result → Shared → Prop} (hq : c.quiet = true) (I : Nat → Shared → Prop)
    (turn : ∀ n s, I n s → wpC M (A.under c) (M.den c) (fun fin s' => match fin with
        | .done f => R (.ok f) s'
        | .again c' => (c' = c ∧ ∃ m, m < n ∧ I m s') ∨ (c'.quiet = true ∧ codeC M A c' R s')) (fun e s' => R (.error e) s') s)
    (n : Nat) (h : I n s) : codeC M A c R s := by
  induction n using Nat.strongRecOn generalizing s with
  | ind n ih =>
    refine codeC_of_tree (wpC_mono (turn n s h) (fun fin s' hf => ?_) fun _ _ h' => h')
    cases fin with
    | done f => exact hf
    | again c' =>
      rcases hf with ⟨rfl, m, hm, hI⟩ | hf
      · exact ⟨hq, ih m hm hI⟩
      · exact hf

theorem wpC_run {c : Code} {Q : Flow → Shared → Prop} (hc : codeC M A c (fun r s' => match r with | .ok f => Q f s' | .error e => E e s') s) : wpC M A (run c) Q E s :=
  fun Γ p hΓ hC => by rw [Sem.wp_run]; exact hc _ p rfl (hΓ.enter c none p (by intro x; cases x)) (hC.enter c none p)
theorem wpC_call {f : Value} {pos : List Value} {kw : List (PySem.Str × Value)} {Q : Value → Shared → Prop}
    (hc : codeC M A (.call f ⟨pos, kw⟩) (fun r s' => match r with | .ok (.ret v) => Q v s' | .ok _ => False | .error e => E e s') s) : wpC M A (call f pos kw) Q E s :=
  fun Γ p hΓ hC => by rw [Sem.wp_cmd_call]; exact hc _ p rfl (hΓ.enter _ none p (by intro x; cases x)) (hC.enter _ none p)

/-- from the caller's own context -/
theorem wp_ctx0 {f : Value} {vs : List Value} {R : Result → Shared → Prop} (hc : codeC M callerA (.call f ⟨vs, []⟩) R s) (hret : ∀ fl s', R (.ok fl) s' → ∃ v, fl = .ret v) :
    Sem.wp M ctx0 (call f vs) (fun v _ s' => R (.ok (.ret v)) s') (fun e _ s' => R (.error e) s') default s := by
  rw [Sem.wp_cmd_call]
  refine wpCode_mono (fun r s' hr => ?_) (hc (ctx0.enter (.call f ⟨vs, []⟩) none default) default rfl (caller_in.enter _ none default (by intro x; cases x)) (by rfl))
  cases r with
  | error e => exact hr
  | ok fl => obtain ⟨v, rfl⟩ := hret fl s' hr; exact hr

theorem execs_consC {env : Env} {st : Stmt} {rest : List Stmt} {Q : Flow → Shared → Prop} (h : wpC M A (exec st env) (fun f s' => match f with | .next => wpC M A (execs rest env) Q E s' | f => Q f s') E s) : wpC M A (execs (st :: rest) env) Q E s := fun Γ p hΓ hC => by
  rw [execs_cons, Sem.wp_bind']
  refine Sem.wp_mono M Γ _ (fun f p' s' h' => ?_) (fun _ _ _ h' => h') _ _ (h Γ p hΓ hC)
  cases f <;> first | exact h' Γ p' hΓ hC | exact h'
/-- a statement that is walked, then the rest -/
theorem execs_stepC {env : Env} {st : Stmt} {rest : List Stmt} {Q : Flow → Shared → Prop} (h : wpAny M A (exec st env) (fun f s' => match f with | .next => wpC M A (execs rest env) Q E s' | f => Q f s') E s) : wpC M A (execs (st :: rest) env) Q E s := execs_consC (wpC_of_any h)

theorem assignC {env : Env} {x : PySem.Str} {pos' pos : PySem.Pos} {value : PySem.Expr} {Q : Flow → Shared → Prop} (h : wpC M A (eval value env) (fun v s₁ => wpAny M A (storeName env x v) (fun _ => Q .next) E s₁) E s)
    (hs : swapsWith value (some (.Name x pos')) pos.line env = pure false := by rfl) : wpC M A (exec (.Assign [.Name x pos'] value pos) env) Q E s := fun Γ p hΓ hC => by
  simp only [exec_Assign_Name env x pos' value pos hs, Sem.wp_bind', Sem.wp_cmd_standAt, Sem.wp_bindName, Sem.wp_pure']
  exact Sem.wp_mono M Γ _ (fun v _ s₁ h₁ => h₁ Γ _ hΓ) (fun _ _ _ h' => h') _ _ (h Γ _ hΓ hC)
theorem returnC {env : Env} {e : PySem.Expr} {pos : PySem.Pos} {Q : Flow → Shared → Prop} (h : wpC M A (eval e env) (fun v => Q (.ret v)) E s) : wpC M A (exec (.Return (some e) pos) env) Q E s := fun Γ p hΓ hC => by
  simp only [exec_Return_some, Sem.wp_bind', Sem.wp_cmd_standAt, Sem.wp_pure']; exact h Γ _ hΓ hC

theorem evalCallC {env : Env} {func : PySem.Expr} {args : List PySem.Expr} {pos : PySem.Pos} {Q : Value → Shared → Prop}
    (h : wpAny M A (eval func env) (fun f s₁ => wpC M A (callWith pos f [] (backTo pos (starEach args env)) []) Q E s₁) E s)
    (he : eval (.Call func args [] pos) env = (do callWith pos (← eval func env) [] (backTo pos (starEach args env)) (backToKw pos (keywordEach [] env))) := by rfl) : wpC M A (eval (.Call func args [] pos) env) Q E s := by
  rw [he]; exact wpC_bindA h

theorem callWithC {P : Heap → Prop} {pos : PySem.Pos} {f : Value} {args : List (Bool × Sem Value)} {Q : Value → Shared → Prop} (hplain : (args.any (·.1)) = false)
    (hk : ∀ h, P h → ∃ k, (k = Keeper.frame ∨ k = Keeper.machine) ∧ Looks M h (keeperOf f) k)
    (h : wpAny M A (evalArgs f true args []) (fun a s₁ => a.kw = [] ∧ P s₁.heap ∧ wpC M A (call f a.pos) Q E s₁) E s) : wpC M A (callWith pos f [] args []) Q E s := by
  unfold callWith
  refine wpC_bindA (wpAny_holding (wpAny_mono h (fun a s₁ h₁ => wpC_bind (wpC_standAt ?_)) fun _ _ x => x))
  obtain ⟨hkw, hP, hc⟩ := h₁
  obtain ⟨k, hk', L⟩ := hk _ hP
  simp only [hplain, List.any_nil, Bool.or_false, List.nil_append, hkw]
  refine wpC_bindA (L.here ?_)
  have tail : ∀ {t : Sem Value}, wpC M A t Q E s₁ → wpC M A (t >>= fun r => holding [r] point >>= fun _ => pure r) Q E s₁ :=
    fun ht => wpC_bind (wpC_mono ht (fun r s₂ hr => wpC_bindA (wpAny_holding (wpAny_point (wpC_pure hr)))) fun _ _ x => x)
  have marked (mk : Value) : wpC M A (callMarked mk f a.pos []) Q E s₁ := by unfold callMarked; exact wpC_keep hc
  rcases hk' with rfl | rfl <;> dsimp only <;> first | exact tail hc | (split <;> first | exact tail hc | exact tail (marked _))

theorem evalArgsA {f : Value} {x : Sem Value} {rest : List (Bool × Sem Value)} {Q : Args → Shared → Prop} (h : wpAny M A (spliced ((false, x) :: rest)) (fun vs s' => Q ⟨vs, []⟩ s') E s) : wpAny M A (evalArgs f true ((false, x) :: rest) []) Q E s := evalArgs_plain h

/-- a call of a def of the top, or of a class or type -/
theorem callK_C {K : Frag} {h₀ : Heap} {env : Env} {pos : PySem.Pos} {f : Value} {e : PySem.Expr} {rest : List PySem.Expr} {Q : Value → Shared → Prop} (_X : K.In h₀) (hk : keepIn K f = true)
    (h : wpAny M A (spliced (backTo pos (starEach (e :: rest) env))) (fun vs s₁ => K.In s₁.heap ∧ wpC M A (call f vs) Q E s₁) E s)
    (he : starEach (e :: rest) env = (false, eval e env) :: starEach rest env := by rfl) (hplain : (backTo pos (starEach rest env)).any (·.1) = false := by rfl) :
    wpC M A (callWith pos f [] (backTo pos (starEach (e :: rest) env)) []) Q E s := by
  rw [he] at h ⊢
  exact callWithC (P := K.In) (by show (false || (backTo pos (starEach rest env)).any (·.1)) = false; rw [hplain]; rfl) (fun h' X => looks_keep hk X) (evalArgsA (wpAny_mono h (fun vs s' x => ⟨rfl, x.1, x.2⟩) fun _ _ x => x))
end
end Mine
end
section
open PySem PySem.W PyProof.Rows PySem.Calls
set_option Elab.async false
set_option maxRecDepth 100000
namespace Mine
section
variable {prog : Program} {w : World} {A : Around} {s : Shared}

theorem codeC_func {body : List Stmt} {env : Env} {R : Result → Shared → Prop}
    (h : wpC (model prog w) (A.deeper env) (execs body env) (fun f s' => R (.ok (.ret (match f with | .ret v => v | _ => .none))) s')
      (fun e s' => wpAny (model prog w) (A.deeper env) (leaving env e) (fun _ s'' => R (.error e) s'') (fun e' s'' => R (.error e') s'') s') s) :
    codeC (model prog w) A (.func body env) R s := by
  refine codeC_of_tree ?_
  show wpC _ (A.deeper env) (do point; match ← (execs body env).onRaise (leaving env) with | .ret v => ret v | _ => ret .none) _ _ s
  refine wpC_bindA (wpAny_point (wpC_bind (wpC_onRaise (wpC_mono h (fun f s' h' => ?_) fun _ _ h' => wpC_of_any h'))))
  cases f <;> exact wpC_pure h'

theorem codeC_call_def {R : Result → Shared → Prop} {a : Addr} {o : Obj} {fd : FuncData} {body : List Stmt} {args : Args} {binds : List (PySem.Str × Value)}
    (hroom : A.depth < recursionLimit) (ho : s.heap.get? a = some o) (hdata : o.data = .func fd) (hlim : s.heap.NoLimit) (hcd : s.heap.CodeRec fd.code fd.qualname)
    (hbody : fd.body = .stmts body) (hbind : BindsTo s fd args binds)
    (hcell : ∀ x ∈ fd.scope.names, x.2 ≠ .cell) (hloc : ∀ x ∈ binds, fd.scope.names.lookup x.1 = some .local)
    (h : ∀ h₀, h₀.Ns s.heap.objs.size (fun x => binds.reverse.lookup x) → (∀ b o, s.heap.get? b = some o → h₀.get? b = some o) →
      wpC (model prog w) (A.deeper (callEnv fd s.heap.objs.size a)) (execs body (callEnv fd s.heap.objs.size a)) (fun f s' => R (.ok (.ret (match f with | .ret v => v | _ => .none))) s')
        (fun e s' => wpAny (model prog w) (A.deeper (callEnv fd s.heap.objs.size a)) (leaving (callEnv fd s.heap.objs.size a) e) (fun _ s'' => R (.error e) s'') (fun e' s'' => R (.error e') s'') s')
        { s with heap := h₀, toks := s.toks + binds.length })
    (hco : fd.scope.isCoroutine = false) (hgen : fd.scope.isGenerator = false) (hk : fd.scope.kind = .function) :
    codeC (model prog w) A (.call (.ref a) args) R s := by
  refine codeC_of_tree ?_
  show wpC _ A.in1 (callAny (.ref a) args) _ _ s
  simp only [callAny]
  refine wpC_bindA (wpAny_load ho ?_)
  obtain ⟨c, oc, vs, tq, hc, hoc, hdc, hq⟩ := hcd
  simp only [hdata, callFunction, hco, hgen, hbody, hc]
  refine wpC_bindA (m := field (.ref c) 1) (wpAny_field hoc hdc hq (wpC_bindA (wpAny_pure ?_)))
  refine wpC_bindA (hbind _ _ _ _ ?_)
  refine wpC_bindA (wpAny_newFunctionEnv hcell hloc (fun h₀ hns₀ hsb₀ => ?_) hk)
  refine wpC_bindA (wpAny_enterFrame (hlim.fresh _ hsb₀) hroom (wpC_pure ⟨rfl, codeC_func ?_⟩))
  have key := h h₀ hns₀ fun b o e => hsb₀.extBut b o (Nat.ne_of_lt (Heap.lt_size e)) (Heap.get?_push_of_some _ e)
  have hcode : callEnv fd s.heap.objs.size a = newEnv fd.scope s.heap.objs.size fd.globals fd.closure (fd.qualname ++ ".<locals>.") (some a) (.ref c) none fd.builtins := by rw [← hc]; rfl
  rw [hcode] at key
  exact key
end
end Mine
end
section
open PySem PySem.W PyProof.Rows PySem.Calls
set_option Elab.async false
set_option maxRecDepth 100000
namespace Mine
section
variable {prog : Program} {w : World} {A₀ A : Around} {s : Shared} {base h₀ : Heap} {outer : List Env} {L a : Addr} {m : PySem.Str → Option Value} {cn : PySem.Str} {cs : Scope} {ccd : Value} {news : List (Addr × Obj)} {K : Frag} {p : Program} {loose : List PySem.Str} {mean : ExcName → Option Value} {mg mb : PySem.Str → Option Value}
    {R : Result → Shared → Prop} {name qual : PySem.Str} {params : Arguments} {body : List Stmt} {scope : Scope} {dV kV doc pm cdv ct oc : Value} {an od : Option Addr} {osl : Array (Option Value)} {f : Addr} {args : Args} {binds : List (PySem.Str × Value)}

/-- entering a def from a def, the ledger hidden: what both kinds of leaving need -/
theorem enter_facts (B : Below A₀ base outer h₀) (F : Fr h₀ L s.heap m) (N : News h₀ L s.heap news) (X₀ : K.In h₀) (T : Top p loose mean mg mb h₀) (hA : A.frames = some (envOf cn cs L a ccd :: outer)) (hck : cs.kind = .function) {h₁ : Heap}
    (hk₁ : ∀ b o, s.heap.get? b = some o → h₁.get? b = some o) (hns : h₁.Ns s.heap.objs.size (fun x => binds.reverse.lookup x)) :
    ∃ g oL es ep, g.get? L = some oL ∧ oL.data = .dict es ep ∧ (∀ (sl : Array (Option Value)) (h' : Heap), h'.get? L = some { oL with slots := sl } → h'.Ns L m) ∧ (∀ h' : Heap, h'.get? L = some oL → h'.Ns L m) ∧ h₀.StaysIn g ∧
      Fr h₀ L g m ∧ Fr g s.heap.objs.size h₁ (fun x => binds.reverse.lookup x) ∧ News g s.heap.objs.size h₁ news ∧ Below A base (envOf cn cs L a ccd :: outer) g ∧ K.In g ∧ Top p loose mean mg mb g := by
  obtain ⟨oL, es, ep, hLg, hLd, hN, hNs, st, B₂⟩ := kts_enter B F N hA hck
  exact ⟨_, oL, es, ep, hLg, hLd, hNs, hN, st, ⟨hN _ hLg, st, F.above⟩, ⟨hns, fun b o e => hk₁ b o (of_hideAll _ e), Nat.le_of_eq (hideAll_size _ _)⟩,
    (fun q hq => ⟨hk₁ _ _ (N q hq).1, Nat.ne_of_lt (Heap.lt_size (N q hq).1), hideAll_none _ (List.mem_map_of_mem hq)⟩), B₂, X₀.keeps st, T.keeps st⟩

theorem code_defC (B : Below A₀ base outer h₀) (F : Fr h₀ L s.heap m) (X₀ : K.In h₀) (N : News h₀ L s.heap news) (T : Top p loose mean mg mb h₀) (hA : A.frames = some (envOf cn cs L a ccd :: outer))
    (ho : K.lookup f = some ⟨oc, od, .func (fnOf name qual params body scope dV kV doc pm an cdv ct), osl⟩) (hcd : codeIn K cdv qual = true) (hroom : A.depth < recursionLimit)
    (hbind : BindsTo s (fnOf name qual params body scope dV kV doc pm an cdv ct) args binds) (hloc : ∀ y ∈ binds, scope.names.lookup y.1 = some .local)
    (h : ∀ g L' h₁, Fr h₀ L g m → Fr g L' h₁ (fun y => binds.reverse.lookup y) → News g L' h₁ news → Below A base (envOf cn cs L a ccd :: outer) g → K.In g → Top p loose mean mg mb g →
      wpC (model prog w) (A.deeper (envOf qual scope L' f cdv)) (execs body (envOf qual scope L' f cdv))
        (fun fl s' => LeaveK h₀ L m g R (match fl with | .ret v => v | _ => .none) s')
        (fun e s' => wpAny (model prog w) (A.deeper (envOf qual scope L' f cdv)) (leaving (envOf qual scope L' f cdv) e) (fun _ s'' => R (.error e) s'') (fun e' s'' => R (.error e') s'') s')
        { s with heap := h₁, toks := s.toks + binds.length })
    (hck : cs.kind = .function) (hco : scope.isCoroutine = false) (hgen : scope.isGenerator = false) (hk : scope.kind = .function)
    (hcell : ∀ x ∈ scope.names, x.2 ≠ .cell) : codeC (model prog w) A (.call (.ref f) args) R s := by
  have X := X₀.keeps F.keep
  refine codeC_call_def (fd := fnOf name qual params body scope dV kV doc pm an cdv ct) (body := body) (binds := binds) hroom (X _ _ ho) rfl (T.nolimit.keeps F.keep) (codeRec_of X hcd) rfl hbind hcell hloc (fun h₁ hns hk₁ => ?_) hco hgen hk
  obtain ⟨g, oL, es, ep, hLg, hLd, hNs, hN, st, FG, F', N', B₂, X₂, T₂⟩ := enter_facts (K := K) B F N X₀ T hA hck hk₁ hns
  refine wpC_mono (h g s.heap.objs.size h₁ FG F' N' B₂ X₂ T₂) (fun fl s' hl => ?_) fun _ _ y => y
  obtain ⟨L', m', news', F'', N'', k⟩ := hl
  refine k ⟨hN _ (F''.keep _ _ hLg), fun b o e => F''.keep b o (st b o e), F.above⟩ fun q hq => ⟨(N'' q hq).1, fun z => ?_, ?_⟩
  · have := (N'' q hq).2.2; rw [z, hLg] at this; cases this
  · cases z : h₀.get? q.1 with
    | none => rfl
    | some o => have := (N'' q hq).2.2; rw [st _ _ z] at this; cases this

theorem code_defS0C (B : Below A₀ base [] h₀) (F : Fr h₀ L s.heap m) (X₀ : K.In h₀) (N : News h₀ L s.heap news) (T : Top p loose mean mg mb h₀) (hA : A.frames = some [envOf cn cs L a ccd])
    (ho : K.lookup f = some ⟨oc, od, .func (fnOf name qual params body scope dV kV doc pm an cdv ct), osl⟩) (hcd : codeIn K cdv qual = true) (hroom : A.depth < recursionLimit)
    (hbind : BindsTo s (fnOf name qual params body scope dV kV doc pm an cdv ct) args binds) (hloc : ∀ y ∈ binds, scope.names.lookup y.1 = some .local)
    (h : ∀ g L' h₁, Fr h₀ L g m → Fr g L' h₁ (fun y => binds.reverse.lookup y) → News g L' h₁ news → Below A base [envOf cn cs L a ccd] g → K.In g → Top p loose mean mg mb g → KtsDicts ([envOf cn cs L a ccd].filterMap (·.frame)) g →
      wpC (model prog w) (A.deeper (envOf qual scope L' f cdv)) (execs body (envOf qual scope L' f cdv))
        (fun fl s' => LeaveS0 ([envOf cn cs L a ccd].filterMap (·.frame)) h₀ L m g R (match fl with | .ret v => v | _ => .none) s')
        (fun e s' => wpAny (model prog w) (A.deeper (envOf qual scope L' f cdv)) (leaving (envOf qual scope L' f cdv) e) (fun _ s'' => R (.error e) s'') (fun e' s'' => R (.error e') s'') s')
        { s with heap := h₁, toks := s.toks + binds.length })
    (hck : cs.kind = .function) (hco : scope.isCoroutine = false) (hgen : scope.isGenerator = false) (hk : scope.kind = .function)
    (hcell : ∀ x ∈ scope.names, x.2 ≠ .cell) : codeC (model prog w) A (.call (.ref f) args) R s := by
  have X := X₀.keeps F.keep
  refine codeC_call_def (fd := fnOf name qual params body scope dV kV doc pm an cdv ct) (body := body) (binds := binds) hroom (X _ _ ho) rfl (T.nolimit.keeps F.keep) (codeRec_of X hcd) rfl hbind hcell hloc (fun h₁ hns hk₁ => ?_) hco hgen hk
  obtain ⟨g, oL, es, ep, hLg, hLd, hNs, hN, st, FG, F', N', B₂, X₂, T₂⟩ := enter_facts (K := K) B F N X₀ T hA hck hk₁ hns
  have onlyL : ∀ b, b ∈ [envOf cn cs L a ccd].filterMap (·.frame) → b = L := fun b hb => by
    rcases kts_mem hb with z | z
    · exact z
    · simp at z
  refine wpC_mono (h g s.heap.objs.size h₁ FG F' N' B₂ X₂ T₂ (fun b hb => by rw [onlyL b hb]; exact ⟨oL, es, ep, hLg, hLd⟩)) (fun fl s' hl => ?_) fun _ _ y => y
  obtain ⟨g', L', m', news', T', F'', N'', k⟩ := hl
  have nL₀ : h₀.get? L = none := kts_self F
  obtain ⟨sl, hs⟩ := T'.up hLg
  refine k ⟨hNs sl _ (F''.keep _ _ hs), fun b o e => F''.keep b o (T'.other b o (st b o e) (fun q => by rw [onlyL b q, nL₀] at e; cases e)), F.above⟩ fun q hq => ⟨(N'' q hq).1, fun z => ?_, ?_⟩
  · have := (N'' q hq).2.2; rw [z, hs] at this; cases this
  · cases z : h₀.get? q.1 with
    | none => rfl
    | some o =>
      obtain ⟨sl', hs'⟩ := T'.up (st _ _ z)
      have := (N'' q hq).2.2
      rw [hs'] at this
      cases this
end
end Mine
end
section
open PySem PySem.W PyProof.Rows PySem.Calls PySem.NumText
set_option Elab.async false
set_option maxRecDepth 100000
namespace Mine
open Builtin

theorem int_new_str (x : PySem.Str) (u : Tok) : Builtin.«int.__new__» ⟨[.type "int", .str x u], []⟩ = ((int_private% "intFromObject") (.str x u) >>= fun v => ret v) := by
  have f1 := F.conv_sub_int
  have f2 := F.madeHere_int
  unfold Builtin.«int.__new__»
  simp only [isType, pure_bind, f1, f2, Bool.not_true, Bool.false_eq_true, if_false, List.length_cons, List.length_nil, List.isEmpty_nil, Bool.and_true, List.head?_cons, List.forIn_nil, beq_self_eq_true, if_true, Nat.reduceAdd, Nat.reduceLT, gt_iff_lt, decide_false, Bool.true_and]
  rfl
end Mine
end
section
open PySem PySem.W PyProof.Rows PySem.Calls PySem.NumText
set_option Elab.async false
set_option maxRecDepth 100000
namespace Mine
open Builtin
section
variable {prog : Program} {w : World} {A : Around} {E : Value → Shared → Prop} {s : Shared}

theorem markC {own : List String} {e : Value} {Q : Unit → Shared → Prop} (h : Q () s) : wpC (model prog w) A (markTheRefusal own e) Q E s := fun Γ p hΓ hC => by
  unfold markTheRefusal stack
  rw [Sem.wp_bind', Sem.wp_stack, Sem.wp_pure]
  have hno : pythonCodeMadeTheCall own (((Γ.code, p) :: Γ.below).map (·.1)) = false := by
    have hany : (((Γ.code, p) :: Γ.below).map (·.1)).any Code.isCaller = true := by
      rw [List.any_map, List.any_cons]
      have hb : (Γ.below.any fun c => c.1.isCaller) = true := hC
      rw [show (Γ.below.any (Code.isCaller ∘ fun x => x.1)) = true from hb, Bool.or_true]
    unfold pythonCodeMadeTheCall
    rw [Bool.and_eq_false_iff]; left
    rw [Bool.and_eq_false_iff]; left
    rw [Bool.not_eq_false']
    exact hany
  rw [hno]
  exact h

theorem raise_intText {x : PySem.Str} {u : Tok} {Q : Value → Shared → Prop} (hh : A.handled = none) (hl : x.length ≤ 640) (hn : PySem.intText? x = none) (hrep : (reprText x).length ≤ 16384)
    (h : ∀ h' e tk, Heap.NewExc s.heap h' e "ValueError" → E (.ref e) { s with heap := h', toks := tk }) :
    wpC (model prog w) A ((int_private% "intFromText") (.str x u) (numTextOf x) 10) Q E s := by
  have hs : (numSeenOf x).length ≤ 640 := Nat.le_trans (seen_length x) hl
  show wpC _ A (ite _ _ _) Q E s
  rw [if_pos hs]
  refine wpC_bindA (wpAny_pure ?_)
  dsimp only
  have fin : ∀ s₁ : Shared, s₁ = s → wpC (model prog w) A (pyRepr (.str x u) >>= fun shown => mkStr (PySem.Str.ofString (toString "invalid literal for int() with base " ++ toString 10 ++ toString ": ") ++ ⟨shown.cps.extract 0 200⟩) >>= fun m =>
      newExc (.type "ValueError") [m] >>= fun refusal => markTheRefusal ["int.__new__"] refusal >>= fun _ => (raiseNew refusal : Sem Value)) Q E s₁ := by
    rintro s₁ rfl
    refine wpC_bindA (wpAny_pyRepr_str ?_ (Nat.le_trans hrep (by decide)))
    refine wpC_bindA (wpAny_mkStr ?_ ?_)
    · refine wpC_bindA (wpAny_newExc_plain plainExc_ValueError fun h' e hm => ?_)
      refine wpC_bind (markC ?_)
      exact wpC_of_any (wpAny_raiseNew_none hh (h _ _ _ (let m := hm.newExc; ⟨m.keeps, m.new, m.there⟩)))
    · rw [Str.length_append]
      have h1 : (PySem.Str.ofString (toString "invalid literal for int() with base " ++ toString 10 ++ toString ": ")).length = 40 := by decide +kernel
      have h2 : (PySem.Str.mk ((reprText x).cps.extract 0 200)).length ≤ 200 := by
        show ((reprText x).cps.extract 0 200).size ≤ 200
        rw [Array.size_extract]; omega
      rw [h1, sizeLine_eq]; omega
  rcases read0 x hs with ⟨m, h1, h2, h3⟩ | ⟨_, h3 | ⟨i, h3, h4⟩⟩
  · rw [hn] at h1; cases h1
  · unfold numSeenOf at h3
    rw [h3]
    dsimp only
    refine wpC_bindA (wpAny_pure ?_)
    rw [if_neg (by simp)]
    refine wpC_bindA (wpAny_rule ?_)
    refine wpC_bindA (wpAny_pure ?_)
    exact fin s rfl
  · unfold numSeenOf at h3 h4
    rw [h3]
    dsimp only
    rw [if_neg h4]
    refine wpC_bindA (wpAny_rule ?_)
    refine wpC_bindA (wpAny_pure ?_)
    exact fin s rfl
end
end Mine
end
section
open PySem PySem.W PyProof.Rows PySem.Calls PySem.NumText
set_option Elab.async false
set_option maxRecDepth 100000
namespace Mine
open Builtin
section
variable {prog : Program} {w : World} {A : Around} {E : Value → Shared → Prop} {s : Shared}

theorem raise_intObject {x : PySem.Str} {u : Tok} {Q : Value → Shared → Prop} (hh : A.handled = none) (hl : x.length ≤ 640) (hn : PySem.intText? x = none) (hrep : (reprText x).length ≤ 16384)
    (h : ∀ h' e tk, Heap.NewExc s.heap h' e "ValueError" → E (.ref e) { s with heap := h', toks := tk }) :
    wpC (model prog w) A ((int_private% "intFromObject") (.str x u)) Q E s := by
  refine wpC_bindA (m := callSpecial? (.str x u) (PySem.Str.ofString "__int__")) (wpAny_callSpecial?_none (typeIs_str _ _ _) KIN.str_int ?_)
  dsimp only
  refine wpC_bindA (m := specialOf (.str x u) (PySem.Str.ofString "__index__")) (wpAny_specialOf (typeIs_str _ _ _) KIN.str_idx ?_)
  dsimp only [Option.isSome_none]
  rw [if_neg (by simp)]
  refine wpC_bindA (m := specialOf (.str x u) (PySem.Str.ofString "__trunc__")) (wpAny_specialOf (typeIs_str _ _ _) KIN.str_trunc ?_)
  dsimp only
  refine wpC_bindA (wpAny_pure ?_)
  dsimp only
  exact raise_intText hh hl hn hrep h

theorem codeC_builtin {id : String} {args : Args} {b : Builtin} {R : Result → Shared → Prop} (hb : entryFor table id = some b)
    (h : wpC (model prog w) (A.under (.builtin id args)) (b args)
      (fun fin s' => match fin with | .done f => R (.ok f) s' | .again c' => c'.quiet = true ∧ codeC (model prog w) A c' R s') (fun e s' => R (.error e) s') s) : codeC (model prog w) A (.builtin id args) R s := by
  refine codeC_of_tree ?_
  show wpC _ _ (match entryFor table id with | some b => b args | none => unsupported ((withoutEnding? id "#data").getD id)) _ _ s
  rw [hb]; exact h
theorem codeC_call_builtin {id : String} {args : Args} {b : Builtin} {R : Result → Shared → Prop} (hq : plainId id = true) (hb : entryFor table id = some b) (hcn : checkBuiltinCall id args = pure ())
    (h : wpC (model prog w) A.in1 (b args)
      (fun fin s' => match fin with | .done f => R (.ok f) s' | .again c' => c'.quiet = true ∧ codeC (model prog w) A c' R s') (fun e s' => R (.error e) s') s) : codeC (model prog w) A (.call (.builtin id) args) R s := by
  refine codeC_of_tree ?_
  show wpC _ A.in1 (do checkBuiltinCall id args; again (.builtin id args)) _ _ s
  refine wpC_bindA (wpAny_of_eq hcn (wpC_pure ⟨plainId_quiet hq args, codeC_builtin hb ?_⟩))
  rw [Around.under_plainId hq args]
  exact h

theorem raise_intNew {x : PySem.Str} {u : Tok} {Q : Value → Shared → Prop} (hh : A.handled = none) (hl : x.length ≤ 640) (hn : PySem.intText? x = none) (hrep : (reprText x).length ≤ 16384)
    (h : ∀ h' e tk, Heap.NewExc s.heap h' e "ValueError" → E (.ref e) { s with heap := h', toks := tk }) :
    wpC (model prog w) A (call (.builtin "int.__new__") [.type "int", .str x u]) Q E s := by
  refine wpC_call (codeC_call_builtin F.called_int.plain F.entry_int_new (F.newCall_int_1 _) ?_)
  rw [int_new_str]
  exact wpC_bind (raise_intObject hh hl hn hrep h)

theorem raise_int {x : PySem.Str} {u : Tok} {Q : Value → Shared → Prop} (hh : A.handled = none) (hl : x.length ≤ 640) (hn : PySem.intText? x = none) (hrep : (reprText x).length ≤ 16384)
    (h : ∀ h' e tk, Heap.NewExc s.heap h' e "ValueError" → E (.ref e) { s with heap := h', toks := tk }) :
    wpC (model prog w) A (call (.type "int") [.str x u]) Q E s := by
  refine wpC_call (codeC_of_tree ?_)
  show wpC _ A.in1 (callAny (.type "int") _) _ _ _
  refine wpC_pure ⟨Code.quiet_builtin _ (by decide +kernel), codeC_builtin F.entry_type_call ?_⟩
  rw [Around.under_plain (weight_type_call_type "int" [.str x u] []) (units_type_call_type "int" [.str x u] [])]
  have hct := F.typeCall_int_1 (.str x u)
  have h1 := F.called_int.notType
  have h2 := F.called_int.canCreate
  have hmade := F.called_int.made
  unfold Builtin.«type.__call__»
  simp only [h1, Bool.false_eq_true, if_false]
  rw [if_neg (by rw [h2]; exact Bool.false_ne_true)]
  refine wpC_bindA (wpAny_of_eq hct ?_)
  refine wpC_bindA (wpAny_of_eq F.mro_int ?_)
  dsimp only [List.isEmpty_cons]
  rw [if_neg Bool.false_ne_true]
  refine wpC_bindA (wpAny_of_eq hmade ?_)
  dsimp only
  refine wpC_bindA (wpAny_pure ?_)
  exact wpC_bind (wpC_holding (raise_intNew hh hl hn hrep h))
end
end Mine
end
section
open PySem PySem.W PyProof.Rows PySem.Calls
set_option Elab.async false
set_option maxRecDepth 100000
namespace Mine
section
variable {M : Model} {A : Around} {E : Value → Shared → Prop} {s : Shared}
theorem tryC {prog : Program} {w : World} {env : Env} {body orelse : List Stmt} {h₀ : ExceptHandler} {hs : List ExceptHandler} {pos : PySem.Pos} {Q : Flow → Shared → Prop}
    (h : wpC (model prog w) A (execs body env) (fun f s₁ => match f with | .next => wpAny (model prog w) A (execs orelse env) Q E s₁ | f => Q f s₁)
      (fun e s₁ => wpAny (model prog w) A (noteFrame e env) (fun _ s₂ => wpAny (model prog w) A (setFlight e none) (fun _ s₃ => wpAny (model prog w) A (handleBy e env (h₀ :: hs)) Q E s₃) E s₂) E s₁) s) :
    wpC (model prog w) A (exec (.Try body (h₀ :: hs) orelse [] pos) env) Q E s := by
  rw [arm_exec_Try]
  refine wpC_bind (wpC_standAt ?_)
  unfold tryStmt
  simp only [List.isEmpty_nil, if_true, List.isEmpty_cons, Bool.false_and, Bool.false_eq_true, if_false]
  refine wpC_bind (wpC_attempt (wpC_mono h (fun f s₁ h₁ => ?_) fun e s₁ h₁ => ?_))
  · cases f <;> first | exact wpC_of_any h₁ | exact wpC_pure h₁
  · exact wpC_bindA (wpAny_mono h₁ (fun _ _ h₂ => wpC_bindA (wpAny_mono h₂ (fun _ _ h₃ => wpC_of_any h₃) fun _ _ x => x)) fun _ _ x => x)
theorem wpC_gen {α : Type} {t : Sem α} {Q : α → Shared → Prop} {h : Heap} {g : Array GenState} {d : Drawn} {n : Nat} {o : OsState} (k : ∀ tk, wpC M A t Q E ⟨h, g, d, tk, o⟩) : wpC M A t Q E ⟨h, g, d, n, o⟩ := k n
theorem callTypeC {T : String} {env : Env} {pos : PySem.Pos} {e : PySem.Expr} {Q : Value → Shared → Prop}
    (h : wpAny M A (spliced (backTo pos (starEach [e] env))) (fun vs s₁ => wpC M A (call (.type T) vs) Q E s₁) E s)
    (he : starEach [e] env = (false, eval e env) :: starEach [] env := by rfl) :
    wpC M A (callWith pos (.type T) [] (backTo pos (starEach [e] env)) []) Q E s := by
  rw [he] at h ⊢
  exact callWithC (P := fun _ => True) rfl (fun h' _ => ⟨.machine, .inr rfl, Looks.of_pure rfl⟩) (evalArgsA (wpAny_mono h (fun vs s' x => ⟨rfl, trivial, x⟩) fun _ _ x => x))
end
end Mine
end
section
open PySem PySem.W PyProof.Rows PySem.Calls
set_option Elab.async false
set_option maxRecDepth 100000
namespace Mine
open Builtin Builtin.Str Builtin.BaseException
section
variable {prog : Program} {w : World} {M : Model} {A : Around} {E : Value → Shared → Prop} {s : Shared} {K : Frag} {e t0 C : Addr}

theorem looks_typeAt {M : Model} {h : Heap} {o : Obj} {c : Value} (ho : h.get? e = some o) (hc : o.cls = c) : Looks M h (typeOf (.ref e)) c := by
  subst hc
  exact (Looks.ld ho).andThen .now

theorem own_special {name : Str} {id : String} {args : List Value} {Q : Option Value → Shared → Prop} (X : K.In s.heap) (I : Looks M s.heap (typeOf (.ref e)) (.ref C)) (hs : findIn K (.ref C) name = some (some (.builtin id)))
    (hb : ∀ self, bindSpecial (.builtin id) self = pure (.builtin id, [self])) (h : wpAny M A (call (.builtin id) (.ref e :: args)) (fun v => Q (some v)) E s) : wpAny M A (callSpecial? (.ref e) name args) Q E s :=
  wpAny_bind (wpAny_bind (I.here ((looks_findIn X hs).here (wpAny_holding (wpAny_bind ((Looks.of_pure (hb _)).here (wpAny_bind (wpAny_mono h (fun _ _ z => wpAny_pure z) fun _ _ z => z))))))))

theorem own_excStr {o ot : Obj} {ws : Array Value} {nt : Nat} {m : Str} {tk : Tok} {Q : Value → Shared → Prop} (hu : A.units < cLine) (X : K.In s.heap) (ho : s.heap.get? e = some o) (hc : o.cls = .ref C) (hd : o.data = .fields ws) (h0 : ws[0]? = some (.ref t0))
    (ht : s.heap.get? t0 = some ot) (htd : ot.data = .seq #[.str m tk] nt)
    (hs : findIn K (.ref C) "__str__" = some (some (.builtin "BaseException.__str__"))) (hm : mroIn K C (.type "BaseException") = some true) (hq : Q (.str m tk) s) :
    wpAny (model prog w) A (Builtin.Str.strOf (.ref e)) Q E s := by
  have I : Looks (model prog w) s.heap (typeOf (.ref e)) (.ref C) := looks_typeAt ho hc
  unfold Builtin.Str.strOf
  simp only [isExactStr, Bool.false_eq_true, if_false]
  refine wpAny_bind (m := cRoomFor _ _) (wpAny_cRoomFor hu ?_)
  refine wpAny_bind (m := callSpecial? (.ref e) (Str.ofString "__str__")) (own_special X I hs (fun _ => PySem.F.excStr_ValueError.str.bind _) ?_)
  refine wpAny_call (codeAny_call_builtin PySem.F.excStr_ValueError.str.plain F.entry_bexc_str (check_slot (i := "BaseException.__str__") (owner := "BaseException") (n := "__str__") (by decide +kernel) (by decide +kernel) (I.andThen (looks_mroIn X hm)) (F.args_bexc_str _) ?_))
  unfold Builtin.«BaseException.__str__» bexcArgs
  refine wpAny_bind (m := slotArgs "__str__" 0 _) (wpAny_pure ?_)
  refine wpAny_bind (wpAny_bind (wpAny_field ho hd h0 (wpAny_bind (wpAny_seqItems ht htd (wpAny_pure ?_)))))
  repeat wp_step
  exact hq

theorem str_new_in {v : Value} {S : PySem.Spec} (hs : ∀ (A : Around) (R : Result → Shared → Prop) (s : Shared), S A R s →
      wpAny (model prog w) A.in1 (Builtin.Str.strOf v) (fun r s' => R (.ok (.ret r)) s') (fun e s' => R (.error e) s') s) : MeetsIn prog w (Builtin.«str.__new__» ⟨[.type "str", v], []⟩) S := by
  refine MeetsIn.of_wp fun A R s h => ?_
  rw [str_new_tree v]
  refine wpAny_bind (wpAny_pure ?_)
  refine wpAny_bind (wpAny_of_eq isSubtype_str_str ?_)
  exact wpAny_bind (wpAny_mono (hs A R s h) (fun r s' h' => wpAny_pure ⟨_, rfl, h'⟩) fun _ _ e => e)

theorem str_of_own {news : List (Addr × Obj)} {h₀ : Heap} {L : Addr} {mm : Str → Option Value} {m : Str} {tk : Tok} {Q : Value → Shared → Prop} (FF : Fr h₀ L s.heap mm) (X : K.In h₀) (N : News h₀ L s.heap news) (G : Got news e t0 (.ref C) [.str m tk]) (hu : A.units + 2 < cLine)
    (hs : findIn K (.ref C) "__str__" = some (some (.builtin "BaseException.__str__"))) (hm : mroIn K C (.type "BaseException") = some true) (hq : Q (.str m tk) s) :
    wpAny (model prog w) A (call (.type "str") [.ref e]) Q E s := by
  obtain ⟨oe, ot, ws, nt, h1, h2, hc, hd, h0, htc, htd⟩ := G
  exact callType_newIn PySem.F.called_str (by decide) (PySem.F.typeCall_str_1 _) (PySem.F.newCall_str_1 _) (fun obj => PySem.F.args_object_init_2 obj _) PySem.F.entry_str_new
    (str_new_in (S := fun A' R s' => A'.units + 1 < cLine ∧ s' = s ∧ R (.ok (.ret (.str m tk))) s')
      fun A' R s' hq => by
        obtain ⟨ha, rfl, hr⟩ := hq
        exact own_excStr (A := A'.in1) ha (X.keeps FF.keep) (N.get h1) hc hd h0 (N.get h2) htd hs hm hr)
    ⟨(show A.units + 1 + 1 < cLine from hu), rfl, typeIs_str _ _ _, hq⟩
end
end Mine
end
section
open PySem PySem.W PyProof.Rows
set_option Elab.async false
namespace Mine
noncomputable abbrev PG : Program := PySem.Challenge.rw_yh0012_01.row.prog
noncomputable abbrev LS : List PySem.Str := looseW VIEW [PySem.Str.ofString "_quoted", PySem.Str.ofString "_paren_depth", PySem.Str.ofString "EXACT_TOKEN_TYPES"]
noncomputable abbrev KK (w : World) : Frag := kmk.heap_1 w.params
noncomputable abbrev TopM (mean : ExcName → Option Value) (mg mb : PySem.Str → Option Value) (h : Heap) : Prop := Top VIEW LS mean mg mb h

/-- a fact laid by, out of the walk's sight -/
structure Hid (p : Prop) : Prop where
  out : p
/-- what holds where the law calls a def -/
noncomputable def At1 (w : World) (P : (cn : PySem.Str) → (cs : Scope) → (a : Addr) → (ccd : Value) → Heap → Addr → (PySem.Str → Option Value) → List (Addr × Obj) → Shared → Prop) : Prop :=
  ∀ (cn : PySem.Str) (cns : List (PySem.Str × NameKind)) (cg cc : Bool) (cmo : List (PySem.Str × Const)) (a : Addr) (ccd : Value) (h₀ : Heap) (L : Addr) (m mg mb : PySem.Str → Option Value) (mean : ExcName → Option Value) (news : List (Addr × Obj)) (s : Shared),
    Below callerA h₀ [] h₀ → Fr h₀ L s.heap m → (KK w).In h₀ → News h₀ L s.heap news → TopM mean mg mb h₀ → P cn { kind := .function, names := cns, isGenerator := cg, isCoroutine := cc, more := cmo } a ccd h₀ L m news s
end Mine
end
section
open PySem PySem.W PyProof.Rows
local macro_rules | `(tactic| walk_at $s:str) => `(tactic| k_extra $s)
local macro_rules | `(tactic| k_ne) => `(tactic| k_extra "my ne")
local macro_rules | `(tactic| kcj_all) => `(tactic| k_extra "my all")
section
open PySem PySem.W PyProof.Rows
set_option Elab.async false
set_option maxRecDepth 100000
namespace Mine
section
variable {prog : Program} {w : World} {A : Around} {E : Value → Shared → Prop} {s : Shared} {r : Addr} {l : List (PySem.Str × Tok)} {texts : List PySem.Str}
/-- how many parts a split told -/
theorem len_words {n : Int} {Q : Value → Shared → Prop} (hl : s.heap.IsList r (strValues l).toArray) (he : l.map (·.1) = texts) (hn : (texts.length : Int) = n) (hk : texts.length ≤ 1000) (h : Q (.int n (s.toks + 1)) { s with toks := s.toks + 1 + 1 }) :
    wpAny (model prog w) A (call (.builtin "len") [.ref r]) Q E s := by
  have e : (((strValues l).toArray.size : Nat) : Int) = n := by rw [List.size_toArray, strValues, List.length_map, ← hn, ← he, List.length_map]
  exact PyProof.Rows.len_list hl (by rw [e]; omega) (by rw [e]; exact h)
/-- one part of them -/
theorem item_words {value slice : PySem.Expr} {z : PySem.Str} {k : Int} {u : Tok} {Q : Value → Shared → Prop} (hl : s.heap.IsList r (strValues l).toArray) (he : l.map (·.1) = texts) (h0 : 0 ≤ k) (hf : k < 2 ^ 63) (hx : texts[k.toNat]? = some z) (h : ∀ t, Q (.str z t) s)
    (hs : subscripted slice false (.ref r) (.int k u) = operate [.ref r, .int k u] (getItem (.ref r) (.int k u))) (hg : ∀ v, letTemporaryGo value (.ref r) v = pure ()) :
    wpAny (model prog w) A (subscriptTail value slice (.ref r) (.int k u)) Q E s := by
  subst he
  rw [List.getElem?_map] at hx
  cases hv : l[k.toNat]? with
  | none => rw [hv] at hx; cases hx
  | some p =>
    rw [hv] at hx
    obtain ⟨y, t⟩ := p
    cases hx
    exact PyProof.Rows.item_list hl h0 hf (x := .str y t) (by rw [List.getElem?_toArray, strValues, List.getElem?_map, hv]; rfl) (h t) hs hg
end
end Mine
end
section
open PySem PySem.W PyProof.Rows
set_option Elab.async false
set_option maxRecDepth 100000
set_option maxHeartbeats 8000000
namespace Mine




theorem told_value (w : World) (x y z : PySem.Str) (t1 t2 : Tok) (hx : x.length < 600) (hA : (Txt.slice x none (some 3) != PySem.Str.ofString "229") = false)
  (hB : ¬ Txt.find x (PySem.Str.ofString "(") < 0) (hC : ¬ Txt.find3 x (PySem.Str.ofString ")") (Txt.find x (PySem.Str.ofString "(") + 1) < 0)
  (hD : Txt.find x (PySem.Str.ofString "(") + 1 < Txt.find3 x (PySem.Str.ofString ")") (Txt.find x (PySem.Str.ofString "(") + 1))
  (hE : Txt.find3 x (PySem.Str.ofString ")") (Txt.find x (PySem.Str.ofString "(") + 1) < x.length) 
  (hG : (Txt.item x (Txt.find x (PySem.Str.ofString "(") + 1) != Txt.item x (Txt.find3 x (PySem.Str.ofString ")") (Txt.find x (PySem.Str.ofString "(") + 1) - 1)) = false)
  (hH : (Txt.split (Txt.slice x (some (Txt.find x (PySem.Str.ofString "(") + 1)) (some (Txt.find3 x (PySem.Str.ofString ")") (Txt.find x (PySem.Str.ofString "(") + 1)))) (Txt.item x (Txt.find x (PySem.Str.ofString "(") + 1))).length = 5)
  (hI : (Txt.split (Txt.slice x (some (Txt.find x (PySem.Str.ofString "(") + 1)) (some (Txt.find3 x (PySem.Str.ofString ")") (Txt.find x (PySem.Str.ofString "(") + 1)))) (Txt.item x (Txt.find x (PySem.Str.ofString "(") + 1)))[3]? = some z)
  (hL : z.length ≤ 640) (hJ : PySem.intText? z = none) (hK : (reprText z).length ≤ 16384) :
  At1 w fun cn cs a ccd h₀ L m news s => ∀ (Q E : Value → Shared → Prop),
    (∀ l u h' tk', Fr h₀ L h' m → News h₀ L h' ((l, W.listOf #[.str (PySem.Str.ofString "value") u, .str x t1] 0) :: news) → Q (.ref l) { s with heap := h', toks := tk' }) →
    wpC (model PG w) (callerA.deeper (envOf cn cs L a ccd)) (call (.ref 147) [.str x t1, .str y t2]) Q E s := by
  have hH0 := Hid.mk (And.intro hH (And.intro hI (And.intro hL (And.intro hJ hK))))
  clear hH hI hL hJ hK
  k_with_none
  k_with "my all" => (with_reducible (first | (intro p hp; (repeat' (first | assumption | refine List.mem_cons_of_mem _ ?_ | refine List.mem_append_left _ ?_)); done) | (refine List.forall_mem_cons.mpr ⟨?_, ?_⟩; focus ((repeat' (first | exact List.mem_cons_self | refine List.mem_cons_of_mem _ ?_)); done); kcj_all)))
  k_with "my ne" => (refine neN ?_; (try dsimp only); with_reducible (first | assumption | (refine Ne.symm ?_; assumption) | exact Nat.ne_of_lt (by assumption) | exact Nat.ne_of_gt (by assumption)))
  k_with "call builtin:len" => ((k_here; (with_reducible show wpAny _ _ (call (Value.builtin "len") [Value.ref _]) _ _ _); k_dflt (refine' len_words (n := 5) (News.isList (by k_asm) (.head _)) ?he ?hn ?hk ?_; (case he => with_reducible assumption); (case hn => exact congrArg Nat.cast hH0.out.1); (case hk => exact Nat.le_trans (Nat.le_of_eq hH0.out.1) (by decide)); k_whole)))
  k_with "subscriptTail Name Constant ref int" => ((k_here; (with_reducible show wpAny _ _ (subscriptTail _ _ (Value.ref _) (Value.int 3 _)) _ _ _); k_dflt (refine' item_words (News.isList (by k_asm) (.head _)) ?he ?h0 ?hf ?hx ?_ ?hs ?hg; (case he => with_reducible assumption); (case h0 => decide); (case hf => decide); (case hx => exact hH0.out.2.1); (case hs => with_unfolding_all rfl); (case hg => (intro _; with_unfolding_all rfl)); k_whole); intro _))
  k_with "call type:str" => ((k_here; (with_reducible show wpAny _ _ (call (Value.type "str") [Value.ref _]) _ _ _); k_dflt (refine' Mine.str_of_own ?F ?X ?N ?G ?U ?hs ?hm ?_; (case G => assumption); (case F => k_asm); (case X => k_asm); (case N => assumption); (case U => first | units_room | k_room); (case hs => k_is); (case hm => k_is); k_whole)))
  k_with "wpC" => (((with_reducible show wpC _ _ (execs (_ :: _) _) _ _ _); (refine wpC_gen fun tk => ?_); (try dsimp only); refine execs_stepC ?_))
  k_with "wpC" => (((with_reducible show wpC _ _ (execs (Stmt.Assign [Expr.Name (PySem.Str.ofString "port") _] _ _ :: _) _) _ _ _); (refine wpC_gen fun tk => ?_); (try dsimp only); k_dflt (refine execs_consC (assignC (evalCallC ?_)))))
  k_with "wpC" => (((with_reducible show wpC _ _ (execs (Stmt.Return (some (Expr.Call (Expr.Name (PySem.Str.ofString "parse229") _) _ _ _)) _ :: _) _) _ _ _); (refine wpC_gen fun tk => ?_); (try dsimp only); k_dflt (refine execs_consC (returnC (evalCallC ?_)))))
  k_with "wpC" => (((with_reducible show wpC _ _ (execs (Stmt.Try _ _ _ _ _ :: _) _) _ _ _); (refine wpC_gen fun tk => ?_); (try dsimp only); k_dflt (refine execs_consC (tryC ?_))))
  k_with "wpC" => (((with_reducible show wpC _ _ (callWith _ (Value.type _) _ _ _) _ _ _); k_dflt (refine callTypeC ?_)))
  k_with "wpC" => (((with_reducible show wpC _ _ (callWith _ (Value.ref _) _ _ _) _ _ _); k_here; k_dflt (refine' callK_C ?k1 ?k2 ?_; (case k1 => k_asm); (case k2 => k_is); k_whole)))
  k_with "wpC" => (((with_reducible show wpC _ _ (call (Value.ref _) _) _ _ _); refine wpC_call ?_; k_dflt (refine' code_defC ?k1 ?k2 ?k3 ?k4 ?k5 ?kA ?k6 ?k7 ?k8 ?k9 ?kB ?_ ?cK ?c2 ?c3 ?c4 ?c5; (case kA => exact rfl); (case k2 => k_asm); (case k1 => k_asm); (case k3 => k_asm); (case k4 => k_asm); (case k5 => k_asm); (case k6 => k_is); (case k7 => k_is); (case k8 => k_room); (case k9 => first | exact BindsTo.of_eq rfl | exact binds_K (by k_in) rfl (by k_is) rfl rfl rfl | fail "no rule for these arguments"); (case kB => exact locs rfl); (case cK => exact rfl); (case c2 => exact rfl); (case c3 => exact rfl); (case c4 => exact rfl); (case c5 => decide); k_whole; intro g' L' h' FG' F' N' B' X' T'; (try dsimp only); (try k_lift B'); (show let qk := _; let ek := _; wpC _ _ _ qk ek _); intro qk ek)))
  unfold At1; dsimp only [PG, LS, KK, TopM]
  k_fill
  intro cn cns cg cc cmo a ccd h₀ L m mg mb mean news s B F X N T Q E hret
  refine wpC_call ?_
  k_dflt (refine' code_defS0C ?k1 ?k2 ?k3 ?k4 ?k5 ?kA ?k6 ?k7 ?k8 ?k9 ?kB ?_ ?cK ?c2 ?c3 ?c4 ?c5; (case kA => exact rfl); (case k2 => k_asm); (case k1 => k_asm); (case k3 => k_asm); (case k4 => k_asm); (case k5 => k_asm); (case k6 => k_is); (case k7 => k_is); (case k8 => k_room); (case k9 => first | exact binds_K (by k_in) rfl (by k_is) rfl rfl rfl | exact BindsTo.of_eq rfl | fail "kts_go: no rule for these arguments"); (case kB => exact locs rfl); (case cK => exact rfl); (case c2 => exact rfl); (case c3 => exact rfl); (case c4 => exact rfl); (case c5 => decide); k_whole; intro g' L' h' FG' F' N' B' X' T' D'; (try dsimp only); (try k_lift B'); (show let qk := _; let ek := _; wpC _ _ _ qk ek _); intro qk ek)
  (repeat' (first | ((with_reducible show wpC _ _ _ _ _ _); (walk_at "wpC")) | ((fail_if_success (with_reducible show wpC _ _ _ _ _ _)); first | (k_unfold; (try dsimp only)) | (k_end; kc_close) | walk1 | (dsimp only; walk1) | (leave1; walk_say "STEP leave1"; (try dsimp only)) | fail "no step")))
  refine raise_int rfl hH0.out.2.2.1 hH0.out.2.2.2.1 hH0.out.2.2.2.2 (fun h' e' tk' X' => ?_)
  dsimp only at X' ⊢
  (repeat' (first | ((with_reducible show wpC _ _ _ _ _ _); (walk_at "wpC")) | ((fail_if_success (with_reducible show wpC _ _ _ _ _ _)); first | (k_unfold; (try dsimp only)) | (k_end; kc_close) | walk1 | (dsimp only; walk1) | (leave1; walk_say "STEP leave1"; (try dsimp only)) | fail "no step")))
  exact hret _ _ _ _ (by assumption) (cb_drop (by assumption) (List.forall_mem_cons.mpr ⟨.head _, by kcj_all⟩))
end Mine
end
section
open PySem PySem.W PyProof.Rows
set_option Elab.async false
set_option maxRecDepth 100000
set_option maxHeartbeats 8000000
namespace Mine
theorem told_reply (w : World) (x y : PySem.Str) (t1 t2 : Tok) (hx : x.length < 600)   (hA : (Txt.slice x none (some 3) != PySem.Str.ofString "229") = true) :
  At1 w fun cn cs a ccd h₀ L m news s => ∀ (Q E : Value → Shared → Prop),
    (∀ l u h' tk', Fr h₀ L h' m → News h₀ L h' ((l, W.listOf #[.str (PySem.Str.ofString "reply") u, .str x t1] 0) :: news) → Q (.ref l) { s with heap := h', toks := tk' }) →
    wpAny (model PG w) (callerA.deeper (envOf cn cs L a ccd)) (call (.ref 147) [.str x t1, .str y t2]) Q E s := by
  k_with_none
  k_with "my all" => (with_reducible (first | (intro p hp; (repeat' (first | assumption | refine List.mem_cons_of_mem _ ?_ | refine List.mem_append_left _ ?_)); done) | (refine List.forall_mem_cons.mpr ⟨?_, ?_⟩; focus ((repeat' (first | exact List.mem_cons_self | refine List.mem_cons_of_mem _ ?_)); done); kcj_all)))
  k_with "my ne" => (refine neN ?_; (try dsimp only); with_reducible (first | assumption | (refine Ne.symm ?_; assumption) | exact Nat.ne_of_lt (by assumption) | exact Nat.ne_of_gt (by assumption)))
  k_with "call type:str" => ((k_here; (with_reducible show wpAny _ _ (call (Value.type "str") [Value.ref _]) _ _ _); k_dflt (refine' Mine.str_of_own ?F ?X ?N ?G ?U ?hs ?hm ?_; (case G => assumption); (case F => k_asm); (case X => k_asm); (case N => assumption); (case U => first | units_room | k_room); (case hs => k_is); (case hm => k_is); k_whole)))
  unfold At1; dsimp only [PG, LS, KK, TopM]
  k_fill
  intro cn cns cg cc cmo a ccd h₀ L m mg mb mean news s B F X N T Q E hret
  k_steps
  exact hret _ _ _ _ (by assumption) (cb_drop (by assumption) (List.forall_mem_cons.mpr ⟨.head _, by kcj_all⟩))
theorem told_proto (w : World) (x y : PySem.Str) (t1 t2 : Tok) (hx : x.length < 600) (hA : (Txt.slice x none (some 3) != PySem.Str.ofString "229") = false)
  (hDE : ¬ Txt.find x (PySem.Str.ofString "(") < 0 → ¬ Txt.find3 x (PySem.Str.ofString ")") (Txt.find x (PySem.Str.ofString "(") + 1) < 0 → Txt.find x (PySem.Str.ofString "(") + 1 < Txt.find3 x (PySem.Str.ofString ")") (Txt.find x (PySem.Str.ofString "(") + 1) ∧ Txt.find3 x (PySem.Str.ofString ")") (Txt.find x (PySem.Str.ofString "(") + 1) < x.length)
  (hbad : Txt.find x (PySem.Str.ofString "(") < 0 ∨ Txt.find3 x (PySem.Str.ofString ")") (Txt.find x (PySem.Str.ofString "(") + 1) < 0 ∨ (Txt.item x (Txt.find x (PySem.Str.ofString "(") + 1) != Txt.item x (Txt.find3 x (PySem.Str.ofString ")") (Txt.find x (PySem.Str.ofString "(") + 1) - 1)) = true ∨ (Txt.split (Txt.slice x (some (Txt.find x (PySem.Str.ofString "(") + 1)) (some (Txt.find3 x (PySem.Str.ofString ")") (Txt.find x (PySem.Str.ofString "(") + 1)))) (Txt.item x (Txt.find x (PySem.Str.ofString "(") + 1))).length ≠ 5) :
  At1 w fun cn cs a ccd h₀ L m news s => ∀ (Q E : Value → Shared → Prop),
    (∀ l u h' tk', Fr h₀ L h' m → News h₀ L h' ((l, W.listOf #[.str (PySem.Str.ofString "proto") u, .str x t1] 0) :: news) → Q (.ref l) { s with heap := h', toks := tk' }) →
    wpAny (model PG w) (callerA.deeper (envOf cn cs L a ccd)) (call (.ref 147) [.str x t1, .str y t2]) Q E s := by
  have hb0 := Hid.mk hbad
  clear hbad
  k_with_none
  k_with "my all" => (with_reducible (first | (intro p hp; (repeat' (first | assumption | refine List.mem_cons_of_mem _ ?_ | refine List.mem_append_left _ ?_)); done) | (refine List.forall_mem_cons.mpr ⟨?_, ?_⟩; focus ((repeat' (first | exact List.mem_cons_self | refine List.mem_cons_of_mem _ ?_)); done); kcj_all)))
  k_with "my ne" => (refine neN ?_; (try dsimp only); with_reducible (first | assumption | (refine Ne.symm ?_; assumption) | exact Nat.ne_of_lt (by assumption) | exact Nat.ne_of_gt (by assumption)))
  k_with "subscriptTail Name Constant ref int" => ((with_reducible show wpAny _ _ (subscriptTail _ _ (Value.ref _) (Value.int 0 _)) _ _ _); exfalso; rcases hb0.out with h | h | h | h; (exact absurd h (by with_reducible assumption)); (exact absurd h (by with_reducible assumption)); (exact Bool.false_ne_true (Eq.trans (Eq.symm (by with_reducible assumption)) h)); (rename (((List.length (Txt.split _ _) : Nat) : Int) = 5) => h5; exact h (Int.ofNat.inj h5)))
  k_with "subscriptTail Name BinOp str int" => (obtain ⟨hD, hE⟩ := hDE (by assumption) (by assumption); clear hDE; walk1)
  k_with "call builtin:len" => ((k_here; (with_reducible show wpAny _ _ (call (Value.builtin "len") [Value.ref _]) _ _ _); k_dflt (refine' len_words (News.isList (by k_asm) (.head _)) ?he ?hn ?hk ?_; (case he => with_reducible assumption); (case hn => exact rfl); (case hk => exact Nat.le_trans (split_le _ _) (by omega)); k_whole)))
  k_with "call type:str" => ((k_here; (with_reducible show wpAny _ _ (call (Value.type "str") [Value.ref _]) _ _ _); k_dflt (refine' Mine.str_of_own ?F ?X ?N ?G ?U ?hs ?hm ?_; (case G => assumption); (case F => k_asm); (case X => k_asm); (case N => assumption); (case U => first | units_room | k_room); (case hs => k_is); (case hm => k_is); k_whole)))
  unfold At1; dsimp only [PG, LS, KK, TopM]
  k_fill
  intro cn cns cg cc cmo a ccd h₀ L m mg mb mean news s B F X N T Q E hret
  k_steps
  all_goals exact hret _ _ _ _ (by assumption) (cb_drop (by assumption) (List.forall_mem_cons.mpr ⟨.head _, by kcj_all⟩))
end Mine
end
section
open PySem PySem.W PyProof.Rows
set_option Elab.async false
set_option maxRecDepth 100000
set_option maxHeartbeats 8000000
namespace Mine
theorem told_ok (w : World) (x y z : PySem.Str) (n : Int) (t1 t2 : Tok) (hx : x.length < 600)   (hA : (Txt.slice x none (some 3) != PySem.Str.ofString "229") = false)
  (hB : ¬ Txt.find x (PySem.Str.ofString "(") < 0)
  (hC : ¬ Txt.find3 x (PySem.Str.ofString ")") (Txt.find x (PySem.Str.ofString "(") + 1) < 0)
  (hD : Txt.find x (PySem.Str.ofString "(") + 1 < Txt.find3 x (PySem.Str.ofString ")") (Txt.find x (PySem.Str.ofString "(") + 1))
  (hE : Txt.find3 x (PySem.Str.ofString ")") (Txt.find x (PySem.Str.ofString "(") + 1) < x.length)
  (hG : (Txt.item x (Txt.find x (PySem.Str.ofString "(") + 1) != Txt.item x (Txt.find3 x (PySem.Str.ofString ")") (Txt.find x (PySem.Str.ofString "(") + 1) - 1)) = false)
  (hH : (Txt.split (Txt.slice x (some (Txt.find x (PySem.Str.ofString "(") + 1)) (some (Txt.find3 x (PySem.Str.ofString ")") (Txt.find x (PySem.Str.ofString "(") + 1)))) (Txt.item x (Txt.find x (PySem.Str.ofString "(") + 1))).length = 5)
  (hI : (Txt.split (Txt.slice x (some (Txt.find x (PySem.Str.ofString "(") + 1)) (some (Txt.find3 x (PySem.Str.ofString ")") (Txt.find x (PySem.Str.ofString "(") + 1)))) (Txt.item x (Txt.find x (PySem.Str.ofString "(") + 1)))[3]? = some z)
  (hL : z.length ≤ 640) (hJ : PySem.intText? z = some n) :
  At1 w fun cn cs a ccd h₀ L m news s => ∀ (Q E : Value → Shared → Prop),
    (∀ l u h' tk', Fr h₀ L h' m → News h₀ L h' ((l, ({ cls := .type "tuple", data := .seq #[.str y t2, .int n u] } : Obj)) :: news) → Q (.ref l) { s with heap := h', toks := tk' }) →
    wpAny (model PG w) (callerA.deeper (envOf cn cs L a ccd)) (call (.ref 147) [.str x t1, .str y t2]) Q E s := by
  have hH0 := Hid.mk (And.intro hH (And.intro hI (And.intro hL hJ)))
  clear hH hI hL hJ
  k_with_none
  k_with "my all" => (with_reducible (first | (intro p hp; (repeat' (first | assumption | refine List.mem_cons_of_mem _ ?_ | refine List.mem_append_left _ ?_)); done) | (refine List.forall_mem_cons.mpr ⟨?_, ?_⟩; focus ((repeat' (first | exact List.mem_cons_self | refine List.mem_cons_of_mem _ ?_)); done); kcj_all)))
  k_with "my ne" => (refine neN ?_; (try dsimp only); with_reducible (first | assumption | (refine Ne.symm ?_; assumption) | exact Nat.ne_of_lt (by assumption) | exact Nat.ne_of_gt (by assumption)))
  k_with "call builtin:len" => ((k_here; (with_reducible show wpAny _ _ (call (Value.builtin "len") [Value.ref _]) _ _ _); k_dflt (refine' len_words (n := 5) (News.isList (by k_asm) (.head _)) ?he ?hn ?hk ?_; (case he => with_reducible assumption); (case hn => exact congrArg Nat.cast hH0.out.1); (case hk => exact Nat.le_trans (Nat.le_of_eq hH0.out.1) (by decide)); k_whole)))
  k_with "subscriptTail Name Constant ref int" => ((k_here; (with_reducible show wpAny _ _ (subscriptTail _ _ (Value.ref _) (Value.int 3 _)) _ _ _); k_dflt (refine' item_words (News.isList (by k_asm) (.head _)) ?he ?h0 ?hf ?hx ?_ ?hs ?hg; (case he => with_reducible assumption); (case h0 => decide); (case hf => decide); (case hx => exact hH0.out.2.1); (case hs => with_unfolding_all rfl); (case hg => (intro _; with_unfolding_all rfl)); k_whole); intro _))
  k_with "call type:str" => ((k_here; (with_reducible show wpAny _ _ (call (Value.type "str") [Value.ref _]) _ _ _); k_dflt (refine' Mine.str_of_own ?F ?X ?N ?G ?U ?hs ?hm ?_; (case G => assumption); (case F => k_asm); (case X => k_asm); (case N => assumption); (case U => first | units_room | k_room); (case hs => k_is); (case hm => k_is); k_whole)))
  unfold At1; dsimp only [PG, LS, KK, TopM]
  k_fill
  intro cn cns cg cc cmo a ccd h₀ L m mg mb mean news s B F X N T Q E hret
  k_steps
  refine KIN.call_text hH0.out.2.2.2 hH0.out.2.2.1 ?_
  k_steps
  all_goals exact hret _ _ _ _ (by assumption) (cb_drop (by assumption) (List.forall_mem_cons.mpr ⟨.head _, by kcj_all⟩))
end Mine
end
section
open PySem PySem.W PyProof.Rows
set_option Elab.async false
namespace Mine
/-- what holds where any def calls a def -/
noncomputable def AtN (w : World) (dd uu : Nat) (P : Around → Heap → Addr → (PySem.Str → Option Value) → List (Addr × Obj) → Shared → Prop) : Prop :=
  ∀ (dp un : Nat) (gd : Option (List Code)) (cn : PySem.Str) (cns : List (PySem.Str × NameKind)) (cg cc : Bool) (cmo : List (PySem.Str × Const)) (a : Addr) (ccd : Value) (cl : List (PySem.Str × Addr)) (outer : List Env) (A₀ : Around) (base h₀ : Heap) (L : Addr) (m mg mb : PySem.Str → Option Value) (mean : ExcName → Option Value) (news : List (Addr × Obj)) (s : Shared),
    Below A₀ base outer h₀ → Fr h₀ L s.heap m → (KK w).In h₀ → News h₀ L s.heap news → TopM mean mg mb h₀ → dp + dd < recursionLimit → un + uu < cLine →
    P (ktrTop dp un gd cn { kind := .function, names := cns, isGenerator := cg, isCoroutine := cc, more := cmo } L a ccd cl outer) h₀ L m news s
end Mine
end
section
open PySem PySem.W PyProof.Rows
set_option Elab.async false
namespace Mine
noncomputable def Goes (P : Shared → Prop) (f : Flow) (s' : Shared) : Prop := f = .next ∧ P s'
section
variable {M : Model} {A : Around} {E : Value → Shared → Prop} {s : Shared}
theorem cut {env : Env} {st : Stmt} {rest : List Stmt} {Q : Flow → Shared → Prop} (P : Shared → Prop) (h1 : wpAny M A (exec st env) (Goes P) E s) (h2 : ∀ s', P s' → wpAny M A (execs rest env) Q E s') :
    wpAny M A (execs (st :: rest) env) Q E s := by
  refine wpAny_execs_cons (wpAny_mono h1 (fun f s' h => ?_) fun _ _ e => e)
  obtain ⟨rfl, hP⟩ := h
  exact h2 s' hP
theorem execs_one {env : Env} {st : Stmt} {Q : Flow → Shared → Prop} (h : wpAny M A (exec st env) Q E s) : wpAny M A (execs [st] env) Q E s :=
  wpAny_execs_cons (wpAny_mono h (fun f s' h => by cases f <;> first | exact wpAny_execs_nil h | exact h) fun _ _ e => e)
end
/-- the state behind a statement: the frame, the ledger -/
noncomputable def Behind2 (g : Heap) (L : Addr) (news : List (Addr × Obj)) (s : Shared) (m : (Tok → PySem.Str → Option Value)) (s' : Shared) : Prop :=
  ∃ h' tk t, s' = { s with heap := h', toks := tk } ∧ Fr g L h' (m t) ∧ News g L h' news
/-- the state behind a statement, the frame by a word -/
noncomputable def BehindE (g : Heap) (L : Addr) (news : List (Addr × Obj)) (s : Shared) (P : (PySem.Str → Option Value) → Prop) (s' : Shared) : Prop :=
  ∃ h' tk m, s' = { s with heap := h', toks := tk } ∧ Fr g L h' m ∧ News g L h' news ∧ P m
theorem fr_again {g : Heap} {L : Addr} {h : Heap} {m : PySem.Str → Option Value} {x : PySem.Str} {v : Value} (F : Fr g L h m) (e : m x = some v) : Fr g L h (fun y => if y = x then some v else m y) := by
  have e' : (fun y => if y = x then some v else m y) = m := by
    funext y
    by_cases hy : y = x
    · subst hy; simp [e]
    · simp [hy]
  rw [e']; exact F
theorem fr_over {g : Heap} {L : Addr} {h : Heap} {m : PySem.Str → Option Value} {x : PySem.Str} {v v' : Value} (F : Fr g L h (fun y => if y = x then some v else if y = x then some v' else m y)) : Fr g L h (fun y => if y = x then some v else m y) := by
  have e' : (fun y => if y = x then some v else if y = x then some v' else m y) = (fun y => if y = x then some v else m y) := by
    funext y
    by_cases hy : y = x
    · rw [if_pos hy, if_pos hy]
    · rw [if_neg hy, if_neg hy, if_neg hy]
  rw [e'] at F; exact F
theorem fr_str {g : Heap} {L : Addr} {h : Heap} {m : PySem.Str → Option Value} {x a b : PySem.Str} {t : Tok} (F : Fr g L h (fun y => if y = x then some (.str a t) else m y)) (e : a = b) : Fr g L h (fun y => if y = x then some (.str b t) else m y) := e ▸ F
theorem fr_cast {g : Heap} {L : Addr} {h : Heap} {m m' : PySem.Str → Option Value} (F : Fr g L h m) (e : m = m') : Fr g L h m' := e ▸ F
end Mine
end
section
open PySem PySem.W PyProof.Rows
set_option Elab.async false
namespace Mine
noncomputable def markS (odd sign : Int) : PySem.Str := Txt.item (if odd = 0 then PySem.Str.ofString "],*|<=%}" else PySem.Str.ofString "([:;/&>.") sign
noncomputable def aheadS (d : Int) : PySem.Str := if d = 0 then PySem.Str.ofString "" else if d = 1 then PySem.Str.ofString ")) " else if d = 2 then PySem.Str.ofString "\"\" \")\" " else if d = 3 then PySem.Str.ofString "\"a\\\")\" " else if d = 4 then PySem.Str.ofString ") " else PySem.Str.ofString ""
noncomputable def behindS (d : Int) : PySem.Str := if d = 0 then PySem.Str.ofString "" else if d = 1 then PySem.Str.ofString "\"(\\a(\"" else if d = 2 then PySem.Str.ofString " ((" else if d = 3 then PySem.Str.ofString ") ((" else if d = 4 then PySem.Str.ofString " \"\\\\\" (((\"(x\"" else PySem.Str.ofString " \\\"(\" \"("
noncomputable def beforeI (d : Int) : Int := if d = 1 then -2 else if d = 4 then -1 else 0
noncomputable def afterI (d : Int) : Int := if d = 0 then 0 else if d = 1 then 0 else if d = 2 then 2 else if d = 3 then 1 else if d = 4 then 3 else 1
noncomputable def plainS (kind port : Int) : PySem.Str := if kind = 1 then (if port < 0 then PySem.Str.ofString "-0" ++ Txt.slice (PySem.Str.ofString (toString port)) (some 1) none else PySem.Str.ofString "+00" ++ PySem.Str.ofString (toString port))
  else if kind = 2 then PySem.Str.ofString " " ++ PySem.Str.ofString (toString port) ++ PySem.Str.ofString "\t" else if kind = 4 then PySem.Str.ofString (toString port) ++ PySem.Str.ofString "x" else PySem.Str.ofString (toString port)
noncomputable def fields0 (odd sign kind port : Int) : PySem.Str := Txt.mul (markS odd sign) 3 ++ plainS kind port ++ markS odd sign
noncomputable def fieldsS (odd sign kind port : Int) : PySem.Str :=
  if kind = 3 then markS odd sign ++ PySem.Str.ofString "7" ++ markS odd sign ++ PySem.Str.ofString "x" ++ markS odd sign ++ plainS kind port ++ markS odd sign
  else if kind = 5 then fields0 odd sign kind port ++ PySem.Str.ofString "x"
  else if kind = 6 then markS odd sign ++ fields0 odd sign kind port
  else if kind = 7 then Txt.slice (fields0 odd sign kind port) (some 1) none
  else if kind = 8 then fields0 odd sign kind port ++ markS odd sign
  else fields0 odd sign kind port
noncomputable def net0 (odd sign kind dress port : Int) : Int := beforeI dress + Txt.count (fieldsS odd sign kind port) (PySem.Str.ofString "(")
noncomputable def codeS (kind : Int) : PySem.Str := if kind = 9 then PySem.Str.ofString "228 " else PySem.Str.ofString "229 "
noncomputable def lineS (odd sign kind dress port : Int) : PySem.Str :=
  if kind = 8 then codeS kind ++ aheadS dress ++ PySem.Str.ofString "(" ++ fieldsS odd sign kind port
  else codeS kind ++ aheadS dress ++ PySem.Str.ofString "(" ++ fieldsS odd sign kind port ++ PySem.Str.ofString ")" ++ behindS dress
noncomputable def netI (odd sign kind dress port : Int) : Int := if kind = 8 then net0 odd sign kind dress port + 1 else net0 odd sign kind dress port + afterI dress
noncomputable def pairO (a b : Value) : Obj := { cls := .type "tuple", data := .seq #[a, b] }

theorem len_mark (odd sign : Int) : (markS odd sign).length = 1 := len_item _ _
theorem len_mark3 (odd sign : Int) : (Txt.mul (markS odd sign) 3).length = 3 := by
  have h := len_mul (markS odd sign) 3
  rw [len_mark] at h
  simp at h
  omega
theorem len_ahead (d : Int) : (aheadS d).length ≤ 12 := by unfold aheadS; (repeat' split) <;> decide
theorem len_behind (d : Int) : (behindS d).length ≤ 18 := by unfold behindS; (repeat' split) <;> decide
theorem len_code (d : Int) : (codeS d).length = 4 := by unfold codeS; (repeat' split) <;> decide
theorem len_port (port : Int) (hp : port.natAbs < 10 ^ 21) : (PySem.Str.ofString (toString port)).length ≤ 22 := by
  by_cases h : port < 0
  · rw [toString_neg h]
    have := toString_length_le (v := 0 - port) (by omega) (k := 21) (by decide) (by omega)
    rw [PySem.ofString_length] at this ⊢
    have e : ("-" : String).length = 1 := rfl
    simp at this ⊢
    omega
  · have := toString_length_le (v := port) (by omega) (k := 21) (by decide) (by omega)
    omega
theorem len_slice1 (x : PySem.Str) : (Txt.slice x (some 1) none).length ≤ x.length := Txt.slice_le x _ _
theorem len_plain (kind port : Int) (hp : port.natAbs < 10 ^ 21) : (plainS kind port).length ≤ 26 := by
  have h := len_port port hp
  have h' := len_slice1 (PySem.Str.ofString (toString port))
  have e1 : (PySem.Str.ofString "-0").length = 2 := rfl
  have e2 : (PySem.Str.ofString "+00").length = 3 := rfl
  have e3 : (PySem.Str.ofString " ").length = 1 := rfl
  have e4 : (PySem.Str.ofString "\t").length = 1 := rfl
  have e5 : (PySem.Str.ofString "x").length = 1 := rfl
  unfold plainS
  (repeat' split) <;> (try simp only [PySem.Str.length_append, e1, e2, e3, e4, e5]) <;> omega
theorem len_fields0 (odd sign kind port : Int) (hp : port.natAbs < 10 ^ 21) : (fields0 odd sign kind port).length ≤ 30 := by
  have := len_plain kind port hp
  unfold fields0
  simp only [PySem.Str.length_append, len_mark, len_mark3]; omega
theorem len_fields (odd sign kind port : Int) (hp : port.natAbs < 10 ^ 21) : (fieldsS odd sign kind port).length ≤ 40 := by
  have := len_plain kind port hp
  have h0 := len_fields0 odd sign kind port hp
  have h' := len_slice1 (fields0 odd sign kind port)
  have e5 : (PySem.Str.ofString "x").length = 1 := rfl
  have e6 : (PySem.Str.ofString "7").length = 1 := rfl
  unfold fieldsS
  (repeat' split) <;> (try simp only [PySem.Str.length_append, len_mark, len_mark3, e5, e6]) <;> omega
theorem len_line (odd sign kind dress port : Int) (hp : port.natAbs < 10 ^ 21) : (lineS odd sign kind dress port).length ≤ 100 := by
  have := len_fields odd sign kind port hp
  have := len_ahead dress
  have := len_behind dress
  have e5 : (PySem.Str.ofString "(").length = 1 := rfl
  have e6 : (PySem.Str.ofString ")").length = 1 := rfl
  unfold lineS
  (repeat' split) <;> (try simp only [PySem.Str.length_append, len_code, e5, e6]) <;> omega
end Mine
end
section
open PySem PySem.W PyProof.Rows PySem.Calls
set_option Elab.async false
set_option maxRecDepth 100000
namespace Mine
theorem call_fullC {prog : Program} {w : World} {A : Around} {R : Result → Shared → Prop} {s : Shared} {name : PySem.Str} {params : Arguments} {body : List Stmt} {scope : Scope}
    {dV kV pm cd doc : Value} {a : Addr} {o : Obj} {args : Args} {binds : List (PySem.Str × Value)}
    (hroom : A.depth < recursionLimit) (ho : s.heap.get? a = some o) (hdata : o.data = .func { docDef name params body scope pm cd doc with defaults := dV, kwdefaults := kV }) (hlim : s.heap.NoLimit) (hcd : s.heap.CodeRec cd name)
    (hbind : BindsTo s { docDef name params body scope pm cd doc with defaults := dV, kwdefaults := kV } args binds)
    (hloc : ∀ x ∈ binds, scope.names.lookup x.1 = some .local)
    (h : ∀ h₁, Fr s.heap s.heap.objs.size h₁ (fun x => binds.reverse.lookup x) →
      wpC (model prog w) (A.deeper (envOf name scope s.heap.objs.size a cd)) (execs body (envOf name scope s.heap.objs.size a cd))
        (fun f s' => R (.ok (.ret (match f with | .ret v => v | _ => .none))) s')
        (fun _ _ => False)
        { s with heap := h₁, toks := s.toks + binds.length })
    (hco : scope.isCoroutine = false) (hgen : scope.isGenerator = false) (hk : scope.kind = .function)
    (hcell : ∀ x ∈ scope.names, x.2 ≠ .cell) :
    codeC (model prog w) A (.call (.ref a) args) R s :=
  codeC_call_def hroom ho hdata hlim hcd rfl hbind hcell hloc (fun h₁ hns hkeep => wpC_mono (h h₁ ⟨hns, hkeep, Nat.le_refl _⟩) (fun _ _ x => x) fun _ _ x => x.elim) hco hgen hk
section
variable {M : Model} {A : Around} {E : Value → Shared → Prop} {s : Shared}
theorem cutC {env : Env} {st : Stmt} {rest : List Stmt} {Q : Flow → Shared → Prop} (P : Shared → Prop) (h1 : wpAny M A (exec st env) (Goes P) E s) (h2 : ∀ s', P s' → wpC M A (execs rest env) Q E s') :
    wpC M A (execs (st :: rest) env) Q E s := by
  refine execs_stepC (wpAny_mono h1 (fun f s' h => ?_) fun _ _ e => e)
  obtain ⟨rfl, hP⟩ := h
  exact h2 s' hP
theorem cutCC {env : Env} {st : Stmt} {rest : List Stmt} {Q : Flow → Shared → Prop} (P : Shared → Prop) (h1 : wpC M A (exec st env) (Goes P) E s) (h2 : ∀ s', P s' → wpC M A (execs rest env) Q E s') :
    wpC M A (execs (st :: rest) env) Q E s := by
  refine execs_consC (wpC_mono h1 (fun f s' h => ?_) fun _ _ e => e)
  obtain ⟨rfl, hP⟩ := h
  exact h2 s' hP
end
end Mine
end
section
open PySem PySem.W PyProof.Rows
set_option Elab.async false
namespace Mine
section
variable {M : Model} {A : Around} {E : Value → Shared → Prop} {s : Shared}
theorem cutK {env : Env} {st : Stmt} {rest : List Stmt} {Q : Flow → Shared → Prop} {P : (Shared → Prop) → Prop} (h1 : ∀ G : Flow → Shared → Prop, P (G .next) → ∀ E' : Value → Shared → Prop, wpAny M A (exec st env) G E' s)
    (h2 : P fun s' => wpAny M A (execs rest env) Q E s') : wpAny M A (execs (st :: rest) env) Q E s := wpAny_execs_cons (h1 _ h2 E)
theorem cutKC {env : Env} {st : Stmt} {rest : List Stmt} {Q : Flow → Shared → Prop} {P : (Shared → Prop) → Prop} (h1 : ∀ G : Flow → Shared → Prop, P (G .next) → ∀ E' : Value → Shared → Prop, wpAny M A (exec st env) G E' s)
    (h2 : P fun s' => wpC M A (execs rest env) Q E s') : wpC M A (execs (st :: rest) env) Q E s := execs_stepC (h1 _ h2 E)
theorem cutKCC {env : Env} {st : Stmt} {rest : List Stmt} {Q : Flow → Shared → Prop} {P : (Shared → Prop) → Prop} (h1 : ∀ G : Flow → Shared → Prop, P (G .next) → ∀ E' : Value → Shared → Prop, wpC M A (exec st env) G E' s)
    (h2 : P fun s' => wpC M A (execs rest env) Q E s') : wpC M A (execs (st :: rest) env) Q E s := execs_consC (h1 _ h2 E)
theorem midK {α : Type} {t : Sem α} {Q : α → Shared → Prop} {P : (Shared → Prop) → Prop} (h1 : ∀ G : α → Shared → Prop, (∀ a, P (G a)) → wpAny M A t G E s) (h2 : ∀ a, P (Q a)) : wpAny M A t Q E s := h1 Q h2
end
end Mine
end
section
open PySem PySem.W PyProof.Rows
set_option Elab.async false
set_option maxRecDepth 100000
set_option maxHeartbeats 8000000
namespace Mine
local macro_rules | `(tactic| size_fits) => `(tactic| exact Nat.le_of_ble_eq_true rfl)

theorem ll1 : (PySem.Str.ofString "7").length = 1 := rfl
theorem ll2 : (PySem.Str.ofString "x").length = 1 := rfl
theorem ll3 : (PySem.Str.ofString "(").length = 1 := rfl
theorem ll4 : (PySem.Str.ofString ")").length = 1 := rfl
local macro_rules | `(tactic| kt_len) => `(tactic| k_extra "my len")

theorem line_law (w : World) (odd sign kind dress port : Int) (t1 t2 t3 t4 t5 : Tok) (h1 : 0 ≤ odd) (h2 : odd < 2) (h3 : 0 ≤ sign) (h4 : sign < 8) (h5 : 0 ≤ kind) (h6 : kind < 10) (h7 : 0 ≤ dress) (h8 : dress < 6) (hp : port.natAbs < 10 ^ 21) :
  AtN w 3 20 fun A h₀ L m news s => ∀ (Q E : Value → Shared → Prop),
    (∀ l h' tk' t u, Fr h₀ L h' m → News h₀ L h' ((l, pairO (.str (lineS odd sign kind dress port) t) (.int (netI odd sign kind dress port) u)) :: news) → Q (.ref l) { s with heap := h', toks := tk' }) →
    wpAny (model PG w) A (call (.ref 126) [.int odd t1, .int sign t2, .int kind t3, .int dress t4, .int port t5]) Q E s := by
  k_with_none
  k_with "my all" => (with_reducible (first | (intro p hp; (repeat' (first | assumption | refine List.mem_cons_of_mem _ ?_ | refine List.mem_append_left _ ?_)); done) | (refine List.forall_mem_cons.mpr ⟨?_, ?_⟩; focus ((repeat' (first | exact List.mem_cons_self | refine List.mem_cons_of_mem _ ?_)); done); kcj_all)))
  k_with "my ne" => (refine neN ?_; (try dsimp only); with_reducible (first | assumption | (refine Ne.symm ?_; assumption) | exact Nat.ne_of_lt (by assumption) | exact Nat.ne_of_gt (by assumption)))
  k_with "my len" => ((try simp only [PySem.Str.length_append, len_mark, len_mark3, len_code, ll1, ll2, ll3, ll4]); omega)
  k_with "subscriptTail" => ((with_reducible show wpAny _ _ (subscriptTail _ _ (Value.ref _) (Value.int dress _)) _ _ _); rcases ho with rfl | rfl | rfl | rfl | rfl | rfl)
  k_with "subscriptTail" => ((with_reducible show wpAny _ _ (subscriptTail _ _ (Value.ref _) (Value.int odd _)) _ _ _); rcases ho with rfl | rfl)
  k_with "exec Assign" => ((with_reducible show wpAny _ _ (exec (Stmt.Assign [Expr.Tuple _ _ _] _ _) _) _ _ _); (with_reducible refine Assign_Tuple ?_ ?s1 ?s2); (case s1 => k_dflt rfl); (case s2 => k_dflt rfl))
  k_with "binaryOp Mult str int" => ((k_here; (with_reducible show wpAny _ _ (binaryOp Operator.Mult (Value.str (markS _ _) _) (Value.int _ _)) _ _ _); (with_reducible refine KXi.mul (n := 1) (len_mark _ _) (by decide) (by decide) (by decide) ?_); intro _ _ _ _))
  k_with "binaryOp Add str str" => ((k_here; (with_reducible show wpAny _ _ (binaryOp Operator.Add (Value.str _ _) (Value.str _ _)) _ _ _); (with_reducible refine KXadd.add (K := 120) (L := 120) ?a ?b (by decide) ?_); k_dflt ((case a => kt_len); (case b => kt_len); intro _ _ _)))
  unfold AtN; dsimp only [PG, LS, KK, TopM, pairO]
  k_fill
  intro dp un gd cn cns cg cc cmo a ccd cl outer A₀ base h₀ L m mg mb mean news s B F X N T hd hu Q E hret
  refine wpAny_call ?_
  k_dflt (refine' code_def ?k1 ?k2 ?k3 ?k4 ?k5 ?kA ?kF ?kK ?k6 ?k7 ?k8 ?k9 ?kB ?_ ?c2 ?c3 ?c4 ?c5; (case kA => exact rfl); (case kF => exact rfl); (case kK => exact rfl); (case k1 => k_asm); (case k2 => k_asm); (case k3 => k_asm); (case k4 => k_asm); (case k5 => k_asm); (case k6 => k_is); (case k7 => k_is); (case k8 => ktr_room); (case k9 => first | exact BindsTo.of_eq rfl | exact binds_K (by k_in) rfl (by k_is) rfl rfl rfl); (case c5 => decide); (case kB => exact locs rfl); (case c2 => exact rfl); (case c3 => exact rfl); (case c4 => exact rfl); k_whole)
  intro g' L' h' FG' F' N' B' X' T'
  (try dsimp only)
  k_fold

  obtain ⟨mB, F2⟩ : ∃ mB : PySem.Str → Option Value, Fr g' L' h' (fun y => if y = PySem.Str.ofString "odd" then some (.int odd t1) else if y = PySem.Str.ofString "sign" then some (.int sign t2) else if y = PySem.Str.ofString "kind" then some (.int kind t3) else if y = PySem.Str.ofString "dress" then some (.int dress t4) else if y = PySem.Str.ofString "port" then some (.int port t5) else mB y) := ⟨_, fr_again (x := PySem.Str.ofString "odd") (fr_again (x := PySem.Str.ofString "sign") (fr_again (x := PySem.Str.ofString "kind") (fr_again (x := PySem.Str.ofString "dress") (fr_again (x := PySem.Str.ofString "port") F' rfl) rfl) rfl) rfl) rfl⟩
  clear F'
  have lp := len_plain kind port hp
  have l0 := len_fields0 odd sign kind port hp
  have l1 := len_fields odd sign kind port hp
  have l2 := len_ahead dress
  have l3 := len_behind dress
  with_reducible refine cutK (P := fun G => ∀ (h2 : Heap) (tk2 : Nat) (tm : Tok), Fr g' L' h2 (fun y => if y = PySem.Str.ofString "mark" then some (.str (markS odd sign) tm) else if y = PySem.Str.ofString "odd" then some (.int odd t1) else if y = PySem.Str.ofString "sign" then some (.int sign t2) else if y = PySem.Str.ofString "kind" then some (.int kind t3) else if y = PySem.Str.ofString "dress" then some (.int dress t4) else if y = PySem.Str.ofString "port" then some (.int port t5) else mB y) → News g' L' h2 news → G { s with heap := h2, toks := tk2 }) ?_ ?_
  · intro G hG E2
    have ho : odd = 0 ∨ odd = 1 := by omega
    k_steps
    all_goals (exact hG _ _ _ (by assumption) (cb_drop (by assumption) (by kcj_all)))
  · intro h3' tk3 tm F3 N3
    clear F2 N'
    with_reducible refine cutK (P := fun G => ∀ (h2 : Heap) (tk2 : Nat) (ta tb tc td tm : Tok), Fr g' L' h2 (fun y => if y = PySem.Str.ofString "after" then some (.int (afterI dress) ta) else if y = PySem.Str.ofString "behind" then some (.str (behindS dress) tb) else if y = PySem.Str.ofString "before" then some (.int (beforeI dress) tc) else if y = PySem.Str.ofString "ahead" then some (.str (aheadS dress) td) else if y = PySem.Str.ofString "mark" then some (.str (markS odd sign) tm) else if y = PySem.Str.ofString "odd" then some (.int odd t1) else if y = PySem.Str.ofString "sign" then some (.int sign t2) else if y = PySem.Str.ofString "kind" then some (.int kind t3) else if y = PySem.Str.ofString "dress" then some (.int dress t4) else if y = PySem.Str.ofString "port" then some (.int port t5) else mB y) → News g' L' h2 news → G { s with heap := h2, toks := tk2 }) ?_ ?_
    · intro G hG E2
      have ho : dress = 0 ∨ dress = 1 ∨ dress = 2 ∨ dress = 3 ∨ dress = 4 ∨ dress = 5 := by omega
      k_steps
      all_goals (exact hG _ _ _ _ _ _ _ (by assumption) (cb_drop (by assumption) (by kcj_all)))
    · intro h4' tk4 ta tb tc td tm F4 N4
      clear F3 N3
      with_reducible refine cutK (P := fun G => ∀ (h2 : Heap) (tk2 : Nat) (tp ta tb tc td tm : Tok), Fr g' L' h2 (fun y => if y = PySem.Str.ofString "plain" then some (.str (PySem.Str.ofString (toString port)) tp) else if y = PySem.Str.ofString "after" then some (.int (afterI dress) ta) else if y = PySem.Str.ofString "behind" then some (.str (behindS dress) tb) else if y = PySem.Str.ofString "before" then some (.int (beforeI dress) tc) else if y = PySem.Str.ofString "ahead" then some (.str (aheadS dress) td) else if y = PySem.Str.ofString "mark" then some (.str (markS odd sign) tm) else if y = PySem.Str.ofString "odd" then some (.int odd t1) else if y = PySem.Str.ofString "sign" then some (.int sign t2) else if y = PySem.Str.ofString "kind" then some (.int kind t3) else if y = PySem.Str.ofString "dress" then some (.int dress t4) else if y = PySem.Str.ofString "port" then some (.int port t5) else mB y) → News g' L' h2 news → G { s with heap := h2, toks := tk2 }) ?_ ?_
      · intro G hG E2
        k_steps
        all_goals (exact hG _ _ _ _ _ _ _ _ (by assumption) (cb_drop (by assumption) (by kcj_all)))
      · intro h5' tk5 tp ta tb tc td tm F5 N5
        clear F4 N4
        with_reducible refine cutK (P := fun G => ∀ (h2 : Heap) (tk2 : Nat) (tp ta tb tc td tm : Tok), Fr g' L' h2 (fun y => if y = PySem.Str.ofString "plain" then some (.str (plainS kind port) tp) else if y = PySem.Str.ofString "after" then some (.int (afterI dress) ta) else if y = PySem.Str.ofString "behind" then some (.str (behindS dress) tb) else if y = PySem.Str.ofString "before" then some (.int (beforeI dress) tc) else if y = PySem.Str.ofString "ahead" then some (.str (aheadS dress) td) else if y = PySem.Str.ofString "mark" then some (.str (markS odd sign) tm) else if y = PySem.Str.ofString "odd" then some (.int odd t1) else if y = PySem.Str.ofString "sign" then some (.int sign t2) else if y = PySem.Str.ofString "kind" then some (.int kind t3) else if y = PySem.Str.ofString "dress" then some (.int dress t4) else if y = PySem.Str.ofString "port" then some (.int port t5) else mB y) → News g' L' h2 news → G { s with heap := h2, toks := tk2 }) ?_ ?_
        · intro G hG E2
          k_steps
          all_goals first
            | (refine hG _ _ _ _ _ _ _ _ (fr_str (fr_over (by assumption)) ?e) (cb_drop (by assumption) (by kcj_all)); (case e => unfold plainS; (repeat' split) <;> first | omega | rfl))
            | (refine hG _ _ _ _ _ _ _ _ (fr_str (by assumption) ?e) (cb_drop (by assumption) (by kcj_all)); (case e => unfold plainS; (repeat' split) <;> first | omega | rfl))
            | fail "end"
        · intro h6' tk6 tp ta tb tc td tm F6 N6
          clear F5 N5
          with_reducible refine cutK (P := fun G => ∀ (h2 : Heap) (tk2 : Nat) (tf tp ta tb tc td tm : Tok), Fr g' L' h2 (fun y => if y = PySem.Str.ofString "fields" then some (.str (fields0 odd sign kind port) tf) else if y = PySem.Str.ofString "plain" then some (.str (plainS kind port) tp) else if y = PySem.Str.ofString "after" then some (.int (afterI dress) ta) else if y = PySem.Str.ofString "behind" then some (.str (behindS dress) tb) else if y = PySem.Str.ofString "before" then some (.int (beforeI dress) tc) else if y = PySem.Str.ofString "ahead" then some (.str (aheadS dress) td) else if y = PySem.Str.ofString "mark" then some (.str (markS odd sign) tm) else if y = PySem.Str.ofString "odd" then some (.int odd t1) else if y = PySem.Str.ofString "sign" then some (.int sign t2) else if y = PySem.Str.ofString "kind" then some (.int kind t3) else if y = PySem.Str.ofString "dress" then some (.int dress t4) else if y = PySem.Str.ofString "port" then some (.int port t5) else mB y) → News g' L' h2 news → G { s with heap := h2, toks := tk2 }) ?_ ?_
          · intro G hG E2
            k_steps
            all_goals first
              | (refine hG _ _ _ _ _ _ _ _ _ (fr_str (fr_over (by assumption)) ?e) (cb_drop (by assumption) (by kcj_all)); (case e => rfl))
              | (refine hG _ _ _ _ _ _ _ _ _ (fr_str (by assumption) ?e) (cb_drop (by assumption) (by kcj_all)); (case e => rfl))
              | fail "end"
          · intro h7' tk7 tf tp ta tb tc td tm F7 N7
            clear F6 N6
            with_reducible refine cutK (P := fun G => ∀ (h2 : Heap) (tk2 : Nat) (tf tp ta tb tc td tm : Tok), Fr g' L' h2 (fun y => if y = PySem.Str.ofString "fields" then some (.str (fieldsS odd sign kind port) tf) else if y = PySem.Str.ofString "plain" then some (.str (plainS kind port) tp) else if y = PySem.Str.ofString "after" then some (.int (afterI dress) ta) else if y = PySem.Str.ofString "behind" then some (.str (behindS dress) tb) else if y = PySem.Str.ofString "before" then some (.int (beforeI dress) tc) else if y = PySem.Str.ofString "ahead" then some (.str (aheadS dress) td) else if y = PySem.Str.ofString "mark" then some (.str (markS odd sign) tm) else if y = PySem.Str.ofString "odd" then some (.int odd t1) else if y = PySem.Str.ofString "sign" then some (.int sign t2) else if y = PySem.Str.ofString "kind" then some (.int kind t3) else if y = PySem.Str.ofString "dress" then some (.int dress t4) else if y = PySem.Str.ofString "port" then some (.int port t5) else mB y) → News g' L' h2 news → G { s with heap := h2, toks := tk2 }) ?_ ?_
            · intro G hG E2
              k_steps
              all_goals first
                | (refine hG _ _ _ _ _ _ _ _ _ (fr_str (fr_over (by assumption)) ?e) (cb_drop (by assumption) (by kcj_all)); (case e => unfold fieldsS; (repeat' split) <;> first | omega | rfl))
                | (refine hG _ _ _ _ _ _ _ _ _ (fr_str (by assumption) ?e) (cb_drop (by assumption) (by kcj_all)); (case e => unfold fieldsS; (repeat' split) <;> first | omega | rfl))
                | fail "end"
            · intro h8' tk8 tf tp ta tb tc td tm F8 N8
              clear F7 N7
              with_reducible refine cutK (P := fun G => ∀ (h2 : Heap) (tk2 : Nat) (tn tf tp ta tb tc td tm : Tok), Fr g' L' h2 (fun y => if y = PySem.Str.ofString "net" then some (.int (net0 odd sign kind dress port) tn) else if y = PySem.Str.ofString "fields" then some (.str (fieldsS odd sign kind port) tf) else if y = PySem.Str.ofString "plain" then some (.str (plainS kind port) tp) else if y = PySem.Str.ofString "after" then some (.int (afterI dress) ta) else if y = PySem.Str.ofString "behind" then some (.str (behindS dress) tb) else if y = PySem.Str.ofString "before" then some (.int (beforeI dress) tc) else if y = PySem.Str.ofString "ahead" then some (.str (aheadS dress) td) else if y = PySem.Str.ofString "mark" then some (.str (markS odd sign) tm) else if y = PySem.Str.ofString "odd" then some (.int odd t1) else if y = PySem.Str.ofString "sign" then some (.int sign t2) else if y = PySem.Str.ofString "kind" then some (.int kind t3) else if y = PySem.Str.ofString "dress" then some (.int dress t4) else if y = PySem.Str.ofString "port" then some (.int port t5) else mB y) → News g' L' h2 news → G { s with heap := h2, toks := tk2 }) ?_ ?_
              · intro G hG E2
                k_steps
                all_goals (exact hG _ _ _ _ _ _ _ _ _ _ (by assumption) (cb_drop (by assumption) (by kcj_all)))
              · intro h9' tk9 tn tf tp ta tb tc td tm F9 N9
                clear F8 N8
                with_reducible refine cutK (P := fun G => ∀ (h2 : Heap) (tk2 : Nat) (tc2 tn tf tp ta tb tc td tm : Tok), Fr g' L' h2 (fun y => if y = PySem.Str.ofString "code" then some (.str (codeS kind) tc2) else if y = PySem.Str.ofString "net" then some (.int (net0 odd sign kind dress port) tn) else if y = PySem.Str.ofString "fields" then some (.str (fieldsS odd sign kind port) tf) else if y = PySem.Str.ofString "plain" then some (.str (plainS kind port) tp) else if y = PySem.Str.ofString "after" then some (.int (afterI dress) ta) else if y = PySem.Str.ofString "behind" then some (.str (behindS dress) tb) else if y = PySem.Str.ofString "before" then some (.int (beforeI dress) tc) else if y = PySem.Str.ofString "ahead" then some (.str (aheadS dress) td) else if y = PySem.Str.ofString "mark" then some (.str (markS odd sign) tm) else if y = PySem.Str.ofString "odd" then some (.int odd t1) else if y = PySem.Str.ofString "sign" then some (.int sign t2) else if y = PySem.Str.ofString "kind" then some (.int kind t3) else if y = PySem.Str.ofString "dress" then some (.int dress t4) else if y = PySem.Str.ofString "port" then some (.int port t5) else mB y) → News g' L' h2 news → G { s with heap := h2, toks := tk2 }) ?_ ?_
                · intro G hG E2
                  k_steps
                  all_goals first
                    | (refine hG _ _ _ _ _ _ _ _ _ _ _ (fr_str (fr_over (by assumption)) ?e) (cb_drop (by assumption) (by kcj_all)); (case e => unfold codeS; (repeat' split) <;> first | omega | rfl))
                    | (refine hG _ _ _ _ _ _ _ _ _ _ _ (fr_str (by assumption) ?e) (cb_drop (by assumption) (by kcj_all)); (case e => unfold codeS; (repeat' split) <;> first | omega | rfl))
                    | fail "end"
                · intro h10' tk10 tc2 tn tf tp ta tb tc td tm F10 N10
                  clear F9 N9
                  by_cases hk : kind = 8
                  · rw [lineS, netI, if_pos hk, if_pos hk] at hret
                    k_steps
                    all_goals first | (exfalso; omega) | exact hret _ _ _ _ _ (by assumption) (by assumption)
                  · rw [lineS, netI, if_neg hk, if_neg hk] at hret
                    k_steps
                    all_goals first | (exfalso; omega) | exact hret _ _ _ _ _ (by assumption) (by assumption)
                  end Mine
end
section
open PySem PySem.W PyProof.Rows
set_option Elab.async false
set_option maxRecDepth 100000
set_option maxHeartbeats 8000000
namespace Mine
noncomputable def nearestN (x y : Int) : Int := if y > 0 then Int.fdiv (x + if y < 0 then -y else y) (2 * if y < 0 then -y else y) else - Int.fdiv (x + if y < 0 then -y else y) (2 * if y < 0 then -y else y)
theorem near_law (w : World) (x y : Int) (t1 t2 : Tok) (hy : y ≠ 0) :
  AtN w 105 20 fun A h₀ L m news s => ∀ (Q E : Value → Shared → Prop),
    (∀ h' tk' t, Fr h₀ L h' m → News h₀ L h' news → Q (.int (nearestN x y) t) { s with heap := h', toks := tk' }) →
    wpAny (model PG w) A (call (.ref 154) [.int x t1, .int y t2]) Q E s := by
  k_with_none
  k_with "binaryOp FloorDiv int int" => ((k_here; (with_reducible show wpAny _ _ (binaryOp Operator.FloorDiv (Value.int _ _) (Value.int _ _)) _ _ _); k_dflt (refine floordiv_int ?h0 ?_ (Or.inr (PySem.PylongRoom.of (Heap.NoLimit.keeps (Top.nolimit (by assumption)) (Fr.keep (by assumption))) ?dd)); (case h0 => (simp only [ne_eq]; omega)); (case dd => (show _ + 100 < _; dsimp only [ktrTop, Around.deeper] ; omega)); k_whole)))
  unfold AtN; dsimp only [PG, LS, KK, TopM]
  k_fill
  intro dp un gd cn cns cg cc cmo a ccd cl outer A₀ base h₀ L m mg mb mean news s B F X N T hd hu Q E hret
  refine wpAny_call ?_
  k_dflt (refine' code_def ?k1 ?k2 ?k3 ?k4 ?k5 ?kA ?kF ?kK ?k6 ?k7 ?k8 ?k9 ?kB ?_ ?c2 ?c3 ?c4 ?c5; (case kA => exact rfl); (case kF => exact rfl); (case kK => exact rfl); (case k1 => k_asm); (case k2 => k_asm); (case k3 => k_asm); (case k4 => k_asm); (case k5 => k_asm); (case k6 => k_is); (case k7 => k_is); (case k8 => ktr_room); (case k9 => first | exact BindsTo.of_eq rfl | exact binds_K (by k_in) rfl (by k_is) rfl rfl rfl); (case c5 => decide); (case kB => exact locs rfl); (case c2 => exact rfl); (case c3 => exact rfl); (case c4 => exact rfl); k_whole)
  intro g' L' h' FG' F' N' B' X' T'
  (try dsimp only)
  k_fold
  by_cases hp : y > 0
  · rw [nearestN, if_pos hp] at hret
    k_steps
    all_goals first | (exfalso; omega) | exact hret _ _ _ (by assumption) (by assumption)
  · rw [nearestN, if_neg hp] at hret
    k_steps
    all_goals first | (exfalso; omega) | exact hret _ _ _ (by assumption) (by assumption)
end Mine
end
section
open PySem PySem.W PyProof.Rows
set_option Elab.async false
namespace Mine
noncomputable abbrev JT := (PySem.Str → Option Value) → List (Addr × Obj) → Prop
/-- how a turn ends -/
noncomputable def TurnEnd (h₀ : Heap) (L : Addr) (J : JT) (p : Addr × Obj) (s : Shared) (Q : Flow → Shared → Prop) (f : Flow) (s₂ : Shared) : Prop :=
  match f with
  | .ret v => Q (.ret v) s₂
  | .brk => Q .next s₂
  | _ => ∃ h' tk m' news', s₂ = { s with heap := h', toks := tk } ∧ Fr h₀ L h' m' ∧ News h₀ L h' (p :: news') ∧ (∀ q ∈ news', q.1 ≠ p.1) ∧ J m' news'
/-- what an iterator does -/
structure Draws (prog : Program) (w : World) (A : Around) (target : Expr) (it : Addr) (n : Nat) (Kp : Heap → Prop) (Itr : Nat → Obj → Prop) (P : Nat → Value → Prop) : Prop where
  next : ∀ (i : Nat) (s : Shared) (o : Obj) (Q : Option Value → Shared → Prop) (E : Value → Shared → Prop), i < n → Kp s.heap → s.heap.get? it = some o → Itr i o →
    (∀ h' v tk o', P i v → Itr (i + 1) o' → h'.get? it = some o' → Heap.SameBut it s.heap h' → Q (some v) { s with heap := h', toks := tk }) → wpAny (model prog w) A (pyNext (.ref it)) Q E s
  stop : ∀ (s : Shared) (o : Obj) (Q : Option Value → Shared → Prop) (E : Value → Shared → Prop), Kp s.heap → s.heap.get? it = some o → Itr n o →
    (∀ h', Heap.ExtBut it s.heap h' → Q none { s with heap := h' }) → wpAny (model prog w) A (pyNext (.ref it)) Q E s
  go : ∀ (i : Nat) (s : Shared) (o : Obj) (v : Value) (Q : Unit → Shared → Prop) (E : Value → Shared → Prop), s.heap.get? it = some o → Itr i o → Q () s → wpAny (model prog w) A (letOwnedTupleGo target (.ref it) v) Q E s
section
variable {prog : Program} {w : World} {A : Around} {env : Env} {h₀ : Heap} {L : Addr} {target : Expr} {body : List Stmt} {s : Shared}
theorem newsTl {h : Heap} {p : Addr × Obj} {news : List (Addr × Obj)} (N : News h₀ L h (p :: news)) : News h₀ L h news := fun q hq => N q (.tail _ hq)
theorem codeC_forLoop {R : Result → Shared → Prop} {it : Value} (I : Nat → Shared → Prop)
    (turn : ∀ n s, I n s → wpAny (model prog w) A (pyNext it) (fun r s₁ => match r with
      | none => R (.ok .next) s₁
      | some v => wpAny (model prog w) A (letOwnedTupleGo target it v) (fun _ s₁' =>
          wpAny (model prog w) A (assign target env v) (fun _ s₂ => wpC (model prog w) A (execs body env) (fun f s₃ => match f with
            | .next | .cont => ∃ m, m < n ∧ I m s₃
            | .brk => R (.ok .next) s₃
            | .ret v => R (.ok (.ret v)) s₃) (fun _ _ => False) s₂) (fun _ _ => False) s₁') (fun _ _ => False) s₁) (fun _ _ => False) s)
    (n : Nat) (h : I n s) : codeC (model prog w) A (.forLoop target it body [] env) R s := by
  refine codeC_loop rfl I (fun n s hI => ?_) n h
  show wpC _ A ((forTurn target it body [] env).onRaise (fun x => do noteFrame x env; theTreesLotGoes x)) _ _ s
  refine wpC_onRaise ?_
  simp only [forTurn]
  refine wpC_bind (wpC_standAt (wpC_bind (wpC_of_any (wpAny_onRaise (wpAny_mono (turn n s hI) (fun r s₁ h₁ => ?_) fun _ _ h' => h'.elim)))))
  cases r with
  | none => exact wpC_pure (.inr ⟨rfl, codeC_of_any (codeAny_block (wpAny_execs_nil h₁))⟩)
  | some v =>
    refine wpC_bind (wpC_of_any (wpAny_mono h₁ (fun _ s₁' h₁' => ?_) fun _ _ h' => h'.elim))
    refine wpC_bind (wpC_of_any (wpAny_mono h₁' (fun _ s₂ h₂ => wpC_bind (wpC_mono h₂ (fun f s₃ h₃ => ?_) fun _ _ h' => h'.elim)) fun _ _ h' => h'.elim))
    cases f with
    | next => exact wpC_pure (.inl ⟨rfl, h₃⟩)
    | cont => exact wpC_pure (.inl ⟨rfl, h₃⟩)
    | brk => exact wpC_pure h₃
    | ret v => exact wpC_pure h₃
theorem forC {iter : Expr} {pos : Pos} {Q : Flow → Shared → Prop} {E : Value → Shared → Prop}
    (h : wpAny (model prog w) A (eval iter env) (fun x s₁ => wpAny (model prog w) A (pyIter x) (fun it s₂ =>
      codeC (model prog w) A (.forLoop target it body [] env) (fun r s' => match r with | .ok f => Q f s' | .error _ => False) s₂) (fun _ _ => False) s₁) (fun _ _ => False) s)
    (hs : ∀ x, foldedSetIterable iter env x = pure x := by intro _; rfl) :
    wpC (model prog w) A (exec (.For target iter body [] pos) env) Q E s := by
  rw [exec_For]
  refine wpC_bind (wpC_standAt (wpC_bind (wpC_of_any (wpAny_mono h (fun x s₁ h₁ => ?_) fun _ _ e => e.elim))))
  refine wpC_bind (wpC_of_any (wpAny_of_eq (hs x) (?_ : _)))
  refine wpC_bind (wpC_standAt (wpC_bind (wpC_of_any (wpAny_holding (wpAny_mono h₁ (fun it s₂ h₂ => ?_) fun _ _ e => e.elim)))))
  unfold runOwn
  refine wpC_onRaise (wpC_run (codeC_mono h₂ fun r s' h' => ?_))
  cases r with
  | ok f => exact h'
  | error e => exact h'.elim
theorem forLoopA {Q : Flow → Shared → Prop} {R : Result → Shared → Prop} {it : Addr} {n : Nat} {Kp : Heap → Prop} {Itr : Nat → Obj → Prop} {P : Nat → Value → Prop}
    (W : Draws prog w A target it n Kp Itr P) (J : Nat → JT) (hK : ∀ i m₁ news₁ h, J i m₁ news₁ → Fr h₀ L h m₁ → News h₀ L h news₁ → Kp h)
    (hRQ : ∀ f s', Q f s' → R (.ok f) s')
    {m : PySem.Str → Option Value} {news : List (Addr × Obj)} {o : Obj} (F : Fr h₀ L s.heap m) (N : News h₀ L s.heap ((it, o) :: news)) (hap : ∀ p ∈ news, p.1 ≠ it) (ho : Itr 0 o) (hJ : J 0 m news)
    (turn : ∀ i v m₁ news₁ h tk o', i < n → P i v → J i m₁ news₁ → (∀ p ∈ news₁, p.1 ≠ it) → Fr h₀ L h m₁ → News h₀ L h ((it, o') :: news₁) →
      wpAny (model prog w) A (assign target env v) (fun _ s₁ => wpAny (model prog w) A (execs body env) (TurnEnd h₀ L (J (i + 1)) (it, o') s Q) (fun _ _ => False) s₁) (fun _ _ => False) { s with heap := h, toks := tk })
    (done : ∀ m₁ news₁ h tk, J n m₁ news₁ → Fr h₀ L h m₁ → News h₀ L h news₁ → Q .next { s with heap := h, toks := tk }) :
    codeAny (model prog w) A (.forLoop target (.ref it) body [] env) R s := by
  refine codeAny_forLoop_any (fun k s' => ∃ h' tk m' news' o' i, s' = { s with heap := h', toks := tk } ∧ Fr h₀ L h' m' ∧ News h₀ L h' ((it, o') :: news') ∧ (∀ p ∈ news', p.1 ≠ it) ∧ Itr i o' ∧ J i m' news' ∧ i ≤ n ∧ k = n + 1 - i) ?_ (n + 1)
    ⟨s.heap, s.toks, m, news, o, 0, rfl, F, N, hap, ho, hJ, Nat.zero_le _, rfl⟩
  rintro k s' ⟨h', tk, m', news', o', i, rfl, F', N', hsep, ho', hJ', hi, rfl⟩
  have hit := (N' _ (.head _)).1
  have hitL := (N' _ (.head _)).2.1
  have hit0 := (N' _ (.head _)).2.2
  by_cases hlt : i < n
  · refine W.next i _ o' _ _ hlt (hK _ _ _ _ hJ' F' (newsTl N')) hit ho' fun h₁ v tk₁ o₁ hP ho₁ hit₁ hs₁ => ?_
    have F₁ : Fr h₀ L h₁ m' := F'.change hs₁ hitL hit0
    have N₁ : News h₀ L h₁ ((it, o₁) :: news') := News.setHead N' hsep hs₁ hit₁
    refine W.go (i + 1) _ o₁ v _ _ hit₁ ho₁ ?_
    refine wpAny_mono (turn i v m' news' h₁ tk₁ o₁ hlt hP hJ' hsep F₁ N₁) (fun _ s₂ h₂ => wpAny_mono h₂ (fun f s₃ h₃ => ?_) fun _ _ e => e.elim) fun _ _ e => e.elim
    have fin : (∃ h' tk m' news', s₃ = { s with heap := h', toks := tk } ∧ Fr h₀ L h' m' ∧ News h₀ L h' ((it, o₁) :: news') ∧ (∀ p ∈ news', p.1 ≠ it) ∧ J (i + 1) m' news') → ∃ mm, mm < n + 1 - i ∧ ∃ h' tk m' news' o' i, s₃ = { s with heap := h', toks := tk } ∧ Fr h₀ L h' m' ∧ News h₀ L h' ((it, o') :: news') ∧ (∀ p ∈ news', p.1 ≠ it) ∧ Itr i o' ∧ J i m' news' ∧ i ≤ n ∧ mm = n + 1 - i := by
      rintro ⟨h₄, tk₄, m₄, news₄, e, F₄, N₄, a₄, J₄⟩
      exact ⟨n + 1 - (i + 1), by omega, h₄, tk₄, m₄, news₄, o₁, i + 1, e, F₄, N₄, a₄, ho₁, J₄, hlt, rfl⟩
    cases f with
    | next => exact fin h₃
    | cont => exact fin h₃
    | brk => exact hRQ _ _ h₃
    | ret v => exact hRQ _ _ h₃
  · have hin : i = n := by omega
    subst hin
    refine W.stop _ o' _ _ (hK _ _ _ _ hJ' F' (newsTl N')) hit ho' fun h₁ he₁ => wpAny_execs_nil (hRQ _ _ ?_)
    have N₁ : News h₀ L h₁ news' := fun p hp => ⟨he₁ p.1 p.2 (hsep p hp) (N' p (.tail _ hp)).1, (N' p (.tail _ hp)).2⟩
    have F₁ : Fr h₀ L h₁ m' := ⟨F'.ns.extBut he₁ (Ne.symm hitL), fun b o e => he₁ b o (fun hb => by rw [hb] at e; rw [hit0] at e; cases e) (F'.keep b o e), F'.above⟩
    exact done m' news' h₁ tk hJ' F₁ N₁
theorem forLoopC {Q : Flow → Shared → Prop} {R : Result → Shared → Prop} {it : Addr} {n : Nat} {Kp : Heap → Prop} {Itr : Nat → Obj → Prop} {P : Nat → Value → Prop}
    (W : Draws prog w A target it n Kp Itr P) (J : Nat → JT) (hK : ∀ i m₁ news₁ h, J i m₁ news₁ → Fr h₀ L h m₁ → News h₀ L h news₁ → Kp h)
    (hRQ : ∀ f s', Q f s' → R (.ok f) s')
    {m : PySem.Str → Option Value} {news : List (Addr × Obj)} {o : Obj} (F : Fr h₀ L s.heap m) (N : News h₀ L s.heap ((it, o) :: news)) (hap : ∀ p ∈ news, p.1 ≠ it) (ho : Itr 0 o) (hJ : J 0 m news)
    (turn : ∀ i v m₁ news₁ h tk o', i < n → P i v → J i m₁ news₁ → (∀ p ∈ news₁, p.1 ≠ it) → Fr h₀ L h m₁ → News h₀ L h ((it, o') :: news₁) →
      wpAny (model prog w) A (assign target env v) (fun _ s₁ => wpC (model prog w) A (execs body env) (TurnEnd h₀ L (J (i + 1)) (it, o') s Q) (fun _ _ => False) s₁) (fun _ _ => False) { s with heap := h, toks := tk })
    (done : ∀ m₁ news₁ h tk, J n m₁ news₁ → Fr h₀ L h m₁ → News h₀ L h news₁ → Q .next { s with heap := h, toks := tk }) :
    codeC (model prog w) A (.forLoop target (.ref it) body [] env) R s := by
  refine codeC_forLoop (fun k s' => ∃ h' tk m' news' o' i, s' = { s with heap := h', toks := tk } ∧ Fr h₀ L h' m' ∧ News h₀ L h' ((it, o') :: news') ∧ (∀ p ∈ news', p.1 ≠ it) ∧ Itr i o' ∧ J i m' news' ∧ i ≤ n ∧ k = n + 1 - i) ?_ (n + 1)
    ⟨s.heap, s.toks, m, news, o, 0, rfl, F, N, hap, ho, hJ, Nat.zero_le _, rfl⟩
  rintro k s' ⟨h', tk, m', news', o', i, rfl, F', N', hsep, ho', hJ', hi, rfl⟩
  have hit := (N' _ (.head _)).1
  have hitL := (N' _ (.head _)).2.1
  have hit0 := (N' _ (.head _)).2.2
  by_cases hlt : i < n
  · refine W.next i _ o' _ _ hlt (hK _ _ _ _ hJ' F' (newsTl N')) hit ho' fun h₁ v tk₁ o₁ hP ho₁ hit₁ hs₁ => ?_
    have F₁ : Fr h₀ L h₁ m' := F'.change hs₁ hitL hit0
    have N₁ : News h₀ L h₁ ((it, o₁) :: news') := News.setHead N' hsep hs₁ hit₁
    refine W.go (i + 1) _ o₁ v _ _ hit₁ ho₁ ?_
    refine wpAny_mono (turn i v m' news' h₁ tk₁ o₁ hlt hP hJ' hsep F₁ N₁) (fun _ s₂ h₂ => wpC_mono h₂ (fun f s₃ h₃ => ?_) fun _ _ e => e.elim) fun _ _ e => e.elim
    have fin : (∃ h' tk m' news', s₃ = { s with heap := h', toks := tk } ∧ Fr h₀ L h' m' ∧ News h₀ L h' ((it, o₁) :: news') ∧ (∀ p ∈ news', p.1 ≠ it) ∧ J (i + 1) m' news') → ∃ mm, mm < n + 1 - i ∧ ∃ h' tk m' news' o' i, s₃ = { s with heap := h', toks := tk } ∧ Fr h₀ L h' m' ∧ News h₀ L h' ((it, o') :: news') ∧ (∀ p ∈ news', p.1 ≠ it) ∧ Itr i o' ∧ J i m' news' ∧ i ≤ n ∧ mm = n + 1 - i := by
      rintro ⟨h₄, tk₄, m₄, news₄, e, F₄, N₄, a₄, J₄⟩
      exact ⟨n + 1 - (i + 1), by omega, h₄, tk₄, m₄, news₄, o₁, i + 1, e, F₄, N₄, a₄, ho₁, J₄, hlt, rfl⟩
    cases f with
    | next => exact fin h₃
    | cont => exact fin h₃
    | brk => exact hRQ _ _ h₃
    | ret v => exact hRQ _ _ h₃
  · have hin : i = n := by omega
    subst hin
    refine W.stop _ o' _ _ (hK _ _ _ _ hJ' F' (newsTl N')) hit ho' fun h₁ he₁ => (hRQ _ _ ?_)
    have N₁ : News h₀ L h₁ news' := fun p hp => ⟨he₁ p.1 p.2 (hsep p hp) (N' p (.tail _ hp)).1, (N' p (.tail _ hp)).2⟩
    have F₁ : Fr h₀ L h₁ m' := ⟨F'.ns.extBut he₁ (Ne.symm hitL), fun b o e => he₁ b o (fun hb => by rw [hb] at e; rw [hit0] at e; cases e) (F'.keep b o e), F'.above⟩
    exact done m' news' h₁ tk hJ' F₁ N₁
/-- the range stands, and the loop's word -/
noncomputable def RangeMade (h₀ : Heap) (L : Addr) (s : Shared) (n : Nat) (J : JT) (v : Value) (s₁ : Shared) : Prop :=
  ∃ r t u c h₁ tk₁ m₁ news₁, v = .ref r ∧ s₁ = { s with heap := h₁, toks := tk₁ } ∧ IsRange h₁ r 0 n 1 t u c ∧ Fr h₀ L h₁ m₁ ∧ News h₀ L h₁ news₁ ∧ J m₁ news₁
noncomputable def rangeItO (n : Nat) (i : Nat) (o : Obj) : Prop := o = { cls := .type "range_iterator", dict := none, data := .fields #[rawInt ((i : Nat) : Int), rawInt ((n : Int) - (i : Nat)), rawInt 1], slots := #[] }
theorem rangeItO0 (n : Nat) : rangeItO n 0 { cls := .type "range_iterator", data := .fields #[rawInt 0, rawInt n, rawInt 1] } := by
  unfold rangeItO
  have e : (n : Int) - ((0 : Nat) : Int) = n := by omega
  rw [e]; rfl
theorem drawsRange {it : Addr} {n : Nat} {x : PySem.Str} {px : Pos} (hh : A.handled = none) : Draws prog w A (.Name x px) it n (fun _ => True) (rangeItO n) (fun i v => ∃ t, v = .int i t) where
  next i s o Q E hi _ hg ho hQ := by
    subst ho
    refine wpAny_pyNext_range_item hg (by omega) fun h' hit hs => hQ h' _ _ _ ⟨_, rfl⟩ ?_ hit hs
    unfold rangeItO
    simp only [Int.natCast_add, Int.natCast_one, Int.sub_sub]
  stop s o Q E _ hg ho hQ := by
    subst ho
    exact wpAny_pyNext_range_end hh hg (by omega) hQ
  go i s o v Q E _ _ hQ := wpAny_of_eq (rfl : letOwnedTupleGo (.Name x px) (.ref it) v = pure ()) hQ
theorem smallRange (n : Nat) (hn : n < 2 ^ 60) : Builtin.Range.small 0 n 1 = true := by
  have e : Builtin.Range.rangeSize 0 (n : Int) 1 = n := by
    unfold Builtin.Range.rangeSize
    simp
    omega
  unfold Builtin.Range.small
  rw [e]
  unfold Builtin.Range.rangeFitsLong
  simp
  omega
theorem sizeRange (n : Nat) : Builtin.Range.rangeSize 0 (n : Int) 1 = n := by
    unfold Builtin.Range.rangeSize
    simp
    omega
noncomputable def listItO (l : Addr) (i : Nat) (o : Obj) : Prop := o.cls = .type "list_iterator" ∧ o.data = .fields #[.ref l, .int i 0]
theorem drawsList {it l : Addr} {items : Array Value} {x : PySem.Str} {px : Pos} (hh : A.handled = none) : Draws prog w A (.Name x px) it items.size (fun h => h.IsList l items) (listItO l) (fun i v => items[i]? = some v) where
  next i s o Q E hi hk hg ho hQ := by
    refine wpAny_pyNext_list_item ⟨o, hg, ho⟩ hk (Array.getElem?_eq_getElem hi) fun h' ⟨o', hit, ho'⟩ hs => hQ h' _ _ o' (Array.getElem?_eq_getElem hi) ho' hit hs
  stop s o Q E hk hg ho hQ := wpAny_pyNext_list_end hh ⟨o, hg, ho⟩ hk (by simp) hQ
  go i s o v Q E _ _ hQ := wpAny_of_eq (rfl : letOwnedTupleGo (.Name x px) (.ref it) v = pure ()) hQ
theorem drawsListT {it l : Addr} {items : Array Value} {elts : List Expr} {x1} {px : Pos} (hh : A.handled = none) (hr : ∀ (i : Nat) (v : Value), items[i]? = some v → ∃ a, v = Value.ref a) : Draws prog w A (.Tuple elts x1 px) it items.size (fun h => h.IsList l items) (listItO l) (fun i v => items[i]? = some v) where
  next i s o Q E hi hk hg ho hQ := by
    refine wpAny_pyNext_list_item ⟨o, hg, ho⟩ hk (Array.getElem?_eq_getElem hi) fun h' ⟨o', hit, ho'⟩ hs => hQ h' _ _ o' (Array.getElem?_eq_getElem hi) ho' hit hs
  stop s o Q E hk hg ho hQ := wpAny_pyNext_list_end hh ⟨o, hg, ho⟩ hk (by simp) hQ
  go i s o v Q E hg ho hQ := by
    cases v with
    | ref a => exact wpAny_letOwnedTupleGo_listiter ⟨o, hg, ho⟩ hQ
    | _ => exact wpAny_of_eq (rfl : _ = pure ()) hQ
theorem forRangeA {x : PySem.Str} {px pos : Pos} {iter : Expr} {Q : Flow → Shared → Prop} {E : Value → Shared → Prop} (n : Nat) (J : Nat → JT) (hh : A.handled = none) (hn : n < 2 ^ 60)
    (he : wpAny (model prog w) A (eval iter env) (RangeMade h₀ L s n (J 0)) (fun _ _ => False) s)
    (turn : ∀ i t m₁ news₁ h tk it o', i < n → J i m₁ news₁ → (∀ p ∈ news₁, p.1 ≠ it) → Fr h₀ L h m₁ → News h₀ L h ((it, o') :: news₁) →
      wpAny (model prog w) A (assign (.Name x px) env (.int i t)) (fun _ s₁ => wpAny (model prog w) A (execs body env) (TurnEnd h₀ L (J (i + 1)) (it, o') s Q) (fun _ _ => False) s₁) (fun _ _ => False) { s with heap := h, toks := tk })
    (done : ∀ m₁ news₁ h tk, J n m₁ news₁ → Fr h₀ L h m₁ → News h₀ L h news₁ → Q .next { s with heap := h, toks := tk })
    (hs : ∀ x, foldedSetIterable iter env x = pure x := by intro _; rfl) :
    wpAny (model prog w) A (exec (.For (.Name x px) iter body [] pos) env) Q E s := by
  refine wpAny_For (wpAny_mono he (fun v s₁ h₁ => ?_) fun _ _ e => e.elim) hs
  obtain ⟨r, t, u, c, h₁, tk₁, m₁, news₁, rfl, rfl, hr, F₁, N₁, hJ⟩ := h₁
  refine wpAny_pyIter_range hr (smallRange n hn) ?_
  have hap : ∀ p ∈ news₁, p.1 ≠ h₁.objs.size := fun p hp => Nat.ne_of_lt (Heap.lt_size (N₁ p hp).1)
  rw [sizeRange]
  refine forLoopA (Q := Q) (drawsRange hh) J (fun _ _ _ _ _ _ _ => trivial) (fun _ _ q => q) (F₁.push _) (N₁.push F₁ _) hap (rangeItO0 n) hJ ?_ ?_
  · rintro i v m₂ news₂ h tk o' hi ⟨t', rfl⟩ hJ₂ hap₂ F₂ N₂
    exact turn i t' m₂ news₂ h tk _ o' hi hJ₂ hap₂ F₂ N₂
  · intro m₂ news₂ h tk hJ₂ F₂ N₂
    exact done m₂ news₂ h tk hJ₂ F₂ N₂
theorem forRangeC {x : PySem.Str} {px pos : Pos} {iter : Expr} {Q : Flow → Shared → Prop} {E : Value → Shared → Prop} (n : Nat) (J : Nat → JT) (hh : A.handled = none) (hn : n < 2 ^ 60)
    (he : wpAny (model prog w) A (eval iter env) (RangeMade h₀ L s n (J 0)) (fun _ _ => False) s)
    (turn : ∀ i t m₁ news₁ h tk it o', i < n → J i m₁ news₁ → (∀ p ∈ news₁, p.1 ≠ it) → Fr h₀ L h m₁ → News h₀ L h ((it, o') :: news₁) →
      wpAny (model prog w) A (assign (.Name x px) env (.int i t)) (fun _ s₁ => wpC (model prog w) A (execs body env) (TurnEnd h₀ L (J (i + 1)) (it, o') s Q) (fun _ _ => False) s₁) (fun _ _ => False) { s with heap := h, toks := tk })
    (done : ∀ m₁ news₁ h tk, J n m₁ news₁ → Fr h₀ L h m₁ → News h₀ L h news₁ → Q .next { s with heap := h, toks := tk })
    (hs : ∀ x, foldedSetIterable iter env x = pure x := by intro _; rfl) :
    wpC (model prog w) A (exec (.For (.Name x px) iter body [] pos) env) Q E s := by
  refine forC (wpAny_mono he (fun v s₁ h₁ => ?_) fun _ _ e => e.elim) hs
  obtain ⟨r, t, u, c, h₁, tk₁, m₁, news₁, rfl, rfl, hr, F₁, N₁, hJ⟩ := h₁
  refine wpAny_pyIter_range hr (smallRange n hn) ?_
  have hap : ∀ p ∈ news₁, p.1 ≠ h₁.objs.size := fun p hp => Nat.ne_of_lt (Heap.lt_size (N₁ p hp).1)
  rw [sizeRange]
  refine forLoopC (Q := Q) (drawsRange hh) J (fun _ _ _ _ _ _ _ => trivial) (fun _ _ q => q) (F₁.push _) (N₁.push F₁ _) hap (rangeItO0 n) hJ ?_ ?_
  · rintro i v m₂ news₂ h tk o' hi ⟨t', rfl⟩ hJ₂ hap₂ F₂ N₂
    exact turn i t' m₂ news₂ h tk _ o' hi hJ₂ hap₂ F₂ N₂
  · intro m₂ news₂ h tk hJ₂ F₂ N₂
    exact done m₂ news₂ h tk hJ₂ F₂ N₂
end
end Mine
end
section
open PySem PySem.W PyProof.Rows
set_option Elab.async false
namespace Mine
noncomputable def Tells (rest : List (Addr × Obj)) : List Value → List (Int × Int) → Prop
  | [], [] => True
  | v :: vs, x :: xs => (∃ a t u, v = Value.ref a ∧ (a, pairO (.int x.1 t) (.int x.2 u)) ∈ rest) ∧ Tells rest vs xs
  | _, _ => False
theorem tells_mono {rest rest' : List (Addr × Obj)} (h : ∀ p ∈ rest, p ∈ rest') : ∀ {vs : List Value} {xs : List (Int × Int)}, Tells rest vs xs → Tells rest' vs xs
  | [], [], _ => trivial
  | [], _ :: _, h' => h'.elim
  | _ :: _, [], h' => h'.elim
  | _ :: _, _ :: _, ⟨⟨a, t, u, e, hm⟩, h'⟩ => ⟨⟨a, t, u, e, h _ hm⟩, tells_mono h h'⟩
theorem tells_snoc {rest : List (Addr × Obj)} {a : Addr} {x y : Int} {t u : Tok} (hm : (a, pairO (.int x t) (.int y u)) ∈ rest) : ∀ {vs : List Value} {xs : List (Int × Int)}, Tells rest vs xs → Tells rest (vs ++ [.ref a]) (xs ++ [(x, y)])
  | [], [], _ => ⟨⟨a, t, u, rfl, hm⟩, trivial⟩
  | [], _ :: _, h' => h'.elim
  | _ :: _, [], h' => h'.elim
  | _ :: _, _ :: _, ⟨h1, h'⟩ => ⟨h1, tells_snoc hm h'⟩
theorem tells_len {rest : List (Addr × Obj)} : ∀ {vs : List Value} {xs : List (Int × Int)}, Tells rest vs xs → vs.length = xs.length
  | [], [], _ => rfl
  | [], _ :: _, h' => h'.elim
  | _ :: _, [], h' => h'.elim
  | _ :: _, _ :: _, ⟨_, h'⟩ => by simp [tells_len h']
noncomputable def CellO (o : Obj) : Prop := ∃ v, o.data = .cell v
theorem allLt_mem {d : Addr} : ∀ {l : List (Addr × Obj)}, AllLt d l → ∀ p ∈ l, p.1 < d
  | [], _, _, h => by cases h
  | q :: l, h, p, hp => by
    rcases List.mem_cons.mp hp with rfl | hp
    · exact h.1
    · exact allLt_mem h.2 p hp
theorem atN_use {w : World} {dd uu : Nat} {P : Around → Heap → Addr → (PySem.Str → Option Value) → List (Addr × Obj) → Shared → Prop} (C : AtN w dd uu P)
  {dp un : Nat} {gd : Option (List Code)} {cn : PySem.Str} {cns : List (PySem.Str × NameKind)} {cg cc : Bool} {cmo : List (PySem.Str × Const)} {a : Addr} {ccd : Value} {cl : List (PySem.Str × Addr)} {outer : List Env} {A₀ : Around} {base h₀ : Heap} {L : Addr} {m mg mb : PySem.Str → Option Value} {mean : ExcName → Option Value} {news : List (Addr × Obj)} {s : Shared}
  (B : Below A₀ base outer h₀) (F : Fr h₀ L s.heap m) (X : (KK w).In h₀) (N : News h₀ L s.heap news) (T : TopM mean mg mb h₀) (hd : dp + dd < recursionLimit) (hu : un + uu < cLine) :
  P (ktrTop dp un gd cn { kind := .function, names := cns, isGenerator := cg, isCoroutine := cc, more := cmo } L a ccd cl outer) h₀ L m news s := C _ _ _ _ _ _ _ _ _ _ _ _ _ _ _ _ _ _ _ _ _ _ B F X N T hd hu
theorem mid {α : Type} {M : Model} {A : Around} {E : Value → Shared → Prop} {s : Shared} {t : Sem α} {Q : α → Shared → Prop} (P : Shared → Prop) (h1 : wpAny M A t (fun _ => Goes P .next) E s) (h2 : ∀ a s', P s' → Q a s') : wpAny M A t Q E s :=
  wpAny_mono h1 (fun a s' h => h2 a s' h.2) fun _ _ e => e
end Mine
end
section
open PySem PySem.W PyProof.Rows
set_option Elab.async false
set_option maxRecDepth 100000
set_option maxHeartbeats 8000000
namespace Mine

theorem eof_law (w : World) (x : Int) (t1 : Tok) :
  AtN w 3 20 fun A h₀ L m news s => ∀ (Q E : Value → Shared → Prop),
    (∀ h' tk', Fr h₀ L h' m → News h₀ L h' news → Q (.bool (x == 0)) { s with heap := h', toks := tk' }) →
    wpAny (model PG w) A (call (.ref 112) [.int x t1]) Q E s := by
  unfold AtN; dsimp only [PG, LS, KK, TopM]
  k_fill
  intro dp un gd cn cns cg cc cmo a ccd cl outer A₀ base h₀ L m mg mb mean news s B F X N T hd hu Q E hret
  refine wpAny_call ?_
  k_dflt (refine' code_def ?k1 ?k2 ?k3 ?k4 ?k5 ?kA ?kF ?kK ?k6 ?k7 ?k8 ?k9 ?kB ?_ ?c2 ?c3 ?c4 ?c5; (case kA => exact rfl); (case kF => exact rfl); (case kK => exact rfl); (case k1 => k_asm); (case k2 => k_asm); (case k3 => k_asm); (case k4 => k_asm); (case k5 => k_asm); (case k6 => k_is); (case k7 => k_is); (case k8 => ktr_room); (case k9 => first | exact BindsTo.of_eq rfl | exact binds_K (by k_in) rfl (by k_is) rfl rfl rfl); (case c5 => decide); (case kB => exact locs rfl); (case c2 => exact rfl); (case c3 => exact rfl); (case c4 => exact rfl); k_whole)
  intro g' L' h' FG' F' N' B' X' T'
  (try dsimp only)
  k_fold

  k_steps
  all_goals exact hret _ _ (by assumption) (by assumption)

theorem nont_law (w : World) (x : Int) (t1 : Tok) :
  AtN w 3 20 fun A h₀ L m news s => ∀ (Q E : Value → Shared → Prop),
    (∀ h' tk', Fr h₀ L h' m → News h₀ L h' news → Q (.bool (decide (256 ≤ x))) { s with heap := h', toks := tk' }) →
    wpAny (model PG w) A (call (.ref 105) [.int x t1]) Q E s := by
  unfold AtN; dsimp only [PG, LS, KK, TopM]
  k_fill
  intro dp un gd cn cns cg cc cmo a ccd cl outer A₀ base h₀ L m mg mb mean news s B F X N T hd hu Q E hret
  refine wpAny_call ?_
  k_dflt (refine' code_def ?k1 ?k2 ?k3 ?k4 ?k5 ?kA ?kF ?kK ?k6 ?k7 ?k8 ?k9 ?kB ?_ ?c2 ?c3 ?c4 ?c5; (case kA => exact rfl); (case kF => exact rfl); (case kK => exact rfl); (case k1 => k_asm); (case k2 => k_asm); (case k3 => k_asm); (case k4 => k_asm); (case k5 => k_asm); (case k6 => k_is); (case k7 => k_is); (case k8 => ktr_room); (case k9 => first | exact BindsTo.of_eq rfl | exact binds_K (by k_in) rfl (by k_is) rfl rfl rfl); (case c5 => decide); (case kB => exact locs rfl); (case c2 => exact rfl); (case c3 => exact rfl); (case c4 => exact rfl); k_whole)
  intro g' L' h' FG' F' N' B' X' T'
  (try dsimp only)
  k_fold

  k_steps
  all_goals exact hret _ _ (by assumption) (by assumption)

theorem term_law (w : World) (x : Int) (t1 : Tok) :
  AtN w 3 20 fun A h₀ L m news s => ∀ (Q E : Value → Shared → Prop),
    (∀ h' tk', Fr h₀ L h' m → News h₀ L h' news → Q (.bool (decide (x < 256))) { s with heap := h', toks := tk' }) →
    wpAny (model PG w) A (call (.ref 98) [.int x t1]) Q E s := by
  unfold AtN; dsimp only [PG, LS, KK, TopM]
  k_fill
  intro dp un gd cn cns cg cc cmo a ccd cl outer A₀ base h₀ L m mg mb mean news s B F X N T hd hu Q E hret
  refine wpAny_call ?_
  k_dflt (refine' code_def ?k1 ?k2 ?k3 ?k4 ?k5 ?kA ?kF ?kK ?k6 ?k7 ?k8 ?k9 ?kB ?_ ?c2 ?c3 ?c4 ?c5; (case kA => exact rfl); (case kF => exact rfl); (case kK => exact rfl); (case k1 => k_asm); (case k2 => k_asm); (case k3 => k_asm); (case k4 => k_asm); (case k5 => k_asm); (case k6 => k_is); (case k7 => k_is); (case k8 => ktr_room); (case k9 => first | exact BindsTo.of_eq rfl | exact binds_K (by k_in) rfl (by k_is) rfl rfl rfl); (case c5 => decide); (case kB => exact locs rfl); (case c2 => exact rfl); (case c3 => exact rfl); (case c4 => exact rfl); k_whole)
  intro g' L' h' FG' F' N' B' X' T'
  (try dsimp only)
  k_fold

  k_steps
  all_goals exact hret _ _ (by assumption) (by assumption)

theorem nont255_law (w : World) (d : Int) (t1 : Tok) :
  AtN w 3 20 fun A h₀ L m news s => ∀ (Q E : Value → Shared → Prop),
    (∀ h' tk', Fr h₀ L h' m → News h₀ L h' news → Q (.bool (decide (0 < d))) { s with heap := h', toks := tk' }) →
    wpAny (model PG w) A (call (.ref 105) [.int (255 + d) t1]) Q E s := by
  have e : decide (256 ≤ 255 + d) = decide (0 < d) := by rw [decide_eq_decide]; omega
  rw [← e]
  exact nont_law w _ t1

theorem nont256_law (w : World) (d : Int) (t1 : Tok) (hd0 : d ≠ 0) :
  AtN w 3 20 fun A h₀ L m news s => ∀ (Q E : Value → Shared → Prop),
    (∀ h' tk', Fr h₀ L h' m → News h₀ L h' news → Q (.bool (decide (0 < d))) { s with heap := h', toks := tk' }) →
    wpAny (model PG w) A (call (.ref 105) [.int (256 + d) t1]) Q E s := by
  have e : decide (256 ≤ 256 + d) = decide (0 < d) := by rw [decide_eq_decide]; omega
  rw [← e]
  exact nont_law w _ t1

theorem term255_law (w : World) (d : Int) (t1 : Tok) (hd0 : d ≠ 0) :
  AtN w 3 20 fun A h₀ L m news s => ∀ (Q E : Value → Shared → Prop),
    (∀ h' tk', Fr h₀ L h' m → News h₀ L h' news → Q (.bool (decide (d < 0))) { s with heap := h', toks := tk' }) →
    wpAny (model PG w) A (call (.ref 98) [.int (255 + d) t1]) Q E s := by
  have e : decide (255 + d < 256) = decide (d < 0) := by rw [decide_eq_decide]; omega
  rw [← e]
  exact term_law w _ t1

theorem term256_law (w : World) (d : Int) (t1 : Tok) :
  AtN w 3 20 fun A h₀ L m news s => ∀ (Q E : Value → Shared → Prop),
    (∀ h' tk', Fr h₀ L h' m → News h₀ L h' news → Q (.bool (decide (d < 0))) { s with heap := h', toks := tk' }) →
    wpAny (model PG w) A (call (.ref 98) [.int (256 + d) t1]) Q E s := by
  have e : decide (256 + d < 256) = decide (d < 0) := by rw [decide_eq_decide]; omega
  rw [← e]
  exact term_law w _ t1

theorem eofF_law (w : World) (x : Int) (t1 : Tok) (hx : x ≠ 0) :
  AtN w 3 20 fun A h₀ L m news s => ∀ (Q E : Value → Shared → Prop),
    (∀ h' tk', Fr h₀ L h' m → News h₀ L h' news → Q (.bool false) { s with heap := h', toks := tk' }) →
    wpAny (model PG w) A (call (.ref 112) [.int x t1]) Q E s := by
  have e : (x == 0) = false := by simpa using hx
  rw [← e]
  exact eof_law w _ t1
end Mine
end
section
open PySem PySem.W PyProof.Rows
set_option Elab.async false
set_option maxRecDepth 100000
namespace Mine
section
variable {prog : Program} {w : World} {A : Around} {E : Value → Shared → Prop} {s : Shared}
theorem hfi_list : fillsInplaceSlot (.type "list") "add" (Operator.Add == .Add) = pure false := by
  unfold fillsInplaceSlot
  show (typeLookup (.type "list") (dunderI "add") >>= fun fi => pure (fi.isSome && !isSeqSlot fi)) = pure false
  rw [PySem.F.slot_list_iadd.lookup]
  show (pure (Option.isSome (some (Value.builtin "list.__iadd__")) && !isSeqSlot (some (Value.builtin "list.__iadd__"))) : Sem Bool) = pure false
  congr 1
theorem hsi_list : seqSlot? (.type "list") (dunderI "add") = pure (some (.builtin "list.__iadd__"))   := PySem.seqSlot_of PySem.F.slot_list_iadd.lookup (by decide +kernel)
theorem iadd_list_at {a b : Addr} {xs ys : Array Value} {n k : Nat} {Q : Value → Shared → Prop}
    (ha : s.heap.get? a = some (listOf xs n)) (hb : s.heap.get? b = some (listOf ys k)) (hsz : xs.size + ys.size ≤ sizeLine)
    (h : ∀ h', Heap.SameBut a s.heap h' → h'.get? a = some ((listOf xs n).mapSeq (· ++ ys)) → Q (.ref a) { s with heap := h' }) :
    wpAny (model prog w) A (inplaceOp .Add (.ref a) (.ref b)) Q E s := by
  have ta : s.TypeIs (.ref a) "list" := ⟨_, ha, rfl⟩
  have tb : s.TypeIs (.ref b) "list" := ⟨_, hb, rfl⟩
  unfold inplaceOp
  refine wpAny_holding ?_
  refine wpAny_bind (wpAny_typeOf ta (wpAny_bind (wpAny_of_eq hfi_list ?_)))
  show wpAny _ A (if false = true then _ else _) Q E s
  rw [if_neg Bool.false_ne_true]
  refine wpAny_bind (wpAny_binaryOp1_none (nm := "add") ta tb noFill_list_add ?_)
  refine wpAny_bind (wpAny_of_eq hsi_list ?_)
  refine wpAny_bind (wpAny_rule ?_)
  refine wpAny_call_entry PySem.F.slot_list_iadd ta PySem.F.entry_list_iadd ?_ (PySem.F.args_list_iadd_2 _ _)
  show wpAny _ A.in1 (Builtin.List.listExtendWith (.ref a) (.ref b) (.ref a)) _ _ _
  unfold Builtin.List.listExtendWith
  refine wpAny_bind (wpAny_typeOf tb ?_)
  have e : (Value.type "list" == Value.type "list") = true := by decide
  simp only [e, Bool.or_true, Bool.true_or, if_true]
  refine wpAny_bind (wpAny_listItems hb rfl ?_)
  refine wpAny_bind (wpAny_listItems ha rfl ?_)
  have hl : (!xs.isEmpty && Builtin.List.listTooLong (xs.size + ys.size)) = false := by
    unfold Builtin.List.listTooLong
    simp; omega
  rw [hl]
  simp only [Bool.false_eq_true, if_false]
  refine wpAny_bind (wpAny_updateSeq ha rfl ?_)
  exact wpAny_pure ⟨_, rfl, h _ (Heap.SameBut.update ..) (Heap.get?_update_self _ ha rfl)⟩
theorem iadd_K {h₀ : Heap} {L a b : Addr} {m : PySem.Str → Option Value} {news news' : List (Addr × Obj)} {xs ys : Array Value} {n k : Nat} {Q : Value → Shared → Prop} (F : Fr h₀ L s.heap m) (N : News h₀ L s.heap news)
    (hm : (b, listOf ys k) ∈ news) (hy : ys.size ≠ 0) (hsz : xs.size + ys.size ≤ sizeLine) (U : Upd a (listOf xs n) (listOf (xs ++ ys) (n + 1)) news news')
    (h : ∀ h', Fr h₀ L h' m → News h₀ L h' news' → Q (.ref a) { s with heap := h' }) : wpAny (model prog w) A (inplaceOp .Add (.ref a) (.ref b)) Q E s := by
  have hb := N.get hm
  obtain ⟨pre, post, rfl, rfl, h1, h2⟩ := U.split
  have z := N (a, listOf xs n) (List.mem_append.mpr (.inr (.head _)))
  refine iadd_list_at z.1 hb hsz fun h' hs ho' => ?_
  have e : (listOf xs n).mapSeq (· ++ ys) = listOf (xs ++ ys) (n + 1) := by
    have e1 : ((xs ++ ys).size == xs.size) = false := by
      rw [beq_eq_false_iff_ne]
      rw [Array.size_append]
      omega
    unfold W.listOf Obj.mapSeq
    simp only [e1]
    rfl
  rw [e] at ho'
  exact h h' (F.change hs z.2.1 z.2.2) (news_set N h1 h2 hs ho')
theorem iadd_L {h₀ : Heap} {L a b : Addr} {m : PySem.Str → Option Value} {news news' : List (Addr × Obj)} {xs ys zs : List Value} {n k : Nat} {Q : Value → Shared → Prop} (F : Fr h₀ L s.heap m) (N : News h₀ L s.heap news)
    (hm : (b, listOf ys.toArray k) ∈ news) (hz : xs ++ ys = zs) (hy : ys.length ≠ 0) (hsz : xs.length + ys.length ≤ sizeLine) (U : Upd a (listOf xs.toArray n) (listOf zs.toArray (n + 1)) news news')
    (h : ∀ h', Fr h₀ L h' m → News h₀ L h' news' → Q (.ref a) { s with heap := h' }) : wpAny (model prog w) A (inplaceOp .Add (.ref a) (.ref b)) Q E s := by
  refine iadd_K F N hm (by simpa using hy) hsz (by rw [List.append_toArray, hz]; exact U) h
theorem isnotSame {c : Bool} {Q : Value → Shared → Prop} (h : Q (.bool false) s) : wpAny (model prog w) A (compareOp .IsNot (.bool c) (.bool c)) Q E s := isnot_bool (by
  have e : (c != c) = false := by cases c <;> rfl
  rw [e]; exact h)
end
end Mine
end
section
open PySem PySem.W PyProof.Rows PySem.Spec
set_option Elab.async false
set_option maxRecDepth 100000
namespace Mine
noncomputable def QuietEnd (h₀ : Heap) (L : Addr) (m : PySem.Str → Option Value) (news : List (Addr × Obj)) (s : Shared) (ok : Bool) (s' : Shared) : Prop :=
  ok = false ∧ ∃ h' tk', s' = { s with heap := h', toks := tk' } ∧ Fr h₀ L h' m ∧ News h₀ L h' news
theorem compQuiet {prog : Program} {w : World} {A : Around} {h₀ : Heap} {L : Addr} {m : PySem.Str → Option Value} {env : Env} {ct elt : Expr} {x : PySem.Str} {scope : Scope} {cl : List (PySem.Str × Addr)} {s : Shared} {S : List (Addr × Obj) → Prop} {P : Nat → Value → Prop}
    {Fin : List Value → List (Addr × Obj) → Prop} {news : List (Addr × Obj)} (n : Nat) (hS : S news) (hfin : Fin [] news)
    (turn : ∀ i v I oI C oC D m₂ h tk (E' : Value → Shared → Prop), i < n → P i v → LCg.NsObj oC m₂ → m₂ x = some v → Fr h₀ L h m → News h₀ L h ((I, oI) :: (C, oC) :: (D, LCg.lst []) :: news) →
      wpAny (model prog w) A (PySem.isTrue ct (compEnvC scope cl C env) (eval ct (compEnvC scope cl C env))) (QuietEnd h₀ L m ((I, oI) :: (C, oC) :: (D, LCg.lst []) :: news) { s with heap := h, toks := tk }) E' { s with heap := h, toks := tk }) :
    ∀ k i, i + k = n → LCt.CompRestT prog w A h₀ L m env ct elt x scope cl s S P Fin k i [] news := by
  intro k
  induction k with
  | zero => intro i _; exact LCt.CompRestT.zero hfin
  | succ k ih =>
    intro i hi
    refine LCt.CompRestT.succ fun v I oI C oC D m₂ h tk E' hv hC hx F N off ne => ?_
    refine wpAny_mono (turn i v I oI C oC D m₂ h tk E' (by omega) hv hC hx F N) (fun ok s' hq => ?_) fun _ _ e => e
    obtain ⟨rfl, h', tk', rfl, F', N'⟩ := hq
    rw [if_neg Bool.false_ne_true]
    exact ⟨h', tk', news, rfl, F', N', off, hS, ih (i + 1) (by omega)⟩
theorem compQuietR {prog : Program} {w : World} {A : Around} {h₀ : Heap} {L : Addr} {m : PySem.Str → Option Value} {env : Env} {ct elt : Expr} {x : PySem.Str} {scope : Scope} {cl : List (PySem.Str × Addr)} {s : Shared} {S : List (Addr × Obj) → Prop} {a : Int}
    {Fin : List Value → List (Addr × Obj) → Prop} {news : List (Addr × Obj)} (n : Nat) (hS : S news) (hfin : Fin [] news)
    (turn : ∀ i t I oI C oC D m₂ h tk (E' : Value → Shared → Prop), i < n → LCg.NsObj oC m₂ → m₂ x = some (.int (a + (i : Int)) t) → Fr h₀ L h m → News h₀ L h ((I, oI) :: (C, oC) :: (D, LCg.lst []) :: news) →
      wpAny (model prog w) A (PySem.isTrue ct (compEnvC scope cl C env) (eval ct (compEnvC scope cl C env))) (QuietEnd h₀ L m ((I, oI) :: (C, oC) :: (D, LCg.lst []) :: news) { s with heap := h, toks := tk }) E' { s with heap := h, toks := tk }) :
    ∀ k i, i + k = n → LCt.CompRestT prog w A h₀ L m env ct elt x scope cl s S (fun i v => ∃ t, v = .int (a + (i : Int)) t) Fin k i [] news :=
  compQuiet n hS hfin fun i v I oI C oC D m₂ h tk E' hi hv hC hx F N => by
    obtain ⟨t, rfl⟩ := hv
    exact turn i t I oI C oC D m₂ h tk E' hi hC hx F N
noncomputable def dueB (R D : Int) (i : Nat) : Bool := [R == 0, false, false, decide (0 < D), decide (0 < D), decide (D < 0), decide (D < 0)].getD i false
theorem due_at (R D : Int) (i : Nat) (hi : i < 7) : [Value.bool (R == 0), Value.bool false, Value.bool false, Value.bool (decide (0 < D)), Value.bool (decide (0 < D)), Value.bool (decide (D < 0)), Value.bool (decide (D < 0))][(0 + (i : Int)).toNat]? = some (Value.bool (dueB R D i)) := by
  have e : (0 + (i : Int)).toNat = i := by omega
  rw [e]
  match i, hi with
  | 0, _ => rfl
  | 1, _ => rfl
  | 2, _ => rfl
  | 3, _ => rfl
  | 4, _ => rfl
  | 5, _ => rfl
  | 6, _ => rfl
  | n + 7, h => omega
end Mine
end
section
open PySem PySem.W PyProof.Rows
set_option Elab.async false
namespace Mine
/-- tables p q r s -/
structure Mat where
  p : Int
  q : Int
  r : Int
  s : Int
noncomputable def Mat.one : Mat := ⟨1, 0, 0, 1⟩
noncomputable def Mat.mul (a b : Mat) : Mat := ⟨a.p * b.p + a.q * b.r, a.p * b.q + a.q * b.s, a.r * b.p + a.s * b.r, a.r * b.q + a.s * b.s⟩
/-- a letter to its power: x is 0, y is 1 -/
noncomputable def letM (l n : Int) : Mat := if l = 0 then ⟨1, 2 * n, 0, 1⟩ else ⟨1, 0, 2 * n, 1⟩
noncomputable def matL : List (Int × Int) → Mat
  | [] => .one
  | x :: w => (letM x.1 x.2).mul (matL w)
theorem Mat.ext' {a b : Mat} (h1 : a.p = b.p) (h2 : a.q = b.q) (h3 : a.r = b.r) (h4 : a.s = b.s) : a = b := by cases a; cases b; simp_all
theorem mul_assoc' (a b c : Mat) : (a.mul b).mul c = a.mul (b.mul c) := by
  apply Mat.ext' <;> (simp only [Mat.mul]; grind)
theorem one_mul' (a : Mat) : Mat.one.mul a = a := by apply Mat.ext' <;> simp [Mat.mul, Mat.one]
theorem mul_one' (a : Mat) : a.mul Mat.one = a := by apply Mat.ext' <;> simp [Mat.mul, Mat.one]
theorem matL_append (u v : List (Int × Int)) : matL (u ++ v) = (matL u).mul (matL v) := by
  induction u with
  | nil => exact (one_mul' _).symm
  | cons x u ih => rw [List.cons_append, matL, ih, matL, mul_assoc']
theorem letM_add (l m n : Int) : (letM l m).mul (letM l n) = letM l (m + n) := by
  unfold letM
  split <;> (apply Mat.ext' <;> (simp only [Mat.mul]; grind))
theorem letM_zero (l : Int) : letM l 0 = .one := by
  unfold letM Mat.one; split <;> rfl
/-- one step of the pile, its top first -/
noncomputable def pileS (st : List (Int × Int)) (x : Int × Int) : List (Int × Int) :=
  match st with
  | [] => if x.2 = 0 then [] else [x]
  | y :: t => if y.1 = x.1 then (if x.2 + y.2 = 0 then t else (x.1, x.2 + y.2) :: t) else (if x.2 = 0 then y :: t else x :: y :: t)
noncomputable def reduceW (w : List (Int × Int)) : List (Int × Int) := (w.foldl pileS []).reverse
theorem pileS_mat (st : List (Int × Int)) (x : Int × Int) : matL (pileS st x).reverse = (matL st.reverse).mul (letM x.1 x.2) := by
  obtain ⟨l, n⟩ := x
  have single : ∀ y : Int × Int, matL [y] = letM y.1 y.2 := fun y => mul_one' _
  cases st with
  | nil =>
    unfold pileS
    by_cases h : n = 0
    · simp only [h, if_true, letM_zero, mul_one']
    · simp only [if_neg h]
      rw [List.reverse_singleton, single, List.reverse_nil]
      exact (one_mul' _).symm
  | cons y t =>
    obtain ⟨l', n'⟩ := y
    unfold pileS
    simp only
    rw [List.reverse_cons, matL_append, single, mul_assoc']
    by_cases hl : l' = l
    · rw [if_pos hl]
      subst hl
      simp only
      rw [letM_add]
      by_cases h : n + n' = 0
      · rw [if_pos h, Int.add_comm n' n, h, letM_zero, mul_one']
      · rw [if_neg h, List.reverse_cons, matL_append, single, Int.add_comm n' n]
    · rw [if_neg hl]
      by_cases h : n = 0
      · rw [if_pos h, h, letM_zero, mul_one', List.reverse_cons, matL_append, single]
      · rw [if_neg h, List.reverse_cons, List.reverse_cons, matL_append, matL_append, single, single, mul_assoc']
theorem reduce_mat (w : List (Int × Int)) : matL (reduceW w) = matL w := by
  have key : ∀ (w st : List (Int × Int)), matL (w.foldl pileS st).reverse = (matL st.reverse).mul (matL w) := by
    intro w
    induction w with
    | nil => intro st; exact (mul_one' _).symm
    | cons x w ih => intro st; rw [List.foldl_cons, ih, pileS_mat, matL, mul_assoc']
  rw [reduceW, key]
  exact one_mul' _
/-- neighbours are of two letters, no nought -/
noncomputable def Red : List (Int × Int) → Prop
  | [] => True
  | [x] => (x.1 = 0 ∨ x.1 = 1) ∧ x.2 ≠ 0
  | x :: y :: t => (x.1 = 0 ∨ x.1 = 1) ∧ x.2 ≠ 0 ∧ x.1 ≠ y.1 ∧ Red (y :: t)
theorem Red.tail {x : Int × Int} {t : List (Int × Int)} (h : Red (x :: t)) : Red t := by
  cases t with
  | nil => trivial
  | cons y t => exact h.2.2.2
theorem Red.head {x : Int × Int} {t : List (Int × Int)} (h : Red (x :: t)) : (x.1 = 0 ∨ x.1 = 1) ∧ x.2 ≠ 0 := by
  cases t with
  | nil => exact h
  | cons y t => exact ⟨h.1, h.2.1⟩
theorem red_pile {st : List (Int × Int)} {x : Int × Int} (h : Red st) (hx : x.1 = 0 ∨ x.1 = 1) : Red (pileS st x) := by
  unfold pileS
  cases st with
  | nil =>
    simp only
    split
    · trivial
    · rename_i h0; exact ⟨hx, h0⟩
  | cons y t =>
    simp only
    split
    · split
      · exact h.tail
      · rename_i e h0
        cases t with
        | nil => exact ⟨hx, h0⟩
        | cons z t => exact ⟨hx, h0, fun e' => h.2.2.1 (e.trans e'), h.2.2.2⟩
    · split
      · exact h
      · rename_i e h0; exact ⟨hx, h0, fun e' => e e'.symm, h⟩
theorem red_snoc : ∀ {u : List (Int × Int)} {x : Int × Int}, Red u → (x.1 = 0 ∨ x.1 = 1) → x.2 ≠ 0 → (∀ y, u.getLast? = some y → y.1 ≠ x.1) → Red (u ++ [x])
  | [], _, _, h1, h2, _ => ⟨h1, h2⟩
  | [y], x, h, h1, h2, h3 => ⟨h.1, h.2, h3 y rfl, h1, h2⟩
  | y :: z :: t, x, h, h1, h2, h3 => ⟨h.1, h.2.1, h.2.2.1, red_snoc (u := z :: t) h.2.2.2 h1 h2 (fun w hw => h3 w (by rw [List.getLast?_cons_cons]; exact hw))⟩
theorem red_rev : ∀ {u : List (Int × Int)}, Red u → Red u.reverse
  | [], _ => trivial
  | [x], h => h
  | x :: y :: t, h => by
    rw [List.reverse_cons]
    refine red_snoc (red_rev h.2.2.2) h.1 h.2.1 (fun z hz => ?_)
    rw [List.reverse_cons, List.getLast?_concat] at hz
    cases hz
    exact fun e => h.2.2.1 e.symm
theorem reduce_red {w : List (Int × Int)} (h : ∀ x ∈ w, x.1 = 0 ∨ x.1 = 1) : Red (reduceW w) := by
  have key : ∀ (w st : List (Int × Int)), (∀ x ∈ w, x.1 = 0 ∨ x.1 = 1) → Red st → Red (w.foldl pileS st) := by
    intro w
    induction w with
    | nil => intro st _ h; exact h
    | cons x w ih => intro st hw h; exact ih _ (fun y hy => hw y (.tail _ hy)) (red_pile h (hw x (.head _)))
  exact red_rev (key w [] h trivial)
theorem reduce_len (w : List (Int × Int)) : (reduceW w).length ≤ w.length := by
  have one : ∀ (st : List (Int × Int)) (x : Int × Int), (pileS st x).length ≤ st.length + 1 := by
    intro st x
    unfold pileS
    cases st with
    | nil => simp only; split <;> simp
    | cons y t => simp only; (repeat' split) <;> simp <;> omega
  have key : ∀ (w st : List (Int × Int)), (w.foldl pileS st).length ≤ st.length + w.length := by
    intro w
    induction w with
    | nil => intro st; simp
    | cons x w ih => intro st; have := ih (pileS st x); have := one st x; simp; omega
  have := key w []
  rw [reduceW, List.length_reverse]
  simpa using this
end Mine
end
section
open PySem PySem.W PyProof.Rows
set_option Elab.async false
namespace Mine
theorem parity (u : List (Int × Int)) : (matL u).p % 2 = 1 ∧ (matL u).q % 2 = 0 ∧ (matL u).r % 2 = 0 ∧ (matL u).s % 2 = 1 := by
  induction u with
  | nil => decide
  | cons x u ih =>
    obtain ⟨h1, h2, h3, h4⟩ := ih
    obtain ⟨l, n⟩ := x
    have e : ∀ a b : Int, 2 * n * a + 1 * b = b + 2 * (n * a) := fun a b => by grind
    unfold matL letM
    split <;> simp only [Mat.mul]
    · generalize (matL u).p = p at *; generalize (matL u).q = q at *; generalize (matL u).r = r at *; generalize (matL u).s = s at *
      have e1 : 2 * n * r = 2 * (n * r) := by grind
      have e2 : 2 * n * s = 2 * (n * s) := by grind
      rw [e1, e2]
      generalize n * r = a at *; generalize n * s = b at *
      omega
    · generalize (matL u).p = p at *; generalize (matL u).q = q at *; generalize (matL u).r = r at *; generalize (matL u).s = s at *
      have e1 : 2 * n * p = 2 * (n * p) := by grind
      have e2 : 2 * n * q = 2 * (n * q) := by grind
      rw [e1, e2]
      generalize n * p = a at *; generalize n * q = b at *
      omega
theorem mat_x (n : Int) (t : List (Int × Int)) : matL ((0, n) :: t) = ⟨(matL t).p + 2 * n * (matL t).r, (matL t).q + 2 * n * (matL t).s, (matL t).r, (matL t).s⟩ := by
  apply Mat.ext' <;> simp [matL, letM, Mat.mul]
theorem mat_y (n : Int) (t : List (Int × Int)) : matL ((1, n) :: t) = ⟨(matL t).p, (matL t).q, (matL t).r + 2 * n * (matL t).p, (matL t).s + 2 * n * (matL t).q⟩ := by
  apply Mat.ext' <;> simp [matL, letM, Mat.mul] <;> omega
/-- the first row against the second -/
noncomputable def Dom (u : List (Int × Int)) : Prop := match u with
  | [] => True
  | x :: t => (x.1 = 1 → (matL u).p.natAbs < (matL u).r.natAbs) ∧ (x.1 = 0 → t ≠ [] → (matL u).r.natAbs < (matL u).p.natAbs ∧ (matL u).r ≠ 0)
theorem far {a b n : Int} (hn : n ≠ 0) (h : b.natAbs < a.natAbs) : a.natAbs < (b + 2 * n * a).natAbs := by
  have e : 2 * n * a = 2 * (n * a) := by grind
  rw [e]
  have h1 : (n * a).natAbs = n.natAbs * a.natAbs := Int.natAbs_mul n a
  have h2 : 1 ≤ n.natAbs := by omega
  have h3 : a.natAbs ≤ n.natAbs * a.natAbs := Nat.le_mul_of_pos_left _ h2
  omega
theorem dom_red : ∀ {u : List (Int × Int)}, Red u → Dom u := by
  intro u
  induction u with
  | nil => intro _; trivial
  | cons x t ih =>
    intro h
    obtain ⟨hl, hn⟩ := h.head
    have iht := ih h.tail
    obtain ⟨l, n⟩ := x
    simp only at hl hn
    rcases hl with rfl | rfl
    · refine ⟨fun e => ?_, fun _ ht => ?_⟩
      · cases e
      · obtain ⟨y, t', rfl⟩ : ∃ y t', t = y :: t' := by
          cases t with
          | nil => exact absurd rfl ht
          | cons y t' => exact ⟨y, t', rfl⟩
        have hy : y.1 = 1 := by
          have := h.2.2.2.head.1
          have := h.2.2.1
          simp only at this
          omega
        have d := iht.1 hy
        rw [mat_x]
        simp only
        exact ⟨far hn d, by omega⟩
    · refine ⟨fun _ => ?_, fun e => ?_⟩
      · rw [mat_y]
        simp only
        refine far hn ?_
        cases t with
        | nil => decide
        | cons y t' =>
          have hy : y.1 = 0 := by
            have := h.2.2.2.head.1
            have := h.2.2.1
            simp only at this
            omega
          cases t' with
          | nil =>
            obtain ⟨l', n'⟩ := y
            simp only at hy
            subst hy
            rw [mat_x]
            simp [matL, Mat.one]
          | cons z t'' => exact (iht.2 hy (by simp)).1
      · cases e
theorem nearest_is {x' y n : Int} (h : x'.natAbs < y.natAbs) : nearestN (x' + 2 * n * y) y = n := by
  have key : ∀ (b k : Int), 0 < b → -b < x' → x' < b → Int.fdiv (x' + 2 * k * b + b) (2 * b) = k := by
    intro b k hb h1 h2
    rw [Int.fdiv_eq_ediv_of_nonneg _ (by omega)]
    rw [show x' + 2 * k * b + b = (x' + b) + k * (2 * b) by grind, Int.add_mul_ediv_right _ _ (by omega), Int.ediv_eq_zero_of_lt (by omega) (by omega)]
    omega
  unfold nearestN
  by_cases hy : y > 0
  · rw [if_pos hy, if_neg (by omega)]
    exact key y n hy (by omega) (by omega)
  · rw [if_neg hy, if_pos (by omega)]
    rw [show x' + 2 * n * y = x' + 2 * (-n) * (-y) by grind, key (-y) (-n) (by omega) (by omega) (by omega)]
    omega
/-- what the back's turn finds -/
theorem turn_x {n : Int} {t : List (Int × Int)} (h : Red ((0, n) :: t)) (ht : t ≠ []) : (matL ((0, n) :: t)).r.natAbs < (matL ((0, n) :: t)).p.natAbs ∧ (matL ((0, n) :: t)).r ≠ 0 ∧ nearestN (matL ((0, n) :: t)).p (matL ((0, n) :: t)).r = n := by
  have d := (dom_red h).2 rfl ht
  refine ⟨d.1, d.2, ?_⟩
  obtain ⟨y, t', rfl⟩ : ∃ y t', t = y :: t' := by
    cases t with
    | nil => exact absurd rfl ht
    | cons y t' => exact ⟨y, t', rfl⟩
  have hy : y.1 = 1 := by
    have := h.2.2.2.head.1
    have := h.2.2.1
    simp only at this
    omega
  have d' := (dom_red h.tail).1 hy
  rw [mat_x]
  exact nearest_is d'
theorem turn_y {n : Int} {t : List (Int × Int)} (h : Red ((1, n) :: t)) : (matL ((1, n) :: t)).p.natAbs < (matL ((1, n) :: t)).r.natAbs ∧ nearestN (matL ((1, n) :: t)).r (matL ((1, n) :: t)).p = n := by
  refine ⟨(dom_red h).1 rfl, ?_⟩
  rw [mat_y]
  refine nearest_is ?_
  cases t with
  | nil => decide
  | cons y t' =>
    have hy : y.1 = 0 := by
      have := h.2.2.2.head.1
      have := h.2.2.1
      simp only at this
      omega
    cases t' with
    | nil =>
      obtain ⟨l', n'⟩ := y
      simp only at hy
      subst hy
      rw [mat_x]
      simp [matL, Mat.one]
    | cons z t'' => exact ((dom_red h.tail).2 hy (by simp)).1
theorem last_x (n : Int) : matL [(0, n)] = ⟨1, 2 * n, 0, 1⟩ := by
  rw [mat_x]; simp [matL, Mat.one]
/-- how great the tables may be -/
theorem mat_bound {B : Nat} {K : Nat} (hK : 2 * B + 1 ≤ K) : ∀ {u : List (Int × Int)}, (∀ x ∈ u, x.2.natAbs ≤ B) → (matL u).p.natAbs ≤ K ^ u.length ∧ (matL u).q.natAbs ≤ K ^ u.length ∧ (matL u).r.natAbs ≤ K ^ u.length ∧ (matL u).s.natAbs ≤ K ^ u.length := by
  intro u
  induction u with
  | nil => intro _; simp [matL, Mat.one]
  | cons x t ih =>
    intro h
    obtain ⟨h1, h2, h3, h4⟩ := ih fun y hy => h y (.tail _ hy)
    have hx := h x (.head _)
    obtain ⟨l, n⟩ := x
    simp only at hx
    have go : ∀ a b : Int, a.natAbs ≤ K ^ t.length → b.natAbs ≤ K ^ t.length → (a + 2 * n * b).natAbs ≤ K ^ (t.length + 1) := by
      intro a b ha hb
      have e1 : (2 * n * b).natAbs = 2 * n.natAbs * b.natAbs := by rw [Int.natAbs_mul, Int.natAbs_mul]; rfl
      have e2 : 2 * n.natAbs * b.natAbs ≤ 2 * B * K ^ t.length := Nat.mul_le_mul (by omega) hb
      have e3 : (2 * B + 1) * K ^ t.length ≤ K ^ t.length * K := by rw [Nat.mul_comm]; exact Nat.mul_le_mul (Nat.le_refl _) hK
      have e4 : (2 * B + 1) * K ^ t.length = 2 * B * K ^ t.length + K ^ t.length := by rw [Nat.add_mul, Nat.one_mul]
      rw [Nat.pow_succ]
      omega
    have up : K ^ t.length ≤ K ^ (t.length + 1) := Nat.pow_le_pow_right (by omega) (by omega)
    rw [List.length_cons]
    by_cases hl : l = 0
    · subst hl
      rw [mat_x]
      exact ⟨go _ _ h1 h3, go _ _ h2 h4, Nat.le_trans h3 up, Nat.le_trans h4 up⟩
    · have e : matL ((l, n) :: t) = matL ((1, n) :: t) := by
        unfold matL letM; simp only [if_neg hl]; rfl
      rw [e, mat_y]
      exact ⟨Nat.le_trans h1 up, Nat.le_trans h2 up, go _ _ h3 h1, go _ _ h4 h2⟩
theorem mat_bits {u : List (Int × Int)} (h : ∀ x ∈ u, x.2.natAbs ≤ 2 ^ 80) (hl : u.length ≤ 20) : Builtin.Int.intBits (matL u).p ≤ 2000 ∧ Builtin.Int.intBits (matL u).q ≤ 2000 ∧ Builtin.Int.intBits (matL u).r ≤ 2000 ∧ Builtin.Int.intBits (matL u).s ≤ 2000 := by
  have b := mat_bound (B := 2 ^ 80) (K := 2 ^ 82) (by decide) h
  have e : (2 ^ 82) ^ u.length < 2 ^ 2000 := by
    rw [← Nat.pow_mul]
    exact Nat.pow_lt_pow_right (by omega) (by omega)
  obtain ⟨b1, b2, b3, b4⟩ := b
  exact ⟨intBits_le_iff.mpr (Nat.lt_of_le_of_lt b1 e), intBits_le_iff.mpr (Nat.lt_of_le_of_lt b2 e), intBits_le_iff.mpr (Nat.lt_of_le_of_lt b3 e), intBits_le_iff.mpr (Nat.lt_of_le_of_lt b4 e)⟩
end Mine
end
section
open PySem PySem.W PyProof.Rows
set_option Elab.async false
set_option maxRecDepth 100000
set_option maxHeartbeats 8000000
namespace Mine

theorem near_is (w : World) (x y n : Int) (t1 t2 : Tok) (hy : y ≠ 0) (hn : nearestN x y = n) :
  AtN w 105 20 fun A h₀ L m news s => ∀ (Q E : Value → Shared → Prop),
    (∀ h' tk' t, Fr h₀ L h' m → News h₀ L h' news → Q (.int n t) { s with heap := h', toks := tk' }) →
    wpAny (model PG w) A (call (.ref 154) [.int x t1, .int y t2]) Q E s := hn ▸ near_law w x y t1 t2 hy
noncomputable def BackAt (N : List (Addr × Obj)) (l : Addr) (u : List (Int × Int)) : Prop :=
  ∃ (d e : Addr) (items : Array Value) (n k : Nat) (t1 t2 t3 t4 : Tok), (l, pairO (.ref d) (.ref e)) ∈ N ∧ (d, listOf items n) ∈ N ∧ (e, listOf #[.int 1 t1, .int 0 t2, .int 0 t3, .int 1 t4] k) ∈ N ∧ Tells N items.toList u
noncomputable def BackJ (news : List (Addr × Obj)) (c1 c2 d : Addr) (u : List (Int × Int)) (i : Nat) : JT := fun m₁ news₁ =>
  ∃ (v : List (Int × Int)) (tp tq tr tS : Tok) (mB : PySem.Str → Option Value) (done : List (Int × Int)) (items : Array Value) (n : Nat) (o1 o2 : Obj) (rest : List (Addr × Obj)), m₁ = (fun y => if y = PySem.Str.ofString "told" then some (.ref d) else if y = PySem.Str.ofString "p" then some (.int (matL v).p tp) else if y = PySem.Str.ofString "q" then some (.int (matL v).q tq) else if y = PySem.Str.ofString "r" then some (.int (matL v).r tr) else if y = PySem.Str.ofString "s" then some (.int (matL v).s tS) else mB y) ∧ news₁ = (d, listOf items n) :: (c1, o1) :: (c2, o2) :: rest ∧ CellO o1 ∧ CellO o2 ∧
    (∀ p ∈ rest, p.1 ≠ d) ∧ (∀ p ∈ rest, p.1 ≠ c1) ∧ (∀ p ∈ rest, p.1 ≠ c2) ∧ (∀ p ∈ news, p ∈ rest) ∧ Tells rest items.toList done ∧ done.length = i ∧ Red v ∧ u = done ++ v
local macro_rules | `(tactic| k_all) => `(tactic| assumption)
local macro_rules | `(tactic| bits_by_make) => `(tactic| with_reducible assumption)
theorem back_law (w : World) (u : List (Int × Int)) (most : Int) (t1 t2 t3 t4 t5 : Tok) (hred : Red u) (hB : ∀ x ∈ u, x.2.natAbs ≤ 2 ^ 80) (hlen : (u.length : Int) ≤ most) (hm2 : most ≤ 20) :
  AtN w 120 200 fun A h₀ L m news st => ∀ (Q E : Value → Shared → Prop),
    (∀ l h' tk' news', Fr h₀ L h' m → News h₀ L h' news' → (∀ p ∈ news, p ∈ news') → BackAt news' l u → Q (.ref l) { st with heap := h', toks := tk' }) →
    wpAny (model PG w) A (call (.ref 159) [.int (matL u).p t1, .int (matL u).q t2, .int (matL u).r t3, .int (matL u).s t4, .int most t5]) Q E st := by
  k_with_none
  k_with "my all" => (with_reducible (first | (intro p hp; (repeat' (first | assumption | refine List.mem_cons_of_mem _ ?_ | refine List.mem_append_left _ ?_)); done) | (refine List.forall_mem_cons.mpr ⟨?_, ?_⟩; focus ((repeat' (first | exact List.mem_cons_self | refine List.mem_cons_of_mem _ ?_)); done); kcj_all)))
  k_with "my ne" => (refine neN ?_; (try dsimp only); with_reducible (first | assumption | (refine Ne.symm ?_; assumption) | exact Nat.ne_of_lt (by assumption) | exact Nat.ne_of_gt (by assumption)))
  k_with "call ref" => ((k_here; (with_reducible show wpAny _ _ (call (Value.ref 154) [Value.int _ _, Value.int _ _]) _ _ _); k_dflt (refine' (atN_use (near_is _ _ _ _ _ _ ?hz ?hn) ?B ?F ?X ?N ?T ?hd ?hu) _ _ ?_; (case hz => assumption); (case hn => assumption); (case B => assumption); (case F => assumption); (case X => assumption); (case N => assumption); (case T => assumption); (case hd => ktr_room); (case hu => ktr_units); k_whole); intro _ _ _ _ _; (try dsimp only); (try k_sweep)))
  k_with "call ref" => ((k_here; (with_reducible show wpAny _ _ (call (Value.ref 112) [Value.int _ _]) _ _ _); k_dflt (refine' (atN_use (eof_law _ _ _) ?B ?F ?X ?N ?T ?hd ?hu) _ _ ?_; (case B => assumption); (case F => assumption); (case X => assumption); (case N => assumption); (case T => assumption); (case hd => ktr_room); (case hu => ktr_units); k_whole); intro _ _ _ _; (try dsimp only); (try k_sweep)))
  k_with "call ref" => ((k_here; (with_reducible show wpAny _ _ (call (Value.ref 112) [Value.int _ _]) _ _ _); k_dflt (refine' (atN_use (eofF_law _ _ _ ?hz) ?B ?F ?X ?N ?T ?hd ?hu) _ _ ?_; (case hz => assumption); (case B => assumption); (case F => assumption); (case X => assumption); (case N => assumption); (case T => assumption); (case hd => ktr_room); (case hu => ktr_units); k_whole); intro _ _ _ _; (try dsimp only); (try k_sweep)))
  k_with "call ref" => ((k_here; (with_reducible show wpAny _ _ (call (Value.ref 105) [Value.int (255 + _) _]) _ _ _); k_dflt (refine' (atN_use (nont255_law _ _ _) ?B ?F ?X ?N ?T ?hd ?hu) _ _ ?_; (case B => assumption); (case F => assumption); (case X => assumption); (case N => assumption); (case T => assumption); (case hd => ktr_room); (case hu => ktr_units); k_whole); intro _ _ _ _; (try dsimp only); (try k_sweep)))
  k_with "call ref" => ((k_here; (with_reducible show wpAny _ _ (call (Value.ref 105) [Value.int (256 + _) _]) _ _ _); k_dflt (refine' (atN_use (nont256_law _ _ _ ?hz) ?B ?F ?X ?N ?T ?hd ?hu) _ _ ?_; (case hz => assumption); (case B => assumption); (case F => assumption); (case X => assumption); (case N => assumption); (case T => assumption); (case hd => ktr_room); (case hu => ktr_units); k_whole); intro _ _ _ _; (try dsimp only); (try k_sweep)))
  k_with "call ref" => ((k_here; (with_reducible show wpAny _ _ (call (Value.ref 98) [Value.int (255 + _) _]) _ _ _); k_dflt (refine' (atN_use (term255_law _ _ _ ?hz) ?B ?F ?X ?N ?T ?hd ?hu) _ _ ?_; (case hz => assumption); (case B => assumption); (case F => assumption); (case X => assumption); (case N => assumption); (case T => assumption); (case hd => ktr_room); (case hu => ktr_units); k_whole); intro _ _ _ _; (try dsimp only); (try k_sweep)))
  k_with "call ref" => ((k_here; (with_reducible show wpAny _ _ (call (Value.ref 98) [Value.int (256 + _) _]) _ _ _); k_dflt (refine' (atN_use (term256_law _ _ _) ?B ?F ?X ?N ?T ?hd ?hu) _ _ ?_; (case B => assumption); (case F => assumption); (case X => assumption); (case N => assumption); (case T => assumption); (case hd => ktr_room); (case hu => ktr_units); k_whole); intro _ _ _ _; (try dsimp only); (try k_sweep)))
  k_with "binaryOp FloorDiv int int" => ((k_here; (with_reducible show wpAny _ _ (binaryOp Operator.FloorDiv (Value.int _ _) (Value.int _ _)) _ _ _); k_dflt (refine floordiv_int ?h0 ?_ (Or.inr (PySem.PylongRoom.of (Heap.NoLimit.keeps (Top.nolimit (by assumption)) (Fr.keep (by assumption))) ?dd)); (case h0 => (simp only [ne_eq]; omega)); (case dd => (show _ + 100 < _; dsimp only [ktrTop, Around.deeper] ; omega)); k_whole)))
  k_with "CompSrcT" => ((k_here; k_dflt (refine LCt.CompSrcT.range (n := 7) (by rfl) (by k_asm) (by k_asm) (by assumption) (by first | decide | rfl) (by first | rfl | decide) (by first | size_fits | exact Nat.le_of_ble_eq_true rfl) ?_; intro g')))
  k_with "compareOp IsNot bool bool" => ((with_reducible refine isnotSame ?_))
  k_with "CompEnd" => ((k_dflt (refine LCg.CompEnd.intro (by assumption) (by assumption) _ (fun _ h => h) ?off True.intro ?_; (case off => assumption))))
  k_with "loadName" => ((k_here; k_dflt (refine' loadX_C ?N ?c ?m ?d ?_ ?a ?b; (case a => rfl); (case b => rfl); (case N => k_asm); (case c => rfl); (case m => k_mem); (case d => k_asm); k_whole)))
  k_with "inplaceOp Add ref ref" => ((k_here; k_dflt (refine' iadd_L ?F ?N ?m ?hz ?y ?z ?U ?_; (case F => k_asm); (case N => k_asm); (case m => k_mem); (case U => k_upd); (case hz => (simp only [List.cons_append, List.nil_append]; rfl)); (case y => exact Nat.succ_ne_zero _); (case z => exact Nat.le_of_ble_eq_true rfl); k_whole; intro _ _ _; (try k_sweep))))
  k_with "subscriptTail Name Name ref int" => ((k_here; (with_reducible show wpAny _ _ (subscriptTail _ _ (Value.ref _) (Value.int _ _)) _ _ _); k_dflt (refine' item_listL (News.isList (by k_asm) ?m) ?h0 ?hf ?hx ?_ ?hs ?hg; (case m => k_mem); (case hx => first | with_reducible exact due_at _ _ _ (by assumption) | fail "due"); (case h0 => omega); (case hf => omega); (case hs => with_unfolding_all rfl); (case hg => (intro _; with_unfolding_all rfl)); k_whole)))
  k_with "subscriptTail Name Constant ref int" => ((k_here; (with_reducible show wpAny _ _ (subscriptTail _ _ (Value.ref _) (Value.int _ _)) _ _ _); k_dflt (refine' PyProof.Rows.item_list (News.isList (by k_asm) ?m) ?h0 ?hf ?hx ?_ ?hs ?hg; (case m => k_mem); (case hx => exact (show _ = some (Value.bool _) from rfl)); (case h0 => decide); (case hf => decide); (case hs => with_unfolding_all rfl); (case hg => (intro _; with_unfolding_all rfl)); k_whole)))
  k_with "CompRestT" => ((k_dflt (refine compQuietR 7 True.intro ?_ (fun i' t' I' oI' C' oC' D' m' h' tk' E' hi' hC' hx' F' N' => ?_) 7 0 rfl); (try dsimp only)))
  generalize hp : (matL u).p = p
  generalize hq : (matL u).q = q
  generalize hr : (matL u).r = r
  generalize hs : (matL u).s = s
  unfold AtN; dsimp only [PG, LS, KK, TopM]
  k_fill
  intro dp un gd cn cns cg cc cmo a ccd cl outer A₀ base h₀ L m mg mb mean news st B F X N T hd hu Q E hret
  refine wpAny_call ?_
  k_dflt (refine' PySem.W.code_defC ?k1 ?k2 ?k3 ?k4 ?k5 ?kA ?kF ?kK ?k6 ?k7 ?k8 ?k9 ?kB ?kD ?_ ?c2 ?c3 ?c4; (case kA => exact rfl); (case kF => exact rfl); (case kK => exact rfl); (case k1 => k_asm); (case k2 => k_asm); (case k3 => k_asm); (case k4 => k_asm); (case k5 => k_asm); (case k6 => k_is); (case k7 => k_is); (case k8 => ktr_room); (case k9 => first | exact BindsTo.of_eq rfl | exact binds_K (by k_in) rfl (by k_is) rfl rfl rfl); (case kB => exact rfl); (case kD => decide +kernel); (case c2 => exact rfl); (case c3 => exact rfl); (case c4 => exact rfl); k_whole)
  intro g' L' h' tk' cells' FG' F' N' Y' B' X' T' l1
  (try k_lt l1); k_cells Y'; (try simp only [List.cons_append, List.nil_append] at N'); (try dsimp only); (try k_fold)

  rename_i o1 o2 d1 d2
  replace d1 : CellO o1 := ⟨_, d1⟩
  replace d2 : CellO o2 := ⟨_, d2⟩
  obtain ⟨mB, F2⟩ : ∃ mB : PySem.Str → Option Value, Fr g' L' h' (fun y => if y = PySem.Str.ofString "p" then some (.int p t1) else if y = PySem.Str.ofString "q" then some (.int q t2) else if y = PySem.Str.ofString "r" then some (.int r t3) else if y = PySem.Str.ofString "s" then some (.int s t4) else if y = PySem.Str.ofString "most" then some (.int most t5) else mB y) := ⟨_, fr_again (x := PySem.Str.ofString "p") (fr_again (x := PySem.Str.ofString "q") (fr_again (x := PySem.Str.ofString "r") (fr_again (x := PySem.Str.ofString "s") (fr_again (x := PySem.Str.ofString "most") (F') rfl) rfl) rfl) rfl) rfl⟩
  clear F'
  with_reducible refine cutK (P := fun G => ∀ h2 tk2 d, News g' L' h2 ((d, listOf #[] 0) :: (L' + 1 + 1, o1) :: (L' + 1, o2) :: news) → Fr g' L' h2 (fun y => if y = PySem.Str.ofString "told" then some (.ref d) else if y = PySem.Str.ofString "p" then some (.int p t1) else if y = PySem.Str.ofString "q" then some (.int q t2) else if y = PySem.Str.ofString "r" then some (.int r t3) else if y = PySem.Str.ofString "s" then some (.int s t4) else if y = PySem.Str.ofString "most" then some (.int most t5) else mB y) → (∀ p ∈ news, p.1 < d) → (L' + 1 + 1 < d) → G { st with heap := h2, toks := tk2 }) ?_ ?_
  · intro G hG E2
    k_steps
    rename_i l1 _ _ _
    all_goals exact hG _ _ _ (by assumption) (by assumption) (allLt_mem l1.2.2) l1.1
  intro h2 tk2 d N3 F3 hlt hlt2
  clear F2 N'
  with_reducible refine cutK (P := fun G => ∀ (h2 : Heap) (tk2 : Nat) (v : List (Int × Int)) (tp tq tr tS : Tok) (done : List (Int × Int)) (items : Array Value) (n : Nat) (rest : List (Addr × Obj)) (mB : PySem.Str → Option Value), News g' L' h2 ((d, listOf items n) :: rest) → (∀ p ∈ rest, p.1 ≠ d) → (∀ p ∈ news, p ∈ rest) → Tells rest items.toList done → (v = [] ∨ ∃ k, k ≠ 0 ∧ v = [(0, k)]) → (u = done ++ v) → Fr g' L' h2 (fun y => if y = PySem.Str.ofString "told" then some (.ref d) else if y = PySem.Str.ofString "p" then some (.int (matL v).p tp) else if y = PySem.Str.ofString "q" then some (.int (matL v).q tq) else if y = PySem.Str.ofString "r" then some (.int (matL v).r tr) else if y = PySem.Str.ofString "s" then some (.int (matL v).s tS) else mB y) → G { st with heap := h2, toks := tk2 }) ?_ ?_
  · intro G hG E2
    k_dflt (refine forRangeA (h₀ := g') (L := L') (most + 1).toNat (BackJ news (L' + 1 + 1) (L' + 1) d u) rfl (by omega) ?_ ?_ ?_)
    · have hn : ((most + 1).toNat : Int) = most + 1 := by omega
      k_steps
      subst hp hq hr hs
      exact ⟨_, _, _, _, _, _, _, _, rfl, rfl, by rw [hn]; assumption, by assumption, by assumption,
        u, _, _, _, _, _, [], #[], 0, o1, o2, news, rfl, rfl, d1, d2, (fun p hp => Nat.ne_of_lt (hlt p hp)), (fun p hp => Nat.ne_of_lt (Nat.lt_succ_of_lt (Nat.lt_succ_of_lt (l1 p hp)))), (fun p hp => Nat.ne_of_lt (Nat.lt_succ_of_lt (l1 p hp))), fun _ h => h, trivial, rfl, hred, rfl⟩
    · rintro i t m₁ news₁ h tk it o' hi ⟨v, tp, tq, tr, tS, mB', done, items, n, o1', o2', rest, rfl, rfl, e1, e2, n1, n2, n3, hin, htl, hsz, hrv, huv⟩ hap F4 N4
      clear F3 N3 d1 d2
      obtain ⟨v1, e1⟩ := e1
      obtain ⟨v2, e2⟩ := e2
      have a1 := neN (hap _ (.head _))
      have a2 := neN (hap _ (.tail _ (.head _)))
      have a3 := neN (hap _ (.tail _ (.tail _ (.head _))))
      dsimp only at a1 a2 a3
      have hlt3 := ltN hlt2
      have a4 : ∀ p ∈ rest, p.1 ≠ it := fun p hp => hap _ (.tail _ (.tail _ (.tail _ hp)))
      obtain ⟨par1, par2, par3, par4⟩ := parity v
      generalize hP : (matL v).p = P at F4 par1
      generalize hQ : (matL v).q = Q₁ at F4 par2
      generalize hR : (matL v).r = R at F4 par3
      generalize hS : (matL v).s = S at F4 par4
      with_reducible refine midK (P := fun G => ∀ (h2 : Heap) (tk2 : Nat) (tt : Tok), Fr g' L' h2 (fun y => if y = PySem.Str.ofString "turn" then some (.int i tt) else if y = PySem.Str.ofString "told" then some (.ref d) else if y = PySem.Str.ofString "p" then some (.int P tp) else if y = PySem.Str.ofString "q" then some (.int Q₁ tq) else if y = PySem.Str.ofString "r" then some (.int R tr) else if y = PySem.Str.ofString "s" then some (.int S tS) else mB' y) → News g' L' h2 ((it, o') :: (d, listOf items n) :: (L' + 1 + 1, o1') :: (L' + 1, o2') :: rest) → G { st with heap := h2, toks := tk2 }) ?_ ?_
      · intro G hG
        k_steps
        all_goals exact hG _ _ _ _ (by assumption) (by assumption)
      intro _ h4 tk4 tt F5 N5
      clear F4 N4
      with_reducible refine cutK (P := fun G => ∀ (h2 : Heap) (tk2 : Nat) (tt td : Tok) (D : Int), (D = (if P < 0 then -P else P) - (if R < 0 then -R else R)) → Fr g' L' h2 (fun y => if y = PySem.Str.ofString "d" then some (.int D td) else if y = PySem.Str.ofString "turn" then some (.int i tt) else if y = PySem.Str.ofString "told" then some (.ref d) else if y = PySem.Str.ofString "p" then some (.int P tp) else if y = PySem.Str.ofString "q" then some (.int Q₁ tq) else if y = PySem.Str.ofString "r" then some (.int R tr) else if y = PySem.Str.ofString "s" then some (.int S tS) else mB' y) → News g' L' h2 ((it, o') :: (d, listOf items n) :: (L' + 1 + 1, o1') :: (L' + 1, o2') :: rest) → G { st with heap := h2, toks := tk2 }) ?_ ?_
      · intro G hG E2
        k_steps
        all_goals exact hG _ _ _ _ _ rfl (by assumption) (by assumption)
      intro h5 tk5 tt' td D hD F6 N6
      have hR1 : R - 1 ≠ 0 := by omega
      have hR2 : R + 1 ≠ 0 := by omega
      have hP0 : P ≠ 0 := by omega
      have hD0 : D ≠ 0 := by rw [hD]; split <;> split <;> omega
      replace hD := Hid.mk hD
      clear par1 par2 par3 par4
      clear F5 N5
      with_reducible refine cutK (P := fun G => ∀ (h2 : Heap) (tk2 : Nat) (tt td : Tok) (ls : Addr) (o2s : Obj), Fr g' L' h2 (fun y => if y = PySem.Str.ofString "d" then some (.int D td) else if y = PySem.Str.ofString "turn" then some (.int i tt) else if y = PySem.Str.ofString "told" then some (.ref d) else if y = PySem.Str.ofString "p" then some (.int P tp) else if y = PySem.Str.ofString "q" then some (.int Q₁ tq) else if y = PySem.Str.ofString "r" then some (.int R tr) else if y = PySem.Str.ofString "s" then some (.int S tS) else mB' y) → News g' L' h2 ((ls, listOf [.bool (R == 0), .bool false, .bool false].toArray 0) :: (it, o') :: (d, listOf items n) :: (L' + 1 + 1, o1') :: (L' + 1, o2s) :: rest) → (o2s.data = .cell (some (.ref ls))) → (@LT.lt Nat _ it ls) → (@LT.lt Nat _ d ls) → (@LT.lt Nat _ (L' + 1 + 1) ls) → (@LT.lt Nat _ (L' + 1) ls) → (AllLt ls rest) → G { st with heap := h2, toks := tk2 }) ?_ ?_
      · intro G hG E2
        k_steps
        rename (_ < _ ∧ _) => hl
        all_goals exact hG _ _ _ _ _ _ (by assumption) (by assumption) (by assumption) hl.1 hl.2.1 hl.2.2.1 hl.2.2.2.1 hl.2.2.2.2
      intro h6 tk6 tt td ls o2s F7 N7 e2' l1 l2 l3 l4 l5
      clear F6 N6 e2 hap
      have l6 : ∀ p ∈ rest, p.1 ≠ ls := fun p hp => Nat.ne_of_lt (allLt_mem l5 p hp)
      with_reducible refine cutK (P := fun G => ∀ (h2 : Heap) (tk2 : Nat) (tt td : Tok) (o2s : Obj), Fr g' L' h2 (fun y => if y = PySem.Str.ofString "d" then some (.int D td) else if y = PySem.Str.ofString "turn" then some (.int i tt) else if y = PySem.Str.ofString "told" then some (.ref d) else if y = PySem.Str.ofString "p" then some (.int P tp) else if y = PySem.Str.ofString "q" then some (.int Q₁ tq) else if y = PySem.Str.ofString "r" then some (.int R tr) else if y = PySem.Str.ofString "s" then some (.int S tS) else mB' y) → News g' L' h2 ((ls, listOf [.bool (R == 0), .bool false, .bool false, .bool (decide (0 < D)), .bool (decide (0 < D)), .bool (decide (D < 0)), .bool (decide (D < 0))].toArray 1) :: (it, o') :: (d, listOf items n) :: (L' + 1 + 1, o1') :: (L' + 1, o2s) :: rest) → (o2s.data = .cell (some (.ref ls))) → G { st with heap := h2, toks := tk2 }) ?_ ?_
      · intro G hG E2
        k_steps
        all_goals exact hG _ _ _ _ _ (by assumption) (cb_drop (by assumption) (by kcj_all)) (by assumption)
      intro h7 tk7 tt td o2s F8 N8 e2
      clear F7 N7 e2'
      with_reducible refine cutK (P := fun G => ∀ (h2 : Heap) (tk2 : Nat) (tt td : Tok) (ld : Addr) (o1s : Obj), Fr g' L' h2 (fun y => if y = PySem.Str.ofString "d" then some (.int D td) else if y = PySem.Str.ofString "turn" then some (.int i tt) else if y = PySem.Str.ofString "told" then some (.ref d) else if y = PySem.Str.ofString "p" then some (.int P tp) else if y = PySem.Str.ofString "q" then some (.int Q₁ tq) else if y = PySem.Str.ofString "r" then some (.int R tr) else if y = PySem.Str.ofString "s" then some (.int S tS) else mB' y) → News g' L' h2 ((ld, listOf [.bool (R == 0), .bool false, .bool false, .bool (decide (0 < D)), .bool (decide (0 < D)), .bool (decide (D < 0)), .bool (decide (D < 0))].toArray 0) :: (ls, listOf [.bool (R == 0), .bool false, .bool false, .bool (decide (0 < D)), .bool (decide (0 < D)), .bool (decide (D < 0)), .bool (decide (D < 0))].toArray 1) :: (it, o') :: (d, listOf items n) :: (L' + 1 + 1, o1s) :: (L' + 1, o2s) :: rest) → (o1s.data = .cell (some (.ref ld))) → (@LT.lt Nat _ ls ld) → (@LT.lt Nat _ it ld) → (@LT.lt Nat _ d ld) → (@LT.lt Nat _ (L' + 1 + 1) ld) → (@LT.lt Nat _ (L' + 1) ld) → (AllLt ld rest) → G { st with heap := h2, toks := tk2 }) ?_ ?_
      · intro G hG E2
        k_steps
        rename (_ < _ ∧ _) => hl
        all_goals exact hG _ _ _ _ _ _ (by assumption) (by assumption) (by assumption) hl.1 hl.2.1 hl.2.2.1 hl.2.2.2.1 hl.2.2.2.2.1 hl.2.2.2.2.2
      intro h8 tk8 tt td ld o1s F9 N9 e1' m0 m1 m2 m3 m4 m5
      clear F8 N8 e1
      have m6 : ∀ p ∈ rest, p.1 ≠ ld := fun p hp => Nat.ne_of_lt (allLt_mem m5 p hp)
      with_reducible refine cutK (P := fun G => ∀ (h2 : Heap) (tk2 : Nat) (tt td : Tok), Fr g' L' h2 (fun y => if y = PySem.Str.ofString "d" then some (.int D td) else if y = PySem.Str.ofString "turn" then some (.int i tt) else if y = PySem.Str.ofString "told" then some (.ref d) else if y = PySem.Str.ofString "p" then some (.int P tp) else if y = PySem.Str.ofString "q" then some (.int Q₁ tq) else if y = PySem.Str.ofString "r" then some (.int R tr) else if y = PySem.Str.ofString "s" then some (.int S tS) else mB' y) → News g' L' h2 ((ld, listOf [.bool (R == 0), .bool false, .bool false, .bool (decide (0 < D)), .bool (decide (0 < D)), .bool (decide (D < 0)), .bool (decide (D < 0))].toArray 0) :: (ls, listOf [.bool (R == 0), .bool false, .bool false, .bool (decide (0 < D)), .bool (decide (0 < D)), .bool (decide (D < 0)), .bool (decide (D < 0))].toArray 1) :: (it, o') :: (d, listOf items n) :: (L' + 1 + 1, o1s) :: (L' + 1, o2s) :: rest) → G { st with heap := h2, toks := tk2 }) ?_ ?_
      · intro G hG E2
        k_steps
        all_goals first | exact ⟨rfl, _, _, rfl, by assumption, by assumption⟩ | exact hG _ _ _ _ (by assumption) (cb_drop (by assumption) (by kcj_all)) | fail "end"
      intro h9 tk9 tt td F10 N10
      clear F9 N9
      have hsz2 : items.size = i := by rw [← Array.length_toList, tells_len htl, hsz]
      have hzi : items.size ≤ 30 := by omega
      have hvm : ∀ x ∈ v, x.2.natAbs ≤ 2 ^ 80 := fun x hx => hB x (by rw [huv]; exact List.mem_append.mpr (.inr hx))
      have hvl : v.length ≤ 20 := by have := congrArg List.length huv; rw [List.length_append] at this; omega
      obtain ⟨bP, bQ, bR, bS⟩ := mat_bits hvm hvl
      rw [hP] at bP; rw [hQ] at bQ; rw [hR] at bR; rw [hS] at bS
      rcases v with _ | ⟨⟨l, k⟩, t'⟩
      · have hR0 : R = 0 := by rw [← hR]; rfl
        have eb : (R == 0) = true := by rw [hR0]; rfl
        rw [eb] at N10
        k_steps
        (with_reducible rename Fr g' L' _ _ => FZ)
        subst hP hQ hR hS
        exact hG _ _ [] _ _ _ _ done items n rest _ (cb_drop (by assumption) (List.forall_mem_cons.mpr ⟨by k_mem, fun q hq => .tail _ (.tail _ (.tail _ (.tail _ (.tail _ (.tail _ hq)))))⟩)) n1 hin htl (.inl rfl) huv (fr_again (x := PySem.Str.ofString "told") (fr_again (x := PySem.Str.ofString "p") (fr_again (x := PySem.Str.ofString "q") (fr_again (x := PySem.Str.ofString "r") (fr_again (x := PySem.Str.ofString "s") (FZ) rfl) rfl) rfl) rfl) rfl)
      · have hl := hrv.head
        simp only at hl
        by_cases h0 : l = 0 ∧ t' = []
        · obtain ⟨rfl, rfl⟩ := h0
          have hR0 : R = 0 := by rw [← hR, last_x]
          have eb : (R == 0) = true := by rw [hR0]; rfl
          rw [eb] at N10
          k_steps
          (with_reducible rename Fr g' L' _ _ => FZ)
          subst hP hQ hR hS
          exact hG _ _ [(0, k)] _ _ _ _ done items n rest _ (cb_drop (by assumption) (List.forall_mem_cons.mpr ⟨by k_mem, fun q hq => .tail _ (.tail _ (.tail _ (.tail _ (.tail _ (.tail _ hq)))))⟩)) n1 hin htl (.inr ⟨k, hl.2, rfl⟩) huv (fr_again (x := PySem.Str.ofString "told") (fr_again (x := PySem.Str.ofString "p") (fr_again (x := PySem.Str.ofString "q") (fr_again (x := PySem.Str.ofString "r") (fr_again (x := PySem.Str.ofString "s") (FZ) rfl) rfl) rfl) rfl) rfl)
        · have bk : Builtin.Int.intBits k ≤ 100 := intBits_le_iff.mpr (Nat.lt_of_le_of_lt (hvm (l, k) (.head _)) (by decide))
          rcases hl with ⟨rfl | rfl, hk⟩
          · have ht : t' ≠ [] := fun e => h0 ⟨rfl, e⟩
            obtain ⟨q1, q2, q3⟩ := turn_x hrv ht
            rw [hP, hR] at q3 q1; rw [hR] at q2
            have eb : (R == 0) = false := by simpa using q2
            have dp : 0 < D := by rw [hD.out]; split <;> split <;> omega
            rw [eb, decide_eq_true dp, decide_eq_false (by omega : ¬ D < 0)] at N10
            k_steps
            (with_reducible rename Fr g' L' _ _ => FZ)
            rename (_ < _ ∧ _) => hl
            obtain ⟨_, _, _, f1, f2, f3, f4, f5⟩ := hl
            have f6 := allLt_mem f5
            have eP : P - 2 * k * R = (matL t').p := by rw [← hP, ← hR, mat_x]; simp only; omega
            have eQ : Q₁ - 2 * k * S = (matL t').q := by rw [← hQ, ← hS, mat_x]; simp only; omega
            have eR : R = (matL t').r := by rw [← hR, mat_x]
            have eS : S = (matL t').s := by rw [← hS, mat_x]
            rw [eP, eQ, eR, eS] at FZ
            refine ⟨_, _, _, _, rfl, fr_again (x := PySem.Str.ofString "told") (fr_again (x := PySem.Str.ofString "p") (fr_again (x := PySem.Str.ofString "q") (fr_again (x := PySem.Str.ofString "r") (fr_again (x := PySem.Str.ofString "s") (FZ) rfl) rfl) rfl) rfl) rfl, cb_drop (news := (it, o') :: (d, listOf (items.push (.ref _)) (n + 1)) :: (L' + 1 + 1, o1s) :: (L' + 1, o2s) :: (_, pairO (.int 0 _) (.int k _)) :: rest) (by assumption) (by kcj_all), ?_, t', _, _, _, _, _, done ++ [(0, k)], items.push (.ref _), n + 1, o1s, o2s, (_, pairO (.int 0 _) (.int k _)) :: rest, rfl, rfl, ⟨_, by assumption⟩, ⟨_, by assumption⟩, ?_, ?_, ?_, fun p hp => .tail _ (hin p hp), ?_, ?_, hrv.tail, ?_⟩
            · exact List.forall_mem_cons.mpr ⟨a1, List.forall_mem_cons.mpr ⟨a2, List.forall_mem_cons.mpr ⟨a3, List.forall_mem_cons.mpr ⟨Nat.ne_of_gt f1, a4⟩⟩⟩⟩
            · exact List.forall_mem_cons.mpr ⟨Nat.ne_of_gt f2, n1⟩
            · exact List.forall_mem_cons.mpr ⟨Nat.ne_of_gt f3, n2⟩
            · exact List.forall_mem_cons.mpr ⟨Nat.ne_of_gt f4, n3⟩
            · rw [Array.toList_push]; exact tells_snoc (.head _) (tells_mono (fun p hp => .tail _ hp) htl)
            · simp [hsz]
            · rw [huv]; simp
          · obtain ⟨q1, q3⟩ := turn_y hrv
            rw [hP, hR] at q3 q1
            have q2 : R ≠ 0 := by omega
            have eb : (R == 0) = false := by simpa using q2
            have dn : D < 0 := by rw [hD.out]; split <;> split <;> omega
            rw [eb, decide_eq_false (by omega : ¬ 0 < D), decide_eq_true dn] at N10
            k_steps
            (with_reducible rename Fr g' L' _ _ => FZ)
            rename (_ < _ ∧ _) => hl
            obtain ⟨_, _, _, f1, f2, f3, f4, f5⟩ := hl
            have f6 := allLt_mem f5
            have eR : R - 2 * k * P = (matL t').r := by rw [← hP, ← hR, mat_y]; simp only; omega
            have eS : S - 2 * k * Q₁ = (matL t').s := by rw [← hQ, ← hS, mat_y]; simp only; omega
            have eP : P = (matL t').p := by rw [← hP, mat_y]
            have eQ : Q₁ = (matL t').q := by rw [← hQ, mat_y]
            rw [eR, eS, eP, eQ] at FZ
            refine ⟨_, _, _, _, rfl, fr_again (x := PySem.Str.ofString "told") (fr_again (x := PySem.Str.ofString "p") (fr_again (x := PySem.Str.ofString "q") (fr_again (x := PySem.Str.ofString "r") (fr_again (x := PySem.Str.ofString "s") (FZ) rfl) rfl) rfl) rfl) rfl, cb_drop (news := (it, o') :: (d, listOf (items.push (.ref _)) (n + 1)) :: (L' + 1 + 1, o1s) :: (L' + 1, o2s) :: (_, pairO (.int 1 _) (.int k _)) :: rest) (by assumption) (by kcj_all), ?_, t', _, _, _, _, _, done ++ [(1, k)], items.push (.ref _), n + 1, o1s, o2s, (_, pairO (.int 1 _) (.int k _)) :: rest, rfl, rfl, ⟨_, by assumption⟩, ⟨_, by assumption⟩, ?_, ?_, ?_, fun p hp => .tail _ (hin p hp), ?_, ?_, hrv.tail, ?_⟩
            · exact List.forall_mem_cons.mpr ⟨a1, List.forall_mem_cons.mpr ⟨a2, List.forall_mem_cons.mpr ⟨a3, List.forall_mem_cons.mpr ⟨Nat.ne_of_gt f1, a4⟩⟩⟩⟩
            · exact List.forall_mem_cons.mpr ⟨Nat.ne_of_gt f2, n1⟩
            · exact List.forall_mem_cons.mpr ⟨Nat.ne_of_gt f3, n2⟩
            · exact List.forall_mem_cons.mpr ⟨Nat.ne_of_gt f4, n3⟩
            · rw [Array.toList_push]; exact tells_snoc (.head _) (tells_mono (fun p hp => .tail _ hp) htl)
            · simp [hsz]
            · rw [huv]; simp
    · rintro m₁ news₁ h tk ⟨v, tp, tq, tr, tS, mB', done, items, n, o1', o2', rest, rfl, rfl, e1, e2, n1, n2, n3, hin, htl, hsz, hrv, huv⟩ F4 N4
      exfalso
      have := congrArg List.length huv
      rw [List.length_append] at this
      omega
  intro h3 tk3 v tp tq tr tS done items n rest mB2 N4 n1 hin htl hv huv F4
  clear F3 N3
  have hsz2 : items.size = done.length := by rw [← Array.length_toList, tells_len htl]
  have hzi : items.size ≤ 30 := by
    have := congrArg List.length huv
    rw [List.length_append] at this
    omega
  clear hp hq hr hs
  rcases hv with rfl | ⟨k, hk, rfl⟩
  · dsimp only [matL, Mat.one] at F4
    k_steps
    exact hret _ _ _ _ (by assumption) (by assumption) (fun q hq => .tail _ (.tail _ (.tail _ (hin q hq)))) ⟨_, _, _, _, _, _, _, _, _, .head _, .tail _ (.tail _ (.head _)), .tail _ (.head _), by rw [huv, List.append_nil]; exact tells_mono (fun q hq => .tail _ (.tail _ (.tail _ hq))) htl⟩
  · rw [last_x] at F4
    dsimp only at F4
    have bk : Builtin.Int.intBits (2 * k) ≤ 100 := intBits_le_iff.mpr (by
      have := hB (0, k) (by rw [huv]; simp)
      simp only at this
      omega)
    have hk2 : (2 * k) ≠ 0 := by omega
    k_steps
    have e1 : (2 * k).fdiv 2 = k := by rw [Int.fdiv_eq_ediv_of_nonneg _ (by decide)]; omega
    have e2 : 2 * k - (2 * k).fdiv 2 * 2 * 1 = 0 := by rw [e1]; omega
    (with_reducible rename News h₀ L _ _ => kN)
    rw [e2, e1] at kN
    refine hret _ _ _ _ (by assumption) kN (fun q hq => .tail _ (.tail _ (.tail _ (.tail _ (hin q hq))))) ⟨_, _, _, _, _, _, _, _, _, .head _, .tail _ (.tail _ (.tail _ (.head _))), .tail _ (.head _), ?_⟩
    rw [huv, Array.toList_push]
    exact tells_snoc (.tail _ (.tail _ (.head _))) (tells_mono (fun q hq => .tail _ (.tail _ (.tail _ (.tail _ hq)))) htl)
end Mine
end
section
open PySem PySem.W PyProof.Rows
set_option Elab.async false
set_option maxRecDepth 100000
set_option maxHeartbeats 8000000
namespace Mine
theorem kpat (w : World) {h : Heap} (X : (KK w).In h) : PatAt h 36 35 := pat_of X rfl rfl rfl rfl rfl rfl rfl rfl rfl (by decide +kernel)
/-- what is left of a text of bytes when the quoted parts are out: the depth of its brackets -/
noncomputable def depthB (b : Array UInt8) : Int := (((strip b.size (nat8 b).toList).map (·.toUInt8)).count 40 : Nat) - (((strip b.size (nat8 b).toList).map (·.toUInt8)).count 41 : Nat)
theorem paren_law (w : World) (x : Array UInt8) (dep : Int) (t1 t2 : Tok) (hx : x.size < 1000) :
  AtN w 3 20 fun A h₀ L m news s => ∀ (Q E : Value → Shared → Prop),
    (∀ h' tk' t, Fr h₀ L h' m → News h₀ L h' news → Q (.int (dep + depthB x) t) { s with heap := h', toks := tk' }) →
    wpAny (model PG w) A (call (.ref 44) [.bytes x t1, .int dep t2]) Q E s := by
  k_with_none
  k_with "getMethod ref" => ((k_here; (with_reducible show wpAny _ _ (getMethod (Value.ref 36) _ _) _ _ _); k_dflt (refine' method_sub (ct := 35) ?P ?_; (case P => exact PatAt.keeps (kpat _ (by assumption)) (Fr.keep (by assumption))); k_whole)))
  k_with "call builtin:re.Pattern.sub" => ((k_here; k_dflt (refine' sub_call (ct := 35) ?hb ?P ?F ?N ?_; (case hb => assumption); (case P => exact kpat _ (by assumption)); (case F => k_asm); (case N => k_asm); k_whole; intro h' y' t' tk' F' N' hy'; (try k_sweep))))
  k_with "getMethod bytes" => ((k_dflt (refine' method_count ?_)))
  k_with "call builtin:bytes.count" => ((k_dflt (refine' count_bytes ?_; intro t')))
  unfold AtN; dsimp only [PG, LS, KK, TopM]
  k_fill
  intro dp un gd cn cns cg cc cmo a ccd cl outer A₀ base h₀ L m mg mb mean news s B F X N T hd hu Q E hret
  refine wpAny_call ?_
  k_dflt (refine' code_def ?k1 ?k2 ?k3 ?k4 ?k5 ?kA ?kF ?kK ?k6 ?k7 ?k8 ?k9 ?kB ?_ ?c2 ?c3 ?c4 ?c5; (case kA => exact rfl); (case kF => exact rfl); (case kK => exact rfl); (case k1 => k_asm); (case k2 => k_asm); (case k3 => k_asm); (case k4 => k_asm); (case k5 => k_asm); (case k6 => k_is); (case k7 => k_is); (case k8 => ktr_room); (case k9 => first | exact BindsTo.of_eq rfl | exact binds_K (by k_in) rfl (by k_is) rfl rfl rfl); (case c5 => decide); (case kB => exact locs rfl); (case c2 => exact rfl); (case c3 => exact rfl); (case c4 => exact rfl); k_whole)
  intro g' L' h' FG' F' N' B' X' T'
  (try dsimp only)
  k_fold
  k_steps
  rename (_ = (strip x.size (nat8 x).toList).map (·.toUInt8)) => hy
  rw [hy]
  have e : dep + ((((strip x.size (nat8 x).toList).map (·.toUInt8)).count 40 : Nat) : Int) - ((((strip x.size (nat8 x).toList).map (·.toUInt8)).count 41 : Nat) : Int) = dep + depthB x := by unfold depthB; omega
  rw [e]
  exact hret _ _ _ (by assumption) (by assumption)
theorem paren_law0 (w : World) (x : Array UInt8) (t1 : Tok) (hx : x.size < 1000) :
  AtN w 3 20 fun A h₀ L m news s => ∀ (Q E : Value → Shared → Prop),
    (∀ h' tk' t, Fr h₀ L h' m → News h₀ L h' news → Q (.int (depthB x) t) { s with heap := h', toks := tk' }) →
    wpAny (model PG w) A (call (.ref 44) [.bytes x t1]) Q E s := by
  k_with_none
  k_with "getMethod ref" => ((k_here; (with_reducible show wpAny _ _ (getMethod (Value.ref 36) _ _) _ _ _); k_dflt (refine' method_sub (ct := 35) ?P ?_; (case P => exact PatAt.keeps (kpat _ (by assumption)) (Fr.keep (by assumption))); k_whole)))
  k_with "call builtin:re.Pattern.sub" => ((k_here; k_dflt (refine' sub_call (ct := 35) ?hb ?P ?F ?N ?_; (case hb => assumption); (case P => exact kpat _ (by assumption)); (case F => k_asm); (case N => k_asm); k_whole; intro h' y' t' tk' F' N' hy'; (try k_sweep))))
  k_with "getMethod bytes" => ((k_dflt (refine' method_count ?_)))
  k_with "call builtin:bytes.count" => ((k_dflt (refine' count_bytes ?_; intro t')))
  unfold AtN; dsimp only [PG, LS, KK, TopM]
  k_fill
  intro dp un gd cn cns cg cc cmo a ccd cl outer A₀ base h₀ L m mg mb mean news s B F X N T hd hu Q E hret
  refine wpAny_call ?_
  k_dflt (refine' code_def ?k1 ?k2 ?k3 ?k4 ?k5 ?kA ?kF ?kK ?k6 ?k7 ?k8 ?k9 ?kB ?_ ?c2 ?c3 ?c4 ?c5; (case kA => exact rfl); (case kF => exact rfl); (case kK => exact rfl); (case k1 => k_asm); (case k2 => k_asm); (case k3 => k_asm); (case k4 => k_asm); (case k5 => k_asm); (case k6 => k_is); (case k7 => k_is); (case k8 => ktr_room); (case k9 => first | exact BindsTo.of_eq rfl | exact binds_K (by k_in) rfl (by k_is) rfl rfl rfl); (case c5 => decide); (case kB => exact locs rfl); (case c2 => exact rfl); (case c3 => exact rfl); (case c4 => exact rfl); k_whole)
  intro g' L' h' FG' F' N' B' X' T'
  (try dsimp only)
  k_fold
  k_steps
  rename (_ = (strip x.size (nat8 x).toList).map (·.toUInt8)) => hy
  rw [hy]
  have e : 0 + ((((strip x.size (nat8 x).toList).map (·.toUInt8)).count 40 : Nat) : Int) - ((((strip x.size (nat8 x).toList).map (·.toUInt8)).count 41 : Nat) : Int) = depthB x := by unfold depthB; omega
  rw [e]
  exact hret _ _ _ (by assumption) (by assumption)
end Mine
end
section
open PySem PySem.W PyProof.Rows
set_option Elab.async false
namespace Mine
/-- one line of the word: the text, its letter, its kind, its power -/
structure W4 where
  line : PySem.Str
  odd : Int
  kind : Int
  power : Int
noncomputable def W4.pw (x : W4) : Int × Int := (x.odd, x.power)
noncomputable def quadO (a b c d : Value) : Obj := { cls := .type "tuple", data := .seq #[a, b, c, d] }
noncomputable def Tells4 (rest : List (Addr × Obj)) : List Value → List W4 → Prop
  | [], [] => True
  | v :: vs, x :: xs => (∃ a t1 t2 t3 t4, v = Value.ref a ∧ (a, quadO (.str x.line t1) (.int x.odd t2) (.int x.kind t3) (.int x.power t4)) ∈ rest) ∧ Tells4 rest vs xs
  | _, _ => False
theorem tells4_mono {rest rest' : List (Addr × Obj)} (h : ∀ p ∈ rest, p ∈ rest') : ∀ {vs : List Value} {xs : List W4}, Tells4 rest vs xs → Tells4 rest' vs xs
  | [], [], _ => trivial
  | [], _ :: _, h' => h'.elim
  | _ :: _, [], h' => h'.elim
  | _ :: _, _ :: _, ⟨⟨a, t1, t2, t3, t4, e, hm⟩, h'⟩ => ⟨⟨a, t1, t2, t3, t4, e, h _ hm⟩, tells4_mono h h'⟩
theorem tells4_snoc {rest : List (Addr × Obj)} {a : Addr} {x : W4} {t1 t2 t3 t4 : Tok} (hm : (a, quadO (.str x.line t1) (.int x.odd t2) (.int x.kind t3) (.int x.power t4)) ∈ rest) : ∀ {vs : List Value} {xs : List W4}, Tells4 rest vs xs → Tells4 rest (vs ++ [.ref a]) (xs ++ [x])
  | [], [], _ => ⟨⟨a, t1, t2, t3, t4, rfl, hm⟩, trivial⟩
  | [], _ :: _, h' => h'.elim
  | _ :: _, [], h' => h'.elim
  | _ :: _, _ :: _, ⟨h1, h'⟩ => ⟨h1, tells4_snoc hm h'⟩
theorem tells4_len {rest : List (Addr × Obj)} : ∀ {vs : List Value} {xs : List W4}, Tells4 rest vs xs → vs.length = xs.length
  | [], [], _ => rfl
  | [], _ :: _, h' => h'.elim
  | _ :: _, [], h' => h'.elim
  | _ :: _, _ :: _, ⟨_, h'⟩ => by simp [tells4_len h']
theorem tells4_get {rest : List (Addr × Obj)} : ∀ {vs : List Value} {xs : List W4}, Tells4 rest vs xs → ∀ i, i < vs.length → ∃ a x t1 t2 t3 t4, vs[i]? = some (.ref a) ∧ xs[i]? = some x ∧ (a, quadO (.str x.line t1) (.int x.odd t2) (.int x.kind t3) (.int x.power t4)) ∈ rest
  | [], [], _, _, h => by simp at h
  | [], _ :: _, h', _, _ => h'.elim
  | _ :: _, [], h', _, _ => h'.elim
  | _ :: _, x :: _, ⟨⟨a, t1, t2, t3, t4, e, hm⟩, _⟩, 0, _ => ⟨a, x, t1, t2, t3, t4, by rw [e]; rfl, rfl, hm⟩
  | _ :: _, _ :: _, ⟨_, h'⟩, i + 1, hi => tells4_get h' i (by simpa using hi)
theorem tells_unsnoc {rest : List (Addr × Obj)} {x : Int × Int} : ∀ {xs : List (Int × Int)} {vs : List Value}, Tells rest vs (xs ++ [x]) → ∃ p b t u, vs = p ++ [.ref b] ∧ (b, pairO (.int x.1 t) (.int x.2 u)) ∈ rest ∧ Tells rest p xs
  | [], [], h => h.elim
  | [], [v], ⟨⟨b, t, u, e, hm⟩, _⟩ => ⟨[], b, t, u, by rw [e]; rfl, hm, trivial⟩
  | [], _ :: _ :: _, h => h.2.elim
  | _ :: _, [], h => h.elim
  | y :: xs, v :: vs, ⟨h1, h⟩ => by
    obtain ⟨p, b, t, u, e, hm, ht⟩ := tells_unsnoc (xs := xs) h
    exact ⟨v :: p, b, t, u, by rw [e]; rfl, hm, h1, ht⟩
theorem news_dup {h₀ h : Heap} {L : Addr} {news : List (Addr × Obj)} {p : Addr × Obj} (N : News h₀ L h news) (hp : p ∈ news) : News h₀ L h (p :: news) := List.forall_mem_cons.mpr ⟨N p hp, N⟩
section
variable {prog : Program} {w : World} {A : Around} {env : Env} {h₀ : Heap} {L : Addr} {target : Expr} {body : List Stmt} {s : Shared}
/-- a list stands, and the loop's word -/
noncomputable def ListMade (h₀ : Heap) (L : Addr) (s : Shared) (l : Addr) (J : JT) (v : Value) (s₁ : Shared) : Prop :=
  ∃ h₁ tk₁ m₁ news₁, v = .ref l ∧ s₁ = { s with heap := h₁, toks := tk₁ } ∧ Fr h₀ L h₁ m₁ ∧ News h₀ L h₁ news₁ ∧ J m₁ news₁
theorem forListA {pos : Pos} {iter : Expr} {l : Addr} {items : Array Value} {Q : Flow → Shared → Prop} {E : Value → Shared → Prop} (J : Nat → JT) (W : ∀ it, Draws prog w A target it items.size (fun h => h.IsList l items) (listItO l) (fun i v => items[i]? = some v))
    (hK : ∀ i m₁ news₁ h, J i m₁ news₁ → Fr h₀ L h m₁ → News h₀ L h news₁ → h.IsList l items)
    (he : wpAny (model prog w) A (eval iter env) (ListMade h₀ L s l (J 0)) (fun _ _ => False) s)
    (turn : ∀ i v m₁ news₁ h tk it o', i < items.size → items[i]? = some v → J i m₁ news₁ → (∀ p ∈ news₁, p.1 ≠ it) → Fr h₀ L h m₁ → News h₀ L h ((it, o') :: news₁) →
      wpAny (model prog w) A (assign target env v) (fun _ s₁ => wpAny (model prog w) A (execs body env) (TurnEnd h₀ L (J (i + 1)) (it, o') s Q) (fun _ _ => False) s₁) (fun _ _ => False) { s with heap := h, toks := tk })
    (done : ∀ m₁ news₁ h tk, J items.size m₁ news₁ → Fr h₀ L h m₁ → News h₀ L h news₁ → Q .next { s with heap := h, toks := tk })
    (hs : ∀ x, foldedSetIterable iter env x = pure x := by intro _; rfl) :
    wpAny (model prog w) A (exec (.For target iter body [] pos) env) Q E s := by
  refine wpAny_For (wpAny_mono he (fun v s₁ h₁ => ?_) fun _ _ e => e.elim) hs
  obtain ⟨h₁, tk₁, m₁, news₁, rfl, rfl, F₁, N₁, hJ⟩ := h₁
  refine wpAny_pyIter_list (hK _ _ _ _ hJ F₁ N₁) ?_
  have hap : ∀ p ∈ news₁, p.1 ≠ h₁.objs.size := fun p hp => Nat.ne_of_lt (Heap.lt_size (N₁ p hp).1)
  refine forLoopA (Q := Q) (W _) J (fun i m₁ news₁ h a b c => hK i m₁ news₁ h a b c) (fun _ _ q => q) (F₁.push _) (N₁.push F₁ _) hap ⟨rfl, rfl⟩ hJ ?_ ?_
  · rintro i v m₂ news₂ h tk o' hi hv hJ₂ hap₂ F₂ N₂
    exact turn i v m₂ news₂ h tk _ o' hi hv hJ₂ hap₂ F₂ N₂
  · intro m₂ news₂ h tk hJ₂ F₂ N₂
    exact done m₂ news₂ h tk hJ₂ F₂ N₂
end
end Mine
end
section
open PySem PySem.W PyProof.Rows
set_option Elab.async false
set_option maxRecDepth 100000
set_option maxHeartbeats 8000000
namespace Mine

local macro_rules | `(tactic| k_all) => `(tactic| assumption)
theorem kl_snoc (p : List Value) (y : Value) : kl_last (p ++ [y]).toArray.toList = some (p, y) := by
  induction p with
  | nil => rfl
  | cons x p ih =>
    cases p with
    | nil => rfl
    | cons z p =>
      simp only [List.cons_append] at ih ⊢
      unfold kl_last
      rw [ih]
theorem item_neg {prog : Program} {w : World} {A : Around} {E : Value → Shared → Prop} {s : Shared} {value slice : PySem.Expr} {l : Addr} {items : Array Value} {k : Int} {t : Tok} {x : Value} {Q : Value → Shared → Prop} (hl : s.heap.IsList l items)
    (h0 : k < 0) (h1 : -(items.size : Int) ≤ k) (hfit : -(2 ^ 63) ≤ k) (hx : items[(k + items.size).toNat]? = some x) (h : Q x s)
    (hs : subscripted slice false (.ref l) (.int k t) = operate [.ref l, .int k t] (getItem (.ref l) (.int k t)) := by with_unfolding_all rfl) (hg : ∀ r, letTemporaryGo value (.ref l) r = pure () := by intro _; with_unfolding_all rfl) :
    wpAny (model prog w) A (subscriptTail value slice (.ref l) (.int k t)) Q E s :=
  tail_any hl.typeIs slot_list_getitem.lookup (wpAny_getItem_list_neg hl h0 h1 hfit hx h) hs
theorem last_at (p : List Value) (y : Value) : (p ++ [y]).toArray[((-1 : Int) + ((p ++ [y]).toArray.size : Int)).toNat]? = some y := by
  have e : ((-1 : Int) + ((p ++ [y]).toArray.size : Int)).toNat = p.length := by simp; omega
  rw [e]; simp
theorem truthy_snoc {prog : Program} {w : World} {A : Around} {E : Value → Shared → Prop} {s : Shared} {l : Addr} {p : List Value} {y : Value} {Q : Bool → Shared → Prop} (hl : s.heap.IsList l (p ++ [y]).toArray) (hz : p.length < 100)
    (h : Q true { s with toks := s.toks + 1 + 1 }) : wpAny (model prog w) A (truthy (.ref l)) Q E s := by
  refine wpAny_truthy_list hl (by simp; omega) ?_
  have e : (p ++ [y]).toArray.isEmpty = false := by simp
  rw [e]; exact h

noncomputable def pileW (ws : List W4) (i : Nat) : List (Int × Int) := ((ws.take i).map W4.pw).foldl pileS []
noncomputable def RedJ (news : List (Addr × Obj)) (ws : List W4) (i : Nat) : JT := fun m₁ news₁ =>
  ∃ (mB : PySem.Str → Option Value) (d : Addr) (its : Array Value) (n : Nat) (rest : List (Addr × Obj)), m₁ = (fun y => if y = PySem.Str.ofString "pile" then some (.ref d) else mB y) ∧ news₁ = (d, listOf its n) :: rest ∧ (∀ p ∈ rest, p.1 ≠ d) ∧ (∀ p ∈ news, p ∈ rest) ∧ Tells rest its.toList (pileW ws i).reverse ∧ its.size ≤ i
theorem pileW_succ {ws : List W4} {i : Nat} {x : W4} (h : ws[i]? = some x) : pileW ws (i + 1) = pileS (pileW ws i) x.pw := by
  unfold pileW
  rw [List.take_add_one, h]
  simp
theorem reduced_law (w : World) (lw : Addr) (items : Array Value) (nw : Nat) (ws : List W4) (hws : ws.length ≤ 20) :
  AtN w 20 200 fun A h₀ L m news st => ∀ (Q E : Value → Shared → Prop), (lw, listOf items nw) ∈ news → Tells4 news items.toList ws →
    (∀ d its n h' tk' news', Fr h₀ L h' m → News h₀ L h' news' → (∀ p ∈ news, p ∈ news') → (d, listOf its n) ∈ news' → Tells news' its.toList (reduceW (ws.map W4.pw)) → Q (.ref d) { st with heap := h', toks := tk' }) →
    wpAny (model PG w) A (call (.ref 140) [.ref lw]) Q E st := by
  k_with_none
  k_with "my all" => (with_reducible (first | (intro p hp; (repeat' (first | assumption | refine List.mem_cons_of_mem _ ?_ | refine List.mem_append_left _ ?_)); done) | (refine List.forall_mem_cons.mpr ⟨?_, ?_⟩; focus ((repeat' (first | exact List.mem_cons_self | refine List.mem_cons_of_mem _ ?_)); done); kcj_all)))
  k_with "my ne" => (refine neN ?_; (try dsimp only); with_reducible (first | assumption | (refine Ne.symm ?_; assumption) | exact Nat.ne_of_lt (by assumption) | exact Nat.ne_of_gt (by assumption)))
  k_with "truthy ref" => ((k_here; k_dflt (refine' wpAny_truthy_list (News.isList (by k_asm) (by k_mem)) ?hz ?_; (case hz => (simp; omega)); k_whole)))
  k_with "truthy ref" => ((k_here; k_dflt (refine' truthy_snoc (News.isList (by k_asm) (by k_mem)) ?hz ?_; (case hz => omega); k_whole)))
  k_with "call builtin:list.pop" => ((k_here; k_dflt (refine' kl_pop ?F ?N (kl_snoc _ _) ?U ?z ?_; (case F => k_asm); (case N => k_asm); (case U => k_upd); (case z => (simp [sizeLine_eq]; omega)); k_whole; intro _ _ _; (try k_sweep))))
  k_with "subscriptTail" => ((k_here; (with_reducible show wpAny _ _ (subscriptTail _ _ (Value.ref _) (Value.int (-1) _)) _ _ _); k_dflt (refine' item_neg (News.isList (by k_asm) (by k_mem)) (by omega) ?h1 (by omega) (last_at _ _) ?_ ?hs ?hg; (case h1 => ((try simp only [List.size_toArray, List.length_append, List.length_singleton]); omega)); (case hs => with_unfolding_all rfl); (case hg => (intro _; with_unfolding_all rfl)); k_whole)))
  unfold AtN; dsimp only [PG, LS, KK, TopM]
  k_fill
  intro dp un gd cn cns cg cc cmo a ccd cl outer A₀ base h₀ L m mg mb mean news st B F X N T hd hu Q E hlw hws4 hret
  refine wpAny_call ?_
  k_dflt (refine' code_def ?k1 ?k2 ?k3 ?k4 ?k5 ?kA ?kF ?kK ?k6 ?k7 ?k8 ?k9 ?kB ?_ ?c2 ?c3 ?c4 ?c5; (case kA => exact rfl); (case kF => exact rfl); (case kK => exact rfl); (case k1 => k_asm); (case k2 => k_asm); (case k3 => k_asm); (case k4 => k_asm); (case k5 => k_asm); (case k6 => k_is); (case k7 => k_is); (case k8 => ktr_room); (case k9 => first | exact BindsTo.of_eq rfl | exact binds_K (by k_in) rfl (by k_is) rfl rfl rfl); (case c5 => decide); (case kB => exact locs rfl); (case c2 => exact rfl); (case c3 => exact rfl); (case c4 => exact rfl); k_whole)
  intro g' L' h' FG' F' N' B' X' T'
  (try dsimp only)
  k_fold

  obtain ⟨mB, F2⟩ : ∃ mB : PySem.Str → Option Value, Fr g' L' h' (fun y => if y = PySem.Str.ofString "word" then some (.ref lw) else mB y) := ⟨_, fr_again (x := PySem.Str.ofString "word") (F') rfl⟩
  clear F'
  have hlen := tells4_len hws4
  have hsz : items.size ≤ 20 := by rw [← Array.length_toList, hlen]; exact hws
  with_reducible refine cutK (P := fun G => ∀ h2 tk2 d, News g' L' h2 ((d, listOf #[] 0) :: news) → Fr g' L' h2 (fun y => if y = PySem.Str.ofString "pile" then some (.ref d) else if y = PySem.Str.ofString "word" then some (.ref lw) else mB y) → (∀ p ∈ news, p.1 < d) → G { st with heap := h2, toks := tk2 }) ?_ ?_
  · intro G hG E2
    k_steps
    rename_i l1 _ _ _
    all_goals exact hG _ _ _ (by assumption) (by assumption) l1
  intro h2 tk2 d N3 F3 hlt
  clear F2 N'
  with_reducible refine cutK (P := fun G => ∀ (h2 : Heap) (tk2 : Nat) (mB : PySem.Str → Option Value) (d : Addr) (its : Array Value) (n : Nat) (rest : List (Addr × Obj)), Fr g' L' h2 (fun y => if y = PySem.Str.ofString "pile" then some (.ref d) else mB y) → News g' L' h2 ((d, listOf its n) :: rest) → (∀ p ∈ news, p ∈ rest) → Tells rest its.toList (pileW ws items.size).reverse → G { st with heap := h2, toks := tk2 }) ?_ ?_
  · intro G hG E2
    k_dflt (refine forListA (h₀ := g') (L := L') (l := lw) (items := items) (RedJ news ws) (fun it => drawsListT rfl (fun i v hv => ?_)) ?_ ?_ ?_ ?_)
    · have hi : i < items.toList.length := by
        rcases Nat.lt_or_ge i items.size with hl | hl
        · simpa using hl
        · rw [Array.getElem?_eq_none hl] at hv; cases hv
      obtain ⟨a, x, t1, t2, t3, t4, e1, e2, e3⟩ := tells4_get hws4 i hi
      rw [Array.getElem?_toList] at e1
      rw [e1] at hv
      cases hv
      exact ⟨_, rfl⟩
    · rintro i m₁ news₁ h ⟨mB, d, its, n, rest, rfl, rfl, n1, hin, _⟩ F4 N4
      exact News.isList N4 (.tail _ (hin _ hlw))
    · k_steps
      exact ⟨_, _, _, _, rfl, rfl, by assumption, by assumption, _, d, #[], 0, news, rfl, rfl, (fun p hp => Nat.ne_of_lt (hlt p hp)), (fun _ h => h), trivial, Nat.zero_le _⟩
    · rintro i v m₁ news₁ h tk it o' hi hv ⟨mB', d, its, n, rest, rfl, rfl, n1, hin, htl, hz⟩ hap F4 N4
      obtain ⟨a, x, t1, t2, t3, t4, e1, e2, e3⟩ := tells4_get hws4 i (by simpa using hi)
      rw [Array.getElem?_toList] at e1
      rw [e1] at hv
      cases hv
      obtain ⟨line, odd, kind, power⟩ := x
      dsimp only at e3
      have hpw := pileW_succ e2
      clear F3 N3
      have a1 := neN (hap _ (.head _))
      dsimp only at a1
      have a2 : ∀ p ∈ rest, p.1 ≠ it := fun p hp => hap _ (.tail _ hp)
      have N5 : News g' L' h ((a, quadO (.str line t1) (.int odd t2) (.int kind t3) (.int power t4)) :: (it, o') :: (d, listOf its n) :: rest) := news_dup N4 (.tail _ (.tail _ (hin _ e3)))
      clear N4
      dsimp only [quadO] at N5
      with_reducible refine midK (P := fun G => ∀ (h2 : Heap) (tk2 : Nat) (mB : PySem.Str → Option Value), Fr g' L' h2 (fun y => if y = PySem.Str.ofString "pile" then some (.ref d) else if y = PySem.Str.ofString "odd" then some (.int odd t2) else if y = PySem.Str.ofString "power" then some (.int power t4) else mB y) → News g' L' h2 ((it, o') :: (d, listOf its n) :: rest) → G { st with heap := h2, toks := tk2 }) ?_ ?_
      · intro G hG
        k_steps
        (with_reducible rename Fr g' L' _ _ => FZ)
        exact hG _ _ _ _ (fr_again (x := PySem.Str.ofString "pile") (fr_again (x := PySem.Str.ofString "odd") (fr_again (x := PySem.Str.ofString "power") (FZ) rfl) rfl) rfl) (cb_drop (by assumption) (by kcj_all))
      intro _ h4 tk4 mB2 F6 N6
      clear F4 N5
      with_reducible refine cutK (P := fun G => ∀ (h2 : Heap) (tk2 : Nat) (mB : PySem.Str → Option Value) (pw : Int) (t4 : Tok) (its : Array Value) (n : Nat) (st2 : List (Int × Int)), Fr g' L' h2 (fun y => if y = PySem.Str.ofString "pile" then some (.ref d) else if y = PySem.Str.ofString "odd" then some (.int odd t2) else if y = PySem.Str.ofString "power" then some (.int pw t4) else mB y) → News g' L' h2 ((it, o') :: (d, listOf its n) :: rest) → Tells rest its.toList st2.reverse → (its.size ≤ i) → (pileS (pileW ws i) (odd, power) = (if pw = 0 then st2 else (odd, pw) :: st2)) → G { st with heap := h2, toks := tk2 }) ?_ ?_
      · intro G hG E2
        cases hst : pileW ws i with
        | nil =>
          rw [hst] at htl
          have hn : its.toList = [] := by
            match hq : its.toList, htl with
            | [], _ => rfl
            | _ :: _, h => exact h.elim
          have hn2 : its = #[] := by simpa using hn
          subst hn2
          k_steps
          (with_reducible rename Fr g' L' _ _ => FZ)
          exact hG _ _ _ power _ (#[]) n [] (fr_again (x := PySem.Str.ofString "pile") (fr_again (x := PySem.Str.ofString "odd") (fr_again (x := PySem.Str.ofString "power") (FZ) rfl) rfl) rfl) (cb_drop (by assumption) (by kcj_all)) trivial (Nat.zero_le _) (by rw [hst]; rfl)
        | cons y st1 =>
          obtain ⟨l', n'⟩ := y
          rw [hst, List.reverse_cons] at htl
          obtain ⟨pp, b, u1, u2, hpp, hb, htl2⟩ := tells_unsnoc htl
          have hits : its = (pp ++ [Value.ref b]).toArray := by rw [← hpp]
          subst hits
          have hz3 : pp.length + 1 ≤ i := by simpa using hz
          have N7 : News g' L' h4 ((b, pairO (.int l' u1) (.int n' u2)) :: (it, o') :: (d, listOf (pp ++ [Value.ref b]).toArray n) :: rest) := news_dup N6 (.tail _ (.tail _ hb))
          clear N6
          have b1 := neN (n1 _ hb)
          dsimp only at b1
          dsimp only [pairO] at N7
          by_cases hl : l' = odd
          · subst hl
            k_steps
            all_goals first | (exfalso; omega) | skip
            (with_reducible rename Fr g' L' _ _ => FZ)
            exact hG _ _ _ (power + n') _ pp.toArray (n + 1) st1 (fr_again (x := PySem.Str.ofString "pile") (fr_again (x := PySem.Str.ofString "odd") (fr_again (x := PySem.Str.ofString "power") (FZ) rfl) rfl) rfl) (cb_drop (by assumption) (by kcj_all)) htl2 (by simpa using (by omega : pp.length ≤ i)) (by rw [hst]; unfold pileS; simp only; rw [if_pos trivial])
          · k_steps
            all_goals first | (exfalso; omega) | skip
            (with_reducible rename Fr g' L' _ _ => FZ)
            exact hG _ _ _ power _ ((pp ++ [Value.ref b]).toArray) n ((l', n') :: st1) (fr_again (x := PySem.Str.ofString "pile") (fr_again (x := PySem.Str.ofString "odd") (fr_again (x := PySem.Str.ofString "power") (FZ) rfl) rfl) rfl) (cb_drop (by assumption) (by kcj_all)) (by rw [List.reverse_cons]; exact htl) hz (by rw [hst]; unfold pileS; simp only; rw [if_neg hl])
      intro h5 tk5 mB3 pw t5 its2 n2 st2 F7 N7 htl3 hz3 hps
      clear F6 N6
      have hpw2 : pileW ws (i + 1) = if pw = 0 then st2 else (odd, pw) :: st2 := hpw.trans hps
      by_cases h0 : pw = 0
      · rw [if_pos h0] at hpw2
        k_steps
        all_goals first | (exfalso; omega) | skip
        (with_reducible rename Fr g' L' _ _ => FZ)
        exact ⟨_, _, _, (d, listOf its2 n2) :: rest, rfl, fr_again (x := PySem.Str.ofString "pile") (FZ) rfl, cb_drop (by assumption) (by kcj_all), List.forall_mem_cons.mpr ⟨a1, a2⟩, _, d, its2, n2, rest, rfl, rfl, n1, hin, by rw [hpw2]; exact htl3, by omega⟩
      · rw [if_neg h0] at hpw2
        k_steps
        all_goals first | (exfalso; omega) | skip
        (with_reducible rename Fr g' L' _ _ => FZ)
        rename (_ < _ ∧ _) => hl
        obtain ⟨f1, f2, f3⟩ := hl
        refine ⟨_, _, _, (d, listOf (its2.push (.ref _)) (n2 + 1)) :: (_, pairO (.int odd _) (.int pw _)) :: rest, rfl, fr_again (x := PySem.Str.ofString "pile") (FZ) rfl, cb_drop (by assumption) (by kcj_all), List.forall_mem_cons.mpr ⟨a1, List.forall_mem_cons.mpr ⟨Nat.ne_of_gt f1, a2⟩⟩, _, d, its2.push (.ref _), n2 + 1, (_, pairO (.int odd _) (.int pw _)) :: rest, rfl, rfl, List.forall_mem_cons.mpr ⟨Nat.ne_of_gt f2, n1⟩, fun p hp => .tail _ (hin p hp), ?_, by rw [Array.size_push]; omega⟩
        rw [hpw2, List.reverse_cons, Array.toList_push]
        exact tells_snoc (.head _) (tells_mono (fun p hp => .tail _ hp) htl3)
    · rintro m₁ news₁ h tk ⟨mB', d, its, n, rest, rfl, rfl, n1, hin, htl, hz⟩ F4 N4
      exact hG _ _ _ _ _ _ _ F4 N4 hin htl
  intro h3 tk3 mB2 d its n rest F4 N4 hin htl
  clear F3 N3
  k_steps
  have hfin : (pileW ws items.size).reverse = reduceW (ws.map W4.pw) := by
    unfold pileW reduceW
    rw [List.take_of_length_le (by rw [← hlen]; simp)]
  rw [hfin] at htl
  exact hret d its n _ _ _ (by assumption) (by assumption) (fun p hp => .tail _ (hin p hp)) (.head _) (tells_mono (fun p hp => .tail _ hp) htl)
end Mine
end
section
open PySem PySem.W PyProof.Rows
set_option Elab.async false
set_option maxRecDepth 100000
set_option maxHeartbeats 8000000
namespace Mine

section
variable {prog : Program} {w : World} {A : Around} {E : Value → Shared → Prop} {s : Shared}
theorem getItem_at {l : Addr} {k k' : Int} {t : Tok} {Q : Value → Shared → Prop} (e : k = k') (h : wpAny (model prog w) A (getItem (.ref l) (.int k' t)) Q E s) : wpAny (model prog w) A (getItem (.ref l) (.int k t)) Q E s := e ▸ h
theorem setItem_at {l : Addr} {k k' : Int} {t : Tok} {v : Value} {Q : Unit → Shared → Prop} (e : k = k') (h : wpAny (model prog w) A (setItem (.ref l) (.int k' t) v) Q E s) : wpAny (model prog w) A (setItem (.ref l) (.int k t) v) Q E s := e ▸ h
end
local macro_rules | `(tactic| k_all) => `(tactic| assumption)
theorem cells_law (w : World) (sc : Addr) (vs : List Value) (ns : List Int) (hi : IntsAre vs ns) (hn : ns.length ≤ 1000) :
  AtN w 20 200 fun A h₀ L m news st => ∀ (Q E : Value → Shared → Prop), h₀.IsList sc vs.toArray →
    (∀ (c0 c1 c2 c3 c4 : Int) (u0 u1 u2 u3 u4 : Tok) d h' tk', Fr h₀ L h' m → News h₀ L h' ((d, listOf [.int c0 u0, .int c1 u1, .int c2 u2, .int c3 u3, .int c4 u4].toArray 0) :: news) → (∀ p ∈ news, p.1 ≠ d) → Q (.ref d) { st with heap := h', toks := tk' }) →
    wpAny (model PG w) A (call (.ref 119) [.ref sc]) Q E st := by
  k_with_none
  k_with "my ne" => (refine neN ?_; (try dsimp only); with_reducible (first | assumption | (refine Ne.symm ?_; assumption) | exact Nat.ne_of_lt (by assumption) | exact Nat.ne_of_gt (by assumption)))
  k_with "getItem ref int" => ((k_here; k_dflt (refine' getItem_listL (News.isList (by k_asm) (by k_mem)) ?a ?b ?c ?_; (case a => decide); (case b => decide); (case c => rfl); k_whole)))
  k_with "getItem ref int" => ((k_here; k_dflt (refine' getItem_at (by assumption) ?_)))
  k_with "setItem ref int" => ((k_here; k_dflt (refine' setItem_at (by assumption) ?_)))
  k_with "call builtin:len" => ((k_here; (with_reducible show wpAny _ _ (call (Value.builtin "len") [Value.ref _]) _ _ _); k_dflt (refine' len_list (stays_list (Fr.keep (by assumption)) (by assumption)) ?z ?_; (case z => (simp only [List.size_toArray]; omega)); k_whole)))
  k_with "subscriptTail" => ((k_here; (with_reducible show wpAny _ _ (subscriptTail _ _ (Value.ref _) (Value.int _ _)) _ _ _); k_dflt (refine' item_listL (stays_list (Fr.keep (by assumption)) (by assumption)) ?h0 ?hf ?hx ?_ ?hs ?hg; (case hx => with_reducible assumption); (case h0 => omega); (case hf => omega); (case hs => with_unfolding_all rfl); (case hg => (intro _; with_unfolding_all rfl)); k_whole)))
  unfold AtN; dsimp only [PG, LS, KK, TopM]
  k_fill
  intro dp un gd cn cns cg cc cmo a ccd cl outer A₀ base h₀ L m mg mb mean news st B F X N T hd hu Q E hsc hret
  refine wpAny_call ?_
  k_dflt (refine' code_def ?k1 ?k2 ?k3 ?k4 ?k5 ?kA ?kF ?kK ?k6 ?k7 ?k8 ?k9 ?kB ?_ ?c2 ?c3 ?c4 ?c5; (case kA => exact rfl); (case kF => exact rfl); (case kK => exact rfl); (case k1 => k_asm); (case k2 => k_asm); (case k3 => k_asm); (case k4 => k_asm); (case k5 => k_asm); (case k6 => k_is); (case k7 => k_is); (case k8 => ktr_room); (case k9 => first | exact BindsTo.of_eq rfl | exact binds_K (by k_in) rfl (by k_is) rfl rfl rfl); (case c5 => decide); (case kB => exact locs rfl); (case c2 => exact rfl); (case c3 => exact rfl); (case c4 => exact rfl); k_whole)
  intro g' L' h' FG' F' N' B' X' T'
  (try dsimp only)
  k_fold

  replace hsc := stays_list FG'.keep hsc
  obtain ⟨mB, F2⟩ : ∃ mB : PySem.Str → Option Value, Fr g' L' h' (fun y => if y = PySem.Str.ofString "script" then some (.ref sc) else mB y) := ⟨_, fr_again (x := PySem.Str.ofString "script") (F') rfl⟩
  clear F'
  with_reducible refine cutK (P := fun G => ∀ (h2 : Heap) (tk2 : Nat) (d : Addr) (u0 u1 u2 u3 u4 : Tok), News g' L' h2 ((d, listOf [.int 1470 u0, .int (-2719) u1, .int 256 u2, .int (-1559) u3, .int (-264) u4].toArray 0) :: news) → Fr g' L' h2 (fun y => if y = PySem.Str.ofString "cells" then some (.ref d) else if y = PySem.Str.ofString "script" then some (.ref sc) else mB y) → (∀ p ∈ news, p.1 < d) → G { st with heap := h2, toks := tk2 }) ?_ ?_
  · intro G hG E2
    k_steps
    rename_i l1 _ _ _
    all_goals exact hG _ _ _ _ _ _ _ _ (by assumption) (by assumption) l1
  intro h2 tk2 d u0 u1 u2 u3 u4 N3 F3 hlt
  clear F2 N'
  have hap0 : ∀ p ∈ news, p.1 ≠ d := fun p hp => Nat.ne_of_lt (hlt p hp)
  with_reducible refine cutK (P := fun G => ∀ (h2 : Heap) (tk2 : Nat) (c0 c1 c2 c3 c4 : Int) (u0 u1 u2 u3 u4 : Tok) (mB : PySem.Str → Option Value), News g' L' h2 ((d, listOf [.int c0 u0, .int c1 u1, .int c2 u2, .int c3 u3, .int c4 u4].toArray 0) :: news) → Fr g' L' h2 (fun y => if y = PySem.Str.ofString "cells" then some (.ref d) else mB y) → G { st with heap := h2, toks := tk2 }) ?_ ?_
  · intro G hG E2
    k_dflt (refine forRangeA (h₀ := g') (L := L') ns.length (fun _ m₁ news₁ => ∃ (c0 c1 c2 c3 c4 : Int) (u0 u1 u2 u3 u4 : Tok) (mB : PySem.Str → Option Value), m₁ = (fun y => if y = PySem.Str.ofString "cells" then some (.ref d) else if y = PySem.Str.ofString "script" then some (.ref sc) else mB y) ∧ news₁ = (d, listOf [.int c0 u0, .int c1 u1, .int c2 u2, .int c3 u3, .int c4 u4].toArray 0) :: news) rfl (by omega) ?_ ?_ ?_)
    · k_steps
      exact ⟨_, _, _, _, _, _, _, _, rfl, rfl, by assumption, by assumption, by assumption, _, _, _, _, _, _, _, _, _, _, _, rfl, rfl⟩
    · rintro i t m₁ news₁ h tk it o' hi ⟨c0, c1, c2, c3, c4, v0, v1, v2, v3, v4, mB', rfl, rfl⟩ hap F4 N4
      clear F3 N3
      have a1 := neN (hap _ (.head _))
      dsimp only at a1
      have a2 : ∀ p ∈ news, p.1 ≠ it := fun p hp => hap _ (.tail _ hp)
      with_reducible refine midK (P := fun G => ∀ (h2 : Heap) (tk2 : Nat) (tt : Tok), Fr g' L' h2 (fun y => if y = PySem.Str.ofString "k" then some (.int i tt) else if y = PySem.Str.ofString "cells" then some (.ref d) else if y = PySem.Str.ofString "script" then some (.ref sc) else mB' y) → News g' L' h2 ((it, o') :: (d, listOf [.int c0 v0, .int c1 v1, .int c2 v2, .int c3 v3, .int c4 v4].toArray 0) :: news) → G { st with heap := h2, toks := tk2 }) ?_ ?_
      · intro G hG
        k_steps
        all_goals exact hG _ _ _ _ (by assumption) (by assumption)
      intro _ h4 tk4 tt F5 N5
      clear F4 N4
      have hm : Int.fmod (i : Int) 5 = 0 ∨ Int.fmod (i : Int) 5 = 1 ∨ Int.fmod (i : Int) 5 = 2 ∨ Int.fmod (i : Int) 5 = 3 ∨ Int.fmod (i : Int) 5 = 4 := by
        rw [Int.fmod_eq_emod_of_nonneg _ (by decide)]
        omega
      rcases hm with hm | hm | hm | hm | hm
      all_goals
        k_steps
        (with_reducible rename Fr g' L' _ _ => FZ)
        exact ⟨_, _, _, _, rfl, fr_again (x := PySem.Str.ofString "cells") (fr_again (x := PySem.Str.ofString "script") (FZ) rfl) rfl, by assumption, List.forall_mem_cons.mpr ⟨a1, a2⟩, _, _, _, _, _, _, _, _, _, _, _, rfl, rfl⟩
    · rintro m₁ news₁ h tk ⟨c0, c1, c2, c3, c4, v0, v1, v2, v3, v4, mB', rfl, rfl⟩ F4 N4
      exact hG _ _ _ _ _ _ _ _ _ _ _ _ _ N4 F4
  intro h3 tk3 c0 c1 c2 c3 c4 v0 v1 v2 v3 v4 mB2 N4 F4
  clear F3 N3
  k_steps
  exact hret _ _ _ _ _ _ _ _ _ _ d _ _ (by assumption) (by assumption) hap0
end Mine
end
section
open PySem PySem.W PyProof.Rows PySem.NumText PySem.Builtin PySem.Builtin.Str
set_option Elab.async false
set_option maxRecDepth 10000
namespace Mine
noncomputable abbrev cp (x : PySem.Str) : List Nat := x.cps.toList
theorem cp_len (x : PySem.Str) : (cp x).length = x.length := Array.length_toList
theorem cp_app (x y : PySem.Str) : cp (x ++ y) = cp x ++ cp y := by
  show (x.cps ++ y.cps).toList = _
  simp
theorem cp_inj {x y : PySem.Str} (h : cp x = cp y) : x = y := PySem.Str.ext' (Array.toList_inj.mp h)
theorem cp_one (c : Nat) : cp ⟨#[c]⟩ = [c] := rfl
/-- the digits of a number -/
noncomputable def nd (m : Nat) : List Nat := (Nat.toDigits 10 m).map Char.toNat
noncomputable def portL (p : Int) : List Nat := if p < 0 then 45 :: nd p.natAbs else nd p.natAbs
theorem nd_digits (m : Nat) : AllDigits (nd m) := by
  intro c hc
  obtain ⟨ch, hch, e⟩ := List.mem_map.mp hc
  rw [← e]
  exact digit_range (Nat.isDigit_of_mem_toDigits (by decide) (by decide) hch)
theorem nd_ne (m : Nat) : nd m ≠ [] := by
  intro e
  have e' := List.map_eq_nil_iff.mp e
  have h : 0 < (Nat.toDigits 10 m).length := Nat.length_toDigits_pos
  rw [e'] at h
  exact absurd h (by decide)
theorem nd_val (m : Nat) : digitsVal (nd m) = m := KIN.val_back m
theorem cp_nat (m : Nat) : cp (PySem.Str.ofString (toString ((m : Nat) : Int))) = nd m := KIN.signs_num m
theorem cp_port (p : Int) : cp (PySem.Str.ofString (toString p)) = portL p := by
  unfold portL
  by_cases h : p < 0
  · rw [if_pos h, toString_neg h]
    have e : (0 : Int) - p = ((p.natAbs : Nat) : Int) := by omega
    rw [e]
    show (PySem.Str.ofString _).cps.toList = _
    rw [signs_ofString]
    have := cp_nat p.natAbs
    unfold cp at this
    rw [signs_ofString] at this
    simp only [String.toList_append, List.map_append]
    rw [this]
    rfl
  · rw [if_neg h]
    obtain ⟨m, rfl⟩ := Int.eq_ofNat_of_zero_le (Int.not_lt.mp h)
    exact cp_nat m
noncomputable def plainL (kind port : Int) : List Nat :=
  if kind = 1 then (if port < 0 then [45, 48] ++ nd port.natAbs else [43, 48, 48] ++ nd port.natAbs)
  else if kind = 2 then [32] ++ portL port ++ [9] else if kind = 4 then portL port ++ [120] else portL port
theorem slice_core {x : PySem.Str} {l u : Option Int} {a b : Nat} (he : strSliceIndices l u 1 x.length = strSliceIndices (some (a : Int)) (some (b : Int)) 1 x.length) (hab : a ≤ b) (hb : b ≤ x.length) :
    cp (Txt.slice x l u) = ((cp x).drop a).take (b - a) := by
  have hl := cp_len x
  unfold Txt.slice
  rw [he]
  split
  · rename_i h
    rw [StrLaws.strSliceIndices_plain hab hb] at h
    simp at h
    have ha : a = 0 := by omega
    subst ha
    rw [List.drop_zero, List.take_of_length_le (by omega)]
  · show (List.toArray _).toList = _
    rw [List.toList_toArray, StrLaws.sliced_plain x hab hb]
theorem slice_ab (x : PySem.Str) {a b : Nat} (hab : a ≤ b) (hb : b ≤ x.length) : cp (Txt.slice x (some (a : Int)) (some (b : Int))) = ((cp x).drop a).take (b - a) := slice_core rfl hab hb
theorem slice_a (x : PySem.Str) {a : Nat} (ha : a ≤ x.length) : cp (Txt.slice x (some (a : Int)) none) = (cp x).drop a := by
  have h := slice_core (x := x) (l := some (a : Int)) (u := none) (a := a) (b := x.length) (by
    unfold strSliceIndices
    simp only [show (1 : Int) > 0 from by decide, if_true]
    rw [if_neg (by omega : ¬ ((x.length : Int) < 0))]
    congr 1
    omega) ha (Nat.le_refl _)
  rw [h, List.take_of_length_le]
  rw [List.length_drop, cp_len]; exact Nat.le_refl _
theorem slice_b (x : PySem.Str) {b : Nat} (hb : b ≤ x.length) : cp (Txt.slice x none (some (b : Int))) = (cp x).take b := by
  have h := slice_core (x := x) (l := none) (u := some (b : Int)) (a := 0) (b := b) (by
    unfold strSliceIndices
    simp only [show (1 : Int) > 0 from by decide, if_true]
    rw [if_neg (by omega : ¬ (((0 : Nat) : Int) < 0))]
    congr 1) (Nat.zero_le _) hb
  rw [h]; simp
theorem slice_from1 (x : PySem.Str) (c : Nat) (r : List Nat) (h : cp x = c :: r) : cp (Txt.slice x (some 1) none) = r := by
  have hl : x.length = r.length + 1 := by rw [← cp_len, h]; rfl
  have e := slice_a x (a := 1) (by omega)
  rw [h] at e
  exact e
theorem cp_plain (kind port : Int) : cp (plainS kind port) = plainL kind port := by
  unfold plainS plainL
  by_cases h1 : kind = 1
  · rw [if_pos h1, if_pos h1]
    by_cases hp : port < 0
    · rw [if_pos hp, if_pos hp, cp_app, slice_from1 _ 45 (nd port.natAbs) (by rw [cp_port]; unfold portL; rw [if_pos hp])]
      rfl
    · rw [if_neg hp, if_neg hp, cp_app, cp_port]
      unfold portL
      rw [if_neg hp]
      rfl
  · rw [if_neg h1, if_neg h1]
    by_cases h2 : kind = 2
    · rw [if_pos h2, if_pos h2, cp_app, cp_app, cp_port]; rfl
    · rw [if_neg h2, if_neg h2]
      by_cases h4 : kind = 4
      · rw [if_pos h4, if_pos h4, cp_app, cp_port]; rfl
      · rw [if_neg h4, if_neg h4, cp_port]
/-- the signs of a port's text -/
noncomputable def okC (c : Nat) : Prop := (48 ≤ c ∧ c ≤ 57) ∨ c = 45 ∨ c = 43 ∨ c = 32 ∨ c = 9 ∨ c = 120
theorem portL_ok (p : Int) : ∀ c ∈ portL p, okC c := by
  intro c hc
  unfold portL at hc
  split at hc
  · rcases List.mem_cons.mp hc with rfl | hc
    · exact .inr (.inl rfl)
    · exact .inl (nd_digits _ c hc)
  · exact .inl (nd_digits _ c hc)
theorem plainL_ok (kind port : Int) : ∀ c ∈ plainL kind port, okC c := by
  intro c hc
  unfold plainL at hc
  have d := nd_digits port.natAbs
  have p := portL_ok port
  unfold okC
  split at hc
  · split at hc
    · rcases List.mem_append.mp hc with hc | hc
      · simp at hc; omega
      · exact .inl (d c hc)
    · rcases List.mem_append.mp hc with hc | hc
      · simp at hc; omega
      · exact .inl (d c hc)
  · split at hc
    · rcases List.mem_append.mp hc with hc | hc
      · rcases List.mem_append.mp hc with hc | hc
        · simp at hc; omega
        · exact p c hc
      · simp at hc; omega
    · split at hc
      · rcases List.mem_append.mp hc with hc | hc
        · exact p c hc
        · simp at hc; omega
      · exact p c hc
/-- what int() makes of it -/
theorem int_reads {x : PySem.Str} {neg : Bool} {ds : List Nat} (hx : ∀ c ∈ cp x, okC c) (hs : sign ((cp x).dropWhile blank) = (neg, ds ++ [9]) ∨ sign ((cp x).dropWhile blank) = (neg, ds)) (hd : AllDigits ds) (hne : ds ≠ []) (hl : x.length ≤ 640) :
    PySem.intText? x = some (if neg then -((digitsVal ds : Nat) : Int) else ((digitsVal ds : Nat) : Int)) := by
  have e1 : numTextOf x = cp x := by
    refine if_pos ?_
    rw [← Array.all_toList, List.all_eq_true]
    intro c hc
    have := hx c hc
    unfold okC at this
    exact decide_eq_true (by omega)
  have e2 : numSeenOf x = cp x := by
    show (numTextOf x).takeWhile _ = _
    rw [e1]
    refine takeWhile_all fun c hc => ?_
    have := hx c hc
    unfold okC at this
    exact bne_iff_ne.mpr (by omega)
  have ec : core (cp x) = ds := by
    unfold core
    rcases hs with hs | hs
    · rw [hs]
      simp only [List.reverse_append, List.reverse_singleton, List.singleton_append]
      rw [List.dropWhile_cons, if_pos (by decide), dropWhile_digits hd.reverse, List.reverse_reverse]
    · rw [hs, dropWhile_digits hd.reverse, List.reverse_reverse]
  have esn : (sign ((cp x).dropWhile blank)).1 = neg := by rcases hs with hs | hs <;> rw [hs]
  unfold PySem.intText?
  rw [e1, e2, if_pos (beq_self_eq_true _), ec, digits_of hd hne, esn]
  have hdl : ds.length ≤ 641 := by
    have h1 := core_length (cp x)
    rw [ec, cp_len] at h1
    omega
  show (if _ ≤ 4300 then some (worth neg _) else none) = _
  rw [if_pos (by rw [push_size]; simp; omega)]
  unfold worth digitsVal
  rw [push_foldl]
  rfl
theorem dW {c : Nat} {r : List Nat} (h : 48 ≤ c ∨ c = 45 ∨ c = 43) : (c :: r).dropWhile blank = c :: r := dropWhile_of (by omega)
theorem sign_dig {ds : List Nat} (hd : AllDigits ds) (hne : ds ≠ []) (r : List Nat) : sign (ds ++ r) = (false, ds ++ r) := by
  match ds, hne with
  | c :: t, _ =>
    have := hd.head
    exact sign_of (by omega) (by omega)
theorem dW_dig {ds : List Nat} (hd : AllDigits ds) (hne : ds ≠ []) (r : List Nat) : (ds ++ r).dropWhile blank = ds ++ r := by
  match ds, hne with
  | c :: t, _ => exact dW (.inl hd.head.1)
theorem digitsVal_zero (ds : List Nat) : digitsVal (48 :: ds) = digitsVal ds := rfl
theorem plain_int {kind port : Int} (hk : kind ≠ 4) (hl : (plainS kind port).length ≤ 640) : PySem.intText? (plainS kind port) = some port := by
  have hok : ∀ c ∈ cp (plainS kind port), okC c := by rw [cp_plain]; exact plainL_ok kind port
  have hd := nd_digits port.natAbs
  have hn := nd_ne port.natAbs
  have hv := nd_val port.natAbs
  have hp : ∀ (r : List Nat), sign ((portL port ++ r).dropWhile blank) = (decide (port < 0), nd port.natAbs ++ r) := by
    intro r
    unfold portL
    by_cases h : port < 0
    · rw [if_pos h, decide_eq_true h, List.cons_append, dW (.inr (.inl rfl))]; rfl
    · rw [if_neg h, decide_eq_false h, dW_dig hd hn, sign_dig hd hn]
  have fin : ∀ {neg : Bool} {ds : List Nat}, AllDigits ds → ds ≠ [] → digitsVal ds = port.natAbs → neg = decide (port < 0) → (sign ((cp (plainS kind port)).dropWhile blank) = (neg, ds ++ [9]) ∨ sign ((cp (plainS kind port)).dropWhile blank) = (neg, ds)) → PySem.intText? (plainS kind port) = some port := by
    intro neg ds h1 h2 h3 h4 h5
    rw [int_reads hok h5 h1 h2 hl, h3, h4]
    by_cases h : port < 0
    · rw [decide_eq_true h]; simp; omega
    · rw [decide_eq_false h]; simp; omega
  have d0 : AllDigits (48 :: nd port.natAbs) := List.forall_mem_cons.mpr ⟨by omega, hd⟩
  by_cases h1 : kind = 1
  · by_cases h : port < 0
    · refine fin (neg := true) (ds := 48 :: nd port.natAbs) d0 (by simp) (by rw [digitsVal_zero]; exact hv) (decide_eq_true h).symm (.inr ?_)
      rw [cp_plain]; unfold plainL; rw [if_pos h1, if_pos h]
      rfl
    · refine fin (neg := false) (ds := 48 :: 48 :: nd port.natAbs) (List.forall_mem_cons.mpr ⟨by omega, d0⟩) (by simp) (by rw [digitsVal_zero, digitsVal_zero]; exact hv) (decide_eq_false h).symm (.inr ?_)
      rw [cp_plain]; unfold plainL; rw [if_pos h1, if_neg h]
      rfl
  · by_cases h2 : kind = 2
    · refine fin (ds := nd port.natAbs) hd hn hv rfl (.inl ?_)
      rw [cp_plain]; unfold plainL; rw [if_neg h1, if_pos h2]
      rw [List.append_assoc, List.singleton_append, List.dropWhile_cons, if_pos (by decide)]
      exact hp [9]
    · refine fin (ds := nd port.natAbs) hd hn hv rfl (.inr ?_)
      rw [cp_plain]; unfold plainL; rw [if_neg h1, if_neg h2, if_neg hk]
      have := hp []
      rw [List.append_nil, List.append_nil] at this
      exact this
end Mine
end
section
open PySem PySem.W PyProof.Rows PySem.NumText PySem.Builtin PySem.Builtin.Str
set_option Elab.async false
set_option maxRecDepth 10000
namespace Mine
theorem plain_none {port : Int} (hl : (plainS 4 port).length ≤ 640) : PySem.intText? (plainS 4 port) = none := by
  have hok : ∀ c ∈ cp (plainS 4 port), okC c := by rw [cp_plain]; exact plainL_ok 4 port
  have e1 : numTextOf (plainS 4 port) = cp (plainS 4 port) := by
    refine if_pos ?_
    rw [← Array.all_toList, List.all_eq_true]
    intro c hc
    have := hok c hc
    unfold okC at this
    exact decide_eq_true (by omega)
  have e2 : numSeenOf (plainS 4 port) = cp (plainS 4 port) := by
    show (numTextOf (plainS 4 port)).takeWhile _ = _
    rw [e1]
    refine takeWhile_all fun c hc => ?_
    have := hok c hc
    unfold okC at this
    exact bne_iff_ne.mpr (by omega)
  have hd := nd_digits port.natAbs
  have hn := nd_ne port.natAbs
  have hs : (sign ((cp (plainS 4 port)).dropWhile blank)).2 = nd port.natAbs ++ [120] := by
    rw [cp_plain]
    show (sign ((portL port ++ [120]).dropWhile blank)).2 = _
    unfold portL
    by_cases h : port < 0
    · rw [if_pos h, List.cons_append, dW (.inr (.inl rfl))]; rfl
    · rw [if_neg h, dW_dig hd hn, sign_dig hd hn]
  have ec : core (cp (plainS 4 port)) = nd port.natAbs ++ [120] := by
    unfold core
    rw [hs, List.reverse_append, List.reverse_singleton, List.singleton_append, List.dropWhile_cons, if_neg (by decide), List.reverse_cons, List.reverse_reverse]
  have hx : digits? 10 (nd port.natAbs ++ [120]) = none := by
    unfold digits?
    rw [List.foldlM_append]
    have : ∀ st : Option (Array Nat × Bool), (st.bind fun s => [120].foldlM (NumText.step 10) s) = none := by
      intro st
      cases st with
      | none => rfl
      | some s =>
        show ([120].foldlM (NumText.step 10) s) = none
        rw [List.foldlM_cons]
        have : NumText.step 10 s 120 = none := by unfold NumText.step; rfl
        rw [this]; rfl
    show ((List.foldlM (NumText.step 10) (#[], false) (nd port.natAbs)).bind fun s => [120].foldlM (NumText.step 10) s).bind _ = none
    rw [this]; rfl
  unfold PySem.intText?
  rw [e1, e2, if_pos (beq_self_eq_true _), ec, hx]
/-- a text: signs, an opening bracket, signs -/
structure Cut1 (x : PySem.Str) (P F T : List Nat) : Prop where
  is : cp x = P ++ 40 :: (F ++ T)
  free : 40 ∉ P
section
variable {x : PySem.Str} {P F T : List Nat} (C : Cut1 x P F T)
include C
theorem Cut1.len : x.length = P.length + 1 + F.length + T.length := by
  rw [← cp_len, C.is]; simp; omega
theorem Cut1.getP {v : Nat} (h : v < P.length) : x.cps.getD v 0 ≠ 40 := by
  have e : x.cps.getD v 0 = P[v] := by
    rw [Array.getD_eq_getD_getElem?, ← Array.getElem?_toList, show x.cps.toList = _ from C.is, List.getElem?_append_left h, List.getElem?_eq_getElem h]
    rfl
  rw [e]
  intro h'
  exact C.free (h' ▸ List.getElem_mem h)
theorem Cut1.at0 : x.cps.getD P.length 0 = 40 := by
  rw [Array.getD_eq_getD_getElem?, ← Array.getElem?_toList, show x.cps.toList = _ from C.is]
  simp
theorem Cut1.getF {v : Nat} (h : v < F.length) : x.cps[P.length + 1 + v]? = some F[v] := by
  rw [← Array.getElem?_toList, show x.cps.toList = _ from C.is, List.getElem?_append_right (by omega)]
  rw [show P.length + 1 + v - P.length = v + 1 by omega, List.getElem?_cons_succ, List.getElem?_append_left h, List.getElem?_eq_getElem h]
theorem Cut1.find : Txt.find x ⟨#[40]⟩ = (P.length : Int) := by
  rw [find_is_find3]
  have hl := C.len
  rcases StrLaws.find3_spec x 40 0 with ⟨_, hn⟩ | ⟨k, h1, _, h3, h4, h5⟩
  · exact absurd C.at0 (hn _ (by simp [fromIndex]) (by omega))
  · rw [h1]
    have : k = P.length := by
      rcases Nat.lt_trichotomy k P.length with h | h | h
      · exact absurd h4 (C.getP h)
      · exact h
      · exact absurd C.at0 (h5 _ (by simp [fromIndex]) h)
    rw [this]
theorem Cut1.has : Txt.contains x ⟨#[40]⟩ = true := by
  unfold Txt.contains
  rw [empty_one, Bool.not_not, show x.cps.toList = _ from C.is]
  simp
theorem Cut1.item {v : Nat} (h : v < F.length) : Txt.item x ((P.length : Int) + 1 + v) = ⟨#[F[v]]⟩ := by
  refine PyProof.Rows.item_meets (by omega) ?_
  rw [show (((P.length : Int) + 1 + v)).toNat = P.length + 1 + v by omega]
  exact C.getF h
theorem Cut1.inner : Txt.slice x (some ((P.length : Int) + 1)) (some ((P.length : Int) + 1 + F.length)) = ⟨F.toArray⟩ := by
  apply cp_inj
  have hl := C.len
  have h := slice_ab x (a := P.length + 1) (b := P.length + 1 + F.length) (by omega) (by omega)
  rw [show (((P.length + 1 : Nat)) : Int) = (P.length : Int) + 1 by omega, show (((P.length + 1 + F.length : Nat)) : Int) = (P.length : Int) + 1 + F.length by omega] at h
  rw [h, C.is, show P.length + 1 + F.length - (P.length + 1) = F.length by omega]
  show _ = F
  rw [← List.drop_drop, List.drop_left, List.drop_succ_cons, List.drop_zero, List.take_left]
theorem Cut1.close (hF : 41 ∉ F) {B : List Nat} (hT : T = 41 :: B) : Txt.find3 x ⟨#[41]⟩ ((P.length : Int) + 1) = (P.length : Int) + 1 + F.length := by
  have hl := C.len
  have hfrom : fromIndex x.length ((P.length : Int) + 1) = P.length + 1 := by
    unfold fromIndex
    rw [if_neg (by omega)]
    omega
  have hat : x.cps.getD (P.length + 1 + F.length) 0 = 41 := by
    rw [Array.getD_eq_getD_getElem?, ← Array.getElem?_toList, show x.cps.toList = _ from C.is, List.getElem?_append_right (by omega), show P.length + 1 + F.length - P.length = F.length + 1 by omega, List.getElem?_cons_succ, hT]
    simp
  rcases StrLaws.find3_spec x 41 ((P.length : Int) + 1) with ⟨_, hn⟩ | ⟨k, h1, h2, h3, h4, h5⟩
  · exact absurd hat (hn _ (by omega) (by rw [hT] at hl; simp at hl; omega))
  · rw [h1]
    rw [hfrom] at h2
    have : k = P.length + 1 + F.length := by
      rcases Nat.lt_trichotomy k (P.length + 1 + F.length) with h | h | h
      · have e := C.getF (v := k - (P.length + 1)) (by omega)
        rw [show P.length + 1 + (k - (P.length + 1)) = k by omega] at e
        rw [Array.getD_eq_getD_getElem?, e] at h4
        exact absurd (h4 ▸ List.getElem_mem _) hF
      · exact h
      · exact absurd hat (h5 _ (by omega) h)
    omega
theorem Cut1.open_ (hF : 41 ∉ F) (hT : T = []) : Txt.find3 x ⟨#[41]⟩ ((P.length : Int) + 1) = -1 := by
  have hl := C.len
  have hfrom : fromIndex x.length ((P.length : Int) + 1) = P.length + 1 := by
    unfold fromIndex
    rw [if_neg (by omega)]
    omega
  rcases StrLaws.find3_spec x 41 ((P.length : Int) + 1) with ⟨h, _⟩ | ⟨k, h1, h2, h3, h4, h5⟩
  · exact h
  · exfalso
    rw [hfrom] at h2
    rw [hT] at hl
    simp at hl
    have e := C.getF (v := k - (P.length + 1)) (by omega)
    rw [show P.length + 1 + (k - (P.length + 1)) = k by omega] at e
    rw [Array.getD_eq_getD_getElem?, e] at h4
    exact hF (h4 ▸ List.getElem_mem _)
end
end Mine
end
section
open PySem PySem.W PyProof.Rows PySem.NumText PySem.Builtin PySem.Builtin.Str
set_option Elab.async false
set_option maxRecDepth 10000
namespace Mine
noncomputable def jl (c : Nat) : List (List Nat) → List Nat
  | [] => []
  | [p] => p
  | p :: q :: r => p ++ c :: jl c (q :: r)
theorem cp_join (c : Nat) : ∀ ps : List PySem.Str, cp (PySem.Str.join ⟨#[c]⟩ ps) = jl c (ps.map cp)
  | [] => rfl
  | [p] => rfl
  | p :: q :: r => by
    show cp (p ++ ⟨#[c]⟩ ++ PySem.Str.join ⟨#[c]⟩ (q :: r)) = _
    rw [cp_app, cp_app, cp_join c (q :: r), cp_one]
    simp [jl]
theorem first_same {c : Nat} : ∀ {p q A B : List Nat}, c ∉ p → c ∉ q → p ++ c :: A = q ++ c :: B → p = q ∧ A = B
  | [], [], _, _, _, _, h => ⟨rfl, (List.cons.inj h).2⟩
  | [], y :: q, _, _, _, h2, h => by
    have := (List.cons.inj h).1
    exact absurd (List.mem_cons.mpr (.inl this)) h2
  | x :: p, [], _, _, h1, _, h => by
    have := (List.cons.inj h).1
    exact absurd (List.mem_cons.mpr (.inl this.symm)) h1
  | x :: p, y :: q, A, B, h1, h2, h => by
    obtain ⟨e, h'⟩ := List.cons.inj h
    obtain ⟨e1, e2⟩ := first_same (fun hm => h1 (.tail _ hm)) (fun hm => h2 (.tail _ hm)) h'
    exact ⟨by rw [e, e1], e2⟩
theorem jl_inj {c : Nat} : ∀ {ps qs : List (List Nat)}, ps ≠ [] → qs ≠ [] → (∀ p ∈ ps, c ∉ p) → (∀ q ∈ qs, c ∉ q) → jl c ps = jl c qs → ps = qs
  | [], _, h, _, _, _, _ => absurd rfl h
  | _, [], _, h, _, _, _ => absurd rfl h
  | [p], [q], _, _, _, _, h => by simp only [jl] at h; rw [h]
  | [p], q :: q' :: r, _, _, h1, _, h => by
    simp only [jl] at h
    exact absurd (by rw [h]; simp) (h1 p (.head _))
  | p :: p' :: r, [q], _, _, _, h2, h => by
    simp only [jl] at h
    exact absurd (by rw [← h]; simp) (h2 q (.head _))
  | p :: p' :: r, q :: q' :: r', _, _, h1, h2, h => by
    simp only [jl] at h
    obtain ⟨e1, e2⟩ := first_same (h1 p (.head _)) (h2 q (.head _)) h
    have := jl_inj (ps := p' :: r) (qs := q' :: r') (by simp) (by simp) (fun p hp => h1 p (.tail _ hp)) (fun q hq => h2 q (.tail _ hq)) e2
    rw [e1, this]
theorem split_is {x : PySem.Str} {c : Nat} {ps : List (List Nat)} (hne : ps ≠ []) (hf : ∀ p ∈ ps, c ∉ p) (hj : jl c ps = cp x) : (Txt.split x ⟨#[c]⟩).map cp = ps := by
  refine jl_inj (c := c) ?_ hne (fun p hp => ?_) hf ?_
  · intro e
    have := split_pos x ⟨#[c]⟩
    rw [List.map_eq_nil_iff.mp e] at this
    simp at this
  · obtain ⟨q, hq, rfl⟩ := List.mem_map.mp hp
    exact StrLaws.split_free x c q hq
  · rw [← cp_join, StrLaws.join_split, hj]
/-- the marks -/
noncomputable def mk (odd sign : Int) : Nat := (cp (markS odd sign)).headD 0
theorem cp_mark (odd sign : Int) : cp (markS odd sign) = [mk odd sign] := rfl
theorem mark_eq (odd sign : Int) : markS odd sign = ⟨#[mk odd sign]⟩ := cp_inj (cp_mark odd sign)
noncomputable def tbl : PySem.Str := PySem.Str.ofString "()[]:,;+-*/|&<>=.%{}"
noncomputable def tokI (odd sign : Int) : Int := 7 + Txt.find tbl (markS odd sign)
noncomputable def MarkOk (odd sign : Int) : Prop := ¬ okC (mk odd sign) ∧ mk odd sign ≠ 41 ∧ mk odd sign ≠ 34 ∧ mk odd sign ≠ 92 ∧ mk odd sign < 128 ∧ Txt.contains tbl (markS odd sign) = true ∧ tokI odd sign % 2 = odd ∧ 7 ≤ tokI odd sign ∧ tokI odd sign ≤ 26
theorem mark_ok {odd sign : Int} (h1 : 0 ≤ odd) (h2 : odd < 2) (h3 : 0 ≤ sign) (h4 : sign < 8) : MarkOk odd sign := by
  unfold MarkOk okC
  have ho : odd = 0 ∨ odd = 1 := by omega
  have hs : sign = 0 ∨ sign = 1 ∨ sign = 2 ∨ sign = 3 ∨ sign = 4 ∨ sign = 5 ∨ sign = 6 ∨ sign = 7 := by omega
  rcases ho with rfl | rfl <;> rcases hs with rfl | rfl | rfl | rfl | rfl | rfl | rfl | rfl <;> decide +kernel
/-- the line's parts -/
noncomputable def codeL (kind : Int) : List Nat := if kind = 9 then [50, 50, 56, 32] else [50, 50, 57, 32]
theorem cp_code (kind : Int) : cp (codeS kind) = codeL kind := by
  unfold codeS codeL
  split <;> rfl
noncomputable def fieldsL (odd sign kind port : Int) : List Nat :=
  if kind = 3 then [mk odd sign, 55, mk odd sign, 120, mk odd sign] ++ plainL kind port ++ [mk odd sign]
  else if kind = 5 then [mk odd sign, mk odd sign, mk odd sign] ++ plainL kind port ++ [mk odd sign, 120]
  else if kind = 6 then [mk odd sign, mk odd sign, mk odd sign, mk odd sign] ++ plainL kind port ++ [mk odd sign]
  else if kind = 7 then [mk odd sign, mk odd sign] ++ plainL kind port ++ [mk odd sign]
  else if kind = 8 then [mk odd sign, mk odd sign, mk odd sign] ++ plainL kind port ++ [mk odd sign, mk odd sign]
  else [mk odd sign, mk odd sign, mk odd sign] ++ plainL kind port ++ [mk odd sign]
theorem cp_mul3 (odd sign : Int) : cp (Txt.mul (markS odd sign) 3) = [mk odd sign, mk odd sign, mk odd sign] := by
  rw [mark_eq]; rfl
theorem cp_fields0 (odd sign kind port : Int) : cp (fields0 odd sign kind port) = [mk odd sign, mk odd sign, mk odd sign] ++ plainL kind port ++ [mk odd sign] := by
  unfold fields0
  rw [cp_app, cp_app, cp_mul3, cp_plain, cp_mark]
theorem cp_fields (odd sign kind port : Int) : cp (fieldsS odd sign kind port) = fieldsL odd sign kind port := by
  unfold fieldsS fieldsL
  split
  · simp only [cp_app, cp_mark, cp_plain]
    have e1 : cp (PySem.Str.ofString "7") = [55] := rfl
    have e2 : cp (PySem.Str.ofString "x") = [120] := rfl
    rw [e1, e2]; simp
  · split
    · have e2 : cp (PySem.Str.ofString "x") = [120] := rfl
      rw [cp_app, cp_fields0, e2]; simp
    · split
      · rw [cp_app, cp_fields0, cp_mark]; simp
      · split
        · rw [slice_from1 _ (mk odd sign) ([mk odd sign, mk odd sign] ++ plainL kind port ++ [mk odd sign]) (by rw [cp_fields0]; rfl)]
        · split
          · rw [cp_app, cp_fields0, cp_mark]; simp
          · rw [cp_fields0]
noncomputable def tailL (kind dress : Int) : List Nat := if kind = 8 then [] else 41 :: cp (behindS dress)
noncomputable def headL (kind dress : Int) : List Nat := codeL kind ++ cp (aheadS dress)
theorem cp_line (odd sign kind dress port : Int) : cp (lineS odd sign kind dress port) = headL kind dress ++ 40 :: (fieldsL odd sign kind port ++ tailL kind dress) := by
  have e1 : cp (PySem.Str.ofString "(") = [40] := rfl
  have e2 : cp (PySem.Str.ofString ")") = [41] := rfl
  unfold lineS headL tailL
  split
  · simp only [cp_app, cp_code, cp_fields, e1]; simp
  · simp only [cp_app, cp_code, cp_fields, e1, e2]; simp
theorem head_free (kind dress : Int) : 40 ∉ headL kind dress ∧ 4 ≤ (headL kind dress).length := by
  unfold headL codeL aheadS
  (repeat' split) <;> decide
theorem cut_line (odd sign kind dress port : Int) : Cut1 (lineS odd sign kind dress port) (headL kind dress) (fieldsL odd sign kind port) (tailL kind dress) := ⟨cp_line .., (head_free kind dress).1⟩
theorem fields_mem {odd sign kind port : Int} {c : Nat} (h : c ∈ fieldsL odd sign kind port) : c = mk odd sign ∨ okC c := by
  have p := plainL_ok kind port
  unfold fieldsL at h
  have o55 : okC 55 := by unfold okC; omega
  have o120 : okC 120 := by unfold okC; omega
  (repeat' split at h) <;> simp only [List.mem_append, List.mem_cons, List.not_mem_nil, or_false] at h <;> (rcases h with (h | h) | h) <;> first
    | exact .inr (p c h)
    | exact .inl h
    | (rcases h with h | h | h | h | h <;> first | exact .inl h | (subst h; exact .inr (by assumption)))
    | (rcases h with h | h | h | h <;> first | exact .inl h | (subst h; exact .inr (by assumption)))
    | (rcases h with h | h | h <;> first | exact .inl h | (subst h; exact .inr (by assumption)))
    | (rcases h with h | h <;> first | exact .inl h | (subst h; exact .inr (by assumption)))
theorem fields_free {odd sign kind port : Int} (M : MarkOk odd sign) : 41 ∉ fieldsL odd sign kind port ∧ 34 ∉ fieldsL odd sign kind port := by
  constructor <;> intro h <;> rcases fields_mem h with h | h
  · exact M.2.1 h.symm
  · unfold okC at h; omega
  · exact M.2.2.1 h.symm
  · unfold okC at h; omega
end Mine
end
section
open PySem PySem.W PyProof.Rows PySem.NumText PySem.Builtin PySem.Builtin.Str
set_option Elab.async false
set_option maxRecDepth 10000
namespace Mine
/-- the text without what stands in quotes -/
noncomputable def bare (u : List Nat) : List Nat := strip u.length u
theorem bare_nil : bare [] = [] := rfl
theorem bare_cons (c : Nat) (t : List Nat) : bare (c :: t) = match (if c = 34 then closeQ t else none) with
    | some r => bare r
    | none => c :: bare t := by
  unfold bare
  rw [List.length_cons]
  show (match (if c = 34 then closeQ t else none) with | some r => strip t.length r | none => c :: strip t.length t) = _
  cases hq : (if c = 34 then closeQ t else none) with
  | none => rfl
  | some r => have := qlen hq; exact strip_fuel _ _ _ (by omega) (Nat.le_refl _)
theorem bare_other {c : Nat} (h : c ≠ 34) (t : List Nat) : bare (c :: t) = c :: bare t := by rw [bare_cons, if_neg h]
theorem bare_quote {t r : List Nat} (h : closeQ t = some r) : bare (34 :: t) = bare r := by rw [bare_cons, if_pos rfl, h]
theorem bare_skip : ∀ (m u : List Nat), 34 ∉ m → bare (m ++ u) = m ++ bare u
  | [], _, _ => rfl
  | c :: m, u, h => by
    rw [List.cons_append, bare_other (fun e => h (List.mem_cons.mpr (.inl e.symm))), bare_skip m u (fun hm => h (.tail _ hm))]
    rfl
theorem closeQ_other {c d : Nat} {t : List Nat} (h1 : c ≠ 34) (h2 : c ≠ 92) : closeQ (c :: d :: t) = closeQ (d :: t) := by
  rw [closeQ, if_neg h1, if_neg h2]
theorem closeQ_end {d : Nat} {t : List Nat} : closeQ (34 :: d :: t) = some (d :: t) := by rw [closeQ, if_pos rfl]
theorem closeQ_esc {d : Nat} {t : List Nat} (h : d ≠ 10) : closeQ (92 :: d :: t) = closeQ t := by rw [closeQ, if_neg (by decide), if_pos rfl, if_neg h]
/-- opening less closing brackets -/
noncomputable def dep (u : List Nat) : Int := (u.count 40 : Nat) - (u.count 41 : Nat)
theorem dep_app (u v : List Nat) : dep (u ++ v) = dep u + dep v := by unfold dep; rw [List.count_append, List.count_append]; omega
theorem head_bare (kind dress : Int) (c : Nat) (U : List Nat) : ∃ H, bare (headL kind dress ++ c :: U) = H ++ bare (c :: U) ∧ dep H = beforeI dress := by
  have hc : ∀ l : List Nat, codeL kind ++ l = (if kind = 9 then [50, 50, 56, 32] else [50, 50, 57, 32]) ++ l := fun _ => rfl
  have hcode : 34 ∉ codeL kind := by unfold codeL; split <;> decide
  have dcode : dep (codeL kind) = 0 := by unfold codeL; split <;> decide
  unfold headL
  rw [List.append_assoc, bare_skip _ _ hcode]
  unfold aheadS beforeI
  have q2 : cp (PySem.Str.ofString "\"\" \")\" ") = [34, 34, 32, 34, 41, 34, 32] := rfl
  have q3 : cp (PySem.Str.ofString "\"a\\\")\" ") = [34, 97, 92, 34, 41, 34, 32] := rfl
  have q0 : cp (PySem.Str.ofString "") = [] := rfl
  have q1 : cp (PySem.Str.ofString ")) ") = [41, 41, 32] := rfl
  have q4 : cp (PySem.Str.ofString ") ") = [41, 32] := rfl
  by_cases h0 : dress = 0
  · subst h0
    exact ⟨codeL kind, by simp [q0], by simpa using dcode⟩
  · by_cases h1 : dress = 1
    · subst h1
      refine ⟨codeL kind ++ [41, 41, 32], ?_, by rw [dep_app, dcode]; decide⟩
      simp only [if_neg (show ¬ (1 : Int) = 0 by decide), if_pos, q1]
      rw [bare_skip [41, 41, 32] _ (by decide)]; simp
    · by_cases h2 : dress = 2
      · subst h2
        refine ⟨codeL kind ++ [32, 32], ?_, by rw [dep_app, dcode]; decide⟩
        simp only [if_neg (show ¬ (2 : Int) = 0 by decide), if_neg (show ¬ (2 : Int) = 1 by decide), if_pos, q2]
        show codeL kind ++ bare (34 :: 34 :: 32 :: 34 :: 41 :: 34 :: 32 :: c :: U) = _
        rw [bare_quote closeQ_end, bare_other (by decide), bare_quote (r := 32 :: c :: U) (by rw [closeQ_other (by decide) (by decide), closeQ_end]), bare_other (by decide)]
        simp
      · by_cases h3 : dress = 3
        · subst h3
          refine ⟨codeL kind ++ [32], ?_, by rw [dep_app, dcode]; decide⟩
          simp only [if_neg (show ¬ (3 : Int) = 0 by decide), if_neg (show ¬ (3 : Int) = 1 by decide), if_neg (show ¬ (3 : Int) = 2 by decide), if_pos, q3]
          show codeL kind ++ bare (34 :: 97 :: 92 :: 34 :: 41 :: 34 :: 32 :: c :: U) = _
          rw [bare_quote (r := 32 :: c :: U) (by rw [closeQ_other (by decide) (by decide), closeQ_esc (by decide), closeQ_other (by decide) (by decide), closeQ_end]), bare_other (by decide)]
          simp
        · by_cases h4 : dress = 4
          · subst h4
            refine ⟨codeL kind ++ [41, 32], ?_, by rw [dep_app, dcode]; decide⟩
            simp only [if_neg (show ¬ (4 : Int) = 0 by decide), if_neg (show ¬ (4 : Int) = 1 by decide), if_neg (show ¬ (4 : Int) = 2 by decide), if_neg (show ¬ (4 : Int) = 3 by decide), if_pos, q4]
            rw [bare_skip [41, 32] _ (by decide)]; simp
          · refine ⟨codeL kind, ?_, ?_⟩
            · simp [h0, h1, h2, h3, h4, q0]
            · rw [dcode]; simp [h1, h4]
theorem tail_bare (kind dress : Int) (hd0 : 0 ≤ dress) (hd : dress < 6) : dep (bare (tailL kind dress)) = if kind = 8 then 0 else afterI dress - 1 := by
  unfold tailL
  by_cases hk : kind = 8
  · rw [if_pos hk, if_pos hk]; rfl
  · rw [if_neg hk, if_neg hk]
    have ho : dress = 0 ∨ dress = 1 ∨ dress = 2 ∨ dress = 3 ∨ dress = 4 ∨ dress = 5 := by omega
    rcases ho with rfl | rfl | rfl | rfl | rfl | rfl <;> decide +kernel
/-- how many opening brackets stand in the fields -/
noncomputable def cF (odd sign kind : Int) : Nat := (fieldsL odd sign kind 0).count 40
theorem plain_none40 (kind port : Int) : (plainL kind port).count 40 = 0 := by
  rw [List.count_eq_zero]
  intro h
  have := plainL_ok kind port 40 h
  unfold okC at this
  omega
theorem cF_is (odd sign kind port : Int) : (fieldsL odd sign kind port).count 40 = cF odd sign kind := by
  unfold cF fieldsL
  (repeat' split) <;> simp only [List.count_append, plain_none40]
theorem count_is40 (x : PySem.Str) : Txt.count x (PySem.Str.ofString "(") = (((cp x).count 40 : Nat) : Int) := by
  have e : PySem.Str.ofString "(" = ⟨#[40]⟩ := rfl
  rw [e, count_cnt]
  show cnt 40 (cp x) = _
  induction cp x with
  | nil => rfl
  | cons c l ih =>
    rw [cnt_cons, ih, List.count_cons]
    by_cases h : c = 40
    · rw [if_pos h, if_pos (by simpa using h)]; omega
    · rw [if_neg h, if_neg (by simpa using h)]; omega
theorem net_is (odd sign kind dress port : Int) : netI odd sign kind dress port = if kind = 8 then beforeI dress + cF odd sign kind + 1 else beforeI dress + cF odd sign kind + afterI dress := by
  unfold netI net0
  rw [count_is40, cp_fields, cF_is]
theorem net_port (odd sign kind dress port : Int) : netI odd sign kind dress port = netI odd sign kind dress 0 := by rw [net_is, net_is]
/-- the depth that is told of a line -/
theorem line_depth {odd sign kind dress port : Int} (M : MarkOk odd sign) (hd0 : 0 ≤ dress) (hd : dress < 6) : dep (bare (cp (lineS odd sign kind dress port))) = netI odd sign kind dress port := by
  obtain ⟨f41, f34⟩ := fields_free (kind := kind) (port := port) M
  rw [cp_line, net_is]
  obtain ⟨H, e, hH⟩ := head_bare kind dress 40 (fieldsL odd sign kind port ++ tailL kind dress)
  rw [e, bare_other (by decide), bare_skip _ _ f34, dep_app, hH]
  have h1 : ∀ u : List Nat, dep (40 :: u) = 1 + dep u := by
    intro u
    unfold dep
    rw [List.count_cons, List.count_cons]
    simp
    omega
  rw [h1, dep_app, tail_bare kind dress hd0 hd]
  have h2 : dep (fieldsL odd sign kind port) = cF odd sign kind := by
    unfold dep
    rw [cF_is, List.count_eq_zero.mpr f41]
    simp
  rw [h2]
  split <;> omega
end Mine
end
section
open PySem PySem.W PyProof.Rows PySem.NumText PySem.Builtin PySem.Builtin.Str
set_option Elab.async false
set_option maxRecDepth 10000
namespace Mine
noncomputable abbrev oB : PySem.Str := PySem.Str.ofString "("
noncomputable abbrev cB : PySem.Str := PySem.Str.ofString ")"
noncomputable abbrev s229 : PySem.Str := PySem.Str.ofString "229"
theorem oB_is : oB = ⟨#[40]⟩ := rfl
theorem cB_is : cB = ⟨#[41]⟩ := rfl
section
variable {odd sign kind dress port : Int}
theorem find_line : Txt.find (lineS odd sign kind dress port) oB = ((headL kind dress).length : Int) := (cut_line odd sign kind dress port).find
theorem close_line (M : MarkOk odd sign) (hk : kind ≠ 8) : Txt.find3 (lineS odd sign kind dress port) cB (Txt.find (lineS odd sign kind dress port) oB + 1) = ((headL kind dress).length : Int) + 1 + (fieldsL odd sign kind port).length := by
  rw [find_line]
  refine (cut_line odd sign kind dress port).close (fields_free M).1 (B := cp (behindS dress)) ?_
  unfold tailL
  rw [if_neg hk]
theorem open_line (M : MarkOk odd sign) (hk : kind = 8) : Txt.find3 (lineS odd sign kind dress port) cB (Txt.find (lineS odd sign kind dress port) oB + 1) = -1 := by
  rw [find_line]
  refine (cut_line odd sign kind dress port).open_ (fields_free M).1 ?_
  unfold tailL
  rw [if_pos hk]
theorem line_len : (lineS odd sign kind dress port).length = (headL kind dress).length + 1 + (fieldsL odd sign kind port).length + (tailL kind dress).length := (cut_line odd sign kind dress port).len
theorem code_slice : Txt.slice (lineS odd sign kind dress port) none (some 3) = ⟨((codeL kind).take 3).toArray⟩ := by
  apply cp_inj
  have hl := line_len (odd := odd) (sign := sign) (kind := kind) (dress := dress) (port := port)
  have hh := (head_free kind dress).2
  have h := slice_b (lineS odd sign kind dress port) (b := 3) (by omega)
  rw [show ((3 : Nat) : Int) = 3 from rfl] at h
  rw [h, cp_line]
  unfold headL codeL
  split <;> rfl
theorem code_ok (hk : kind ≠ 9) : (Txt.slice (lineS odd sign kind dress port) none (some 3) != s229) = false := by
  rw [code_slice]
  unfold codeL
  rw [if_neg hk]
  decide
theorem code_bad (hk : kind = 9) : (Txt.slice (lineS odd sign kind dress port) none (some 3) != s229) = true := by
  rw [code_slice]
  unfold codeL
  rw [if_pos hk]
  decide
theorem fields_head : ∃ t, fieldsL odd sign kind port = mk odd sign :: t := by
  unfold fieldsL
  (repeat' split) <;> exact ⟨_, rfl⟩
theorem item_first : Txt.item (lineS odd sign kind dress port) (Txt.find (lineS odd sign kind dress port) oB + 1) = markS odd sign := by
  obtain ⟨t, e⟩ := fields_head (odd := odd) (sign := sign) (kind := kind) (port := port)
  have C := cut_line odd sign kind dress port
  rw [e] at C
  have h := C.item (v := 0) (by simp)
  rw [find_line, mark_eq]
  simpa using h
theorem item_last (hne : (fieldsL odd sign kind port).length ≠ 0) : Txt.item (lineS odd sign kind dress port) (((headL kind dress).length : Int) + 1 + (fieldsL odd sign kind port).length - 1) = ⟨#[(fieldsL odd sign kind port).getLast (by intro e; rw [e] at hne; exact hne rfl)]⟩ := by
  have h := (cut_line odd sign kind dress port).item (v := (fieldsL odd sign kind port).length - 1) (by omega)
  rw [List.getLast_eq_getElem]
  rw [show ((headL kind dress).length : Int) + 1 + (fieldsL odd sign kind port).length - 1 = ((headL kind dress).length : Int) + 1 + (((fieldsL odd sign kind port).length - 1 : Nat) : Int) by omega]
  exact h
theorem inner_line (M : MarkOk odd sign) (hk : kind ≠ 8) : Txt.slice (lineS odd sign kind dress port) (some (Txt.find (lineS odd sign kind dress port) oB + 1)) (some (Txt.find3 (lineS odd sign kind dress port) cB (Txt.find (lineS odd sign kind dress port) oB + 1))) = ⟨(fieldsL odd sign kind port).toArray⟩ := by
  rw [close_line M hk, find_line]
  exact (cut_line odd sign kind dress port).inner
theorem mark_free (M : MarkOk odd sign) : mk odd sign ∉ plainL kind port := fun h => M.1 (plainL_ok kind port _ h)
/-- the parts between the marks -/
noncomputable def partsL (kind port : Int) : List (List Nat) :=
  if kind = 3 then [[], [55], [120], plainL kind port, []]
  else if kind = 5 then [[], [], [], plainL kind port, [120]]
  else if kind = 6 then [[], [], [], [], plainL kind port, []]
  else if kind = 7 then [[], [], plainL kind port, []]
  else if kind = 8 then [[], [], [], plainL kind port, [], []]
  else [[], [], [], plainL kind port, []]
theorem split_line (M : MarkOk odd sign) (hk : kind ≠ 8) : (Txt.split (Txt.slice (lineS odd sign kind dress port) (some (Txt.find (lineS odd sign kind dress port) oB + 1)) (some (Txt.find3 (lineS odd sign kind dress port) cB (Txt.find (lineS odd sign kind dress port) oB + 1)))) (Txt.item (lineS odd sign kind dress port) (Txt.find (lineS odd sign kind dress port) oB + 1))).map cp = partsL kind port := by
  rw [inner_line M hk, item_first, mark_eq]
  have hm := mark_free (kind := kind) (port := port) M
  have h7 : mk odd sign ≠ 55 := fun e => M.1 (by rw [e]; unfold okC; omega)
  have hx : mk odd sign ≠ 120 := fun e => M.1 (by rw [e]; unfold okC; omega)
  have e0 : mk odd sign ∉ ([] : List Nat) := by simp
  have e1 : mk odd sign ∉ [55] := by simpa using h7
  have e2 : mk odd sign ∉ [120] := by simpa using hx
  refine split_is (by unfold partsL; (repeat' split) <;> simp) ?_ ?_
  · unfold partsL
    (repeat' split) <;> (intro p hp; simp only [List.mem_cons, List.not_mem_nil, or_false] at hp; first
      | (rcases hp with rfl | rfl | rfl | rfl | rfl | rfl <;> assumption)
      | (rcases hp with rfl | rfl | rfl | rfl | rfl <;> assumption)
      | (rcases hp with rfl | rfl | rfl | rfl <;> assumption))
  · show jl (mk odd sign) (partsL kind port) = fieldsL odd sign kind port
    unfold partsL fieldsL
    (repeat' split) <;> simp [jl]
end
end Mine
end
section
open PySem PySem.W PyProof.Rows PySem.Calls PySem.Builtin
set_option Elab.async false
set_option maxRecDepth 100000
namespace Mine
open Builtin._codecs
section
variable {prog : Program} {w : World} {M : Model} {A : Around} {E : Value → Shared → Prop} {s : Shared}
theorem ascii_good {c : Nat} (h : c < 128) : utf8Codec.bad c = false := by
  show (decide (0xD800 ≤ c) && decide (c ≤ 0xDFFF)) = false
  rw [decide_eq_false (by omega)]; rfl
theorem ascii_one {c : Nat} (h : c < 128) : utf8Codec.bytesOf c = [c.toUInt8] := by
  show PySem.Str.utf8Of c = _
  unfold PySem.Str.utf8Of
  rw [if_pos h]
theorem no_bad {l : List Nat} (ha : ∀ c ∈ l, c < 128) : (l.toArray).findIdx? utf8Codec.bad = none := by
  rw [Array.findIdx?_eq_none_iff]
  intro c hc
  exact ascii_good (ha c (by simpa using hc))
theorem fold_bytes {l : List Nat} (ha : ∀ c ∈ l, c < 128) : ∀ acc : Array UInt8, (l.foldl (fun acc y => acc ++ (utf8Codec.bytesOf y).toArray) acc).toList = acc.toList ++ l.map (·.toUInt8) := by
  induction l with
  | nil => intro acc; simp
  | cons c l ih =>
    intro acc
    rw [List.foldl_cons, ih (fun d hd => ha d (.tail _ hd)), ascii_one (ha c (.head _))]
    simp
theorem enc_narrow {id : String} {self : Value} {x : PySem.Str} {Q : Array UInt8 → Shared → Prop} (h2 : 2 ≤ x.length) (hz : x.length ≤ 1000) (ha : ∀ c ∈ cp x, c < 128) (h : ∀ b : Array UInt8, b.toList = (cp x).map (·.toUInt8) → Q b s) :
    wpAny M A (encodeNarrow id utf8Codec none self x) Q E s := by
  unfold encodeNarrow
  dsimp only
  obtain ⟨n, hn⟩ : ∃ n, x.length = n + 2 := ⟨x.length - 2, by omega⟩
  rw [hn]
  show wpAny M A (forIn [:n + 2] _ _ >>= fun r => _) _ _ _
  rw [KPc.range_list]
  show wpAny M A (forIn (0 :: 1 :: List.range' 2 n 1) _ _ >>= fun r => _) _ _ _
  refine wpAny_bind (KPc.turn ?_)
  have hcp : x.cps = (cp x).toArray := by simp [cp]
  have hxs : x.cps.size = n + 2 := hn
  have hex : x.cps.extract 0 x.cps.size = x.cps := by simp
  have hnb : x.cps.findIdx? utf8Codec.bad = none := by rw [hcp]; exact no_bad ha
  refine ifF (by simp) ?_
  split
  · rename_i c hc
    have hc' : x.cps[0]? = some c := hc
    have hm : c ∈ cp x := by
      rw [← Array.getElem?_toList] at hc'
      exact List.mem_of_getElem? hc'
    refine ifT (by rw [ascii_good (ha c hm)]; rfl) ?_
    refine wpAny_pure ?_
    dsimp only
    rw [hex, hnb, Option.getD_none, hex]
    refine KPc.turn ?_
    dsimp only
    have hfold := fold_bytes (l := cp x) ha #[]
    have hfa : Array.foldl (fun acc y => acc ++ (utf8Codec.bytesOf y).toArray) (#[] : Array UInt8) x.cps = (cp x).foldl (fun acc y => acc ++ (utf8Codec.bytesOf y).toArray) #[] := by
      rw [← Array.foldl_toList]
    rw [hfa]
    generalize (cp x).foldl (fun acc y => acc ++ (utf8Codec.bytesOf y).toArray) (#[] : Array UInt8) = b at hfold ⊢
    have hbs : b.size ≤ 1000 := by
      have := congrArg List.length hfold
      simp at this
      have h3 := cp_len x
      omega
    refine ifF (by rw [sizeLine_eq]; omega) ?_
    split
    · rename_i c2 hc2
      rw [Array.getElem?_eq_none (by omega)] at hc2
      cases hc2
    · exact wpAny_pure (wpAny_pure (h b (by rw [hfold]; simp)))
  · rename_i hc
    exfalso
    have h0 : 0 < x.cps.size := by omega
    have e := Array.getElem?_eq_getElem h0
    exact hc _ e
theorem call_encode {x : PySem.Str} {t : Tok} {Q : Value → Shared → Prop} (h2 : 2 ≤ x.length) (hz : x.length ≤ 1000) (ha : ∀ c ∈ cp x, c < 128) (h : ∀ b t' tk, b.toList = (cp x).map (·.toUInt8) → Q (.bytes b t') { s with toks := tk }) :
    wpAny (model prog w) A (call (.builtin "str.encode") [.str x t]) Q E s := by
  refine wpAny_call_entry PySem.F.slot_str_encode (typeIs_str s x t) PySem.F.entry_str_encode ?_ (PySem.F.args_str_encode_1 _)
  rw [encode_tree, encodeRoad_utf8]
  refine wpAny_bind (wpAny_bind (enc_narrow h2 hz ha fun b hb => ?_))
  have hbs : b.size ≤ 1000 := by
    have := congrArg List.length hb
    simp at this
    have h3 := cp_len x
    have h4 : x.cps.size ≤ 1000 := hz
    omega
  exact wpAny_mkBytes (wpAny_pure ⟨_, rfl, h b _ _ hb⟩) (by rw [sizeLine_eq]; omega)
theorem method_encode {x : PySem.Str} {t : Tok} {pl : Sem Bool} {Q : Value × List Value → Shared → Prop} (h : Q (.builtin "str.encode", [.str x t]) s) : wpAny (model prog w) A (getMethod (.str x t) "encode" pl) Q E s :=
  getMethod_builtin (typeIs_str s x t) PySem.F.plainAttrs_str PySem.F.slot_str_encode PySem.F.type_str_encode (fun _ e => nomatch e) h
end
end Mine
end
section
open PySem PySem.W PyProof.Rows PySem.NumText PySem.Builtin PySem.Builtin.Str
set_option Elab.async false
set_option maxRecDepth 100000
namespace Mine
theorem last1 (a m : Nat) (p : List Nat) : (a :: (p ++ [m])).getLast? = some m := by rw [← List.cons_append, List.getLast?_concat]
theorem last2 (a m n : Nat) (p : List Nat) : (a :: (p ++ [m, n])).getLast? = some n := by
  rw [show p ++ [m, n] = p ++ [m] ++ [n] by simp, ← List.cons_append, List.getLast?_concat]
/-- a line of the law's, its numbers in bounds -/
structure LineOk (odd sign kind dress port : Int) : Prop where
  o0 : 0 ≤ odd
  o1 : odd < 2
  s0 : 0 ≤ sign
  s1 : sign < 8
  k0 : 0 ≤ kind
  k1 : kind < 10
  d0 : 0 ≤ dress
  d1 : dress < 6
  hp : port.natAbs < 10 ^ 21
theorem LineOk.mark {odd sign kind dress port : Int} (K : LineOk odd sign kind dress port) : MarkOk odd sign := mark_ok K.o0 K.o1 K.s0 K.s1
section
variable {odd sign kind dress port : Int}
theorem LineOk.len (K : LineOk odd sign kind dress port) : (lineS odd sign kind dress port).length < 600 := Nat.lt_of_le_of_lt (len_line odd sign kind dress port K.hp) (by decide)
theorem LineOk.hB : ¬ Txt.find (lineS odd sign kind dress port) oB < 0 := by rw [find_line]; omega
theorem LineOk.hC (K : LineOk odd sign kind dress port) (hk : kind ≠ 8) : ¬ Txt.find3 (lineS odd sign kind dress port) cB (Txt.find (lineS odd sign kind dress port) oB + 1) < 0 := by rw [close_line K.mark hk]; omega
theorem LineOk.ne : (fieldsL odd sign kind port).length ≠ 0 := by
  obtain ⟨t, e⟩ := fields_head (odd := odd) (sign := sign) (kind := kind) (port := port)
  rw [e]; simp
theorem LineOk.hD (K : LineOk odd sign kind dress port) (hk : kind ≠ 8) : Txt.find (lineS odd sign kind dress port) oB + 1 < Txt.find3 (lineS odd sign kind dress port) cB (Txt.find (lineS odd sign kind dress port) oB + 1) := by
  rw [close_line K.mark hk, find_line]
  have := LineOk.ne (odd := odd) (sign := sign) (kind := kind) (port := port)
  omega
theorem LineOk.hE (K : LineOk odd sign kind dress port) (hk : kind ≠ 8) : Txt.find3 (lineS odd sign kind dress port) cB (Txt.find (lineS odd sign kind dress port) oB + 1) < (lineS odd sign kind dress port).length := by
  rw [close_line K.mark hk, line_len]
  have : (tailL kind dress).length ≠ 0 := by unfold tailL; rw [if_neg hk]; simp
  omega
theorem LineOk.last (K : LineOk odd sign kind dress port) (hk : kind ≠ 8) : Txt.item (lineS odd sign kind dress port) (Txt.find3 (lineS odd sign kind dress port) cB (Txt.find (lineS odd sign kind dress port) oB + 1) - 1) = if kind = 5 then ⟨#[120]⟩ else ⟨#[Mine.mk odd sign]⟩ := by
  rw [close_line K.mark hk, item_last LineOk.ne]
  have e : (fieldsL odd sign kind port).getLast (by intro e; exact LineOk.ne (by rw [e]; rfl)) = if kind = 5 then 120 else Mine.mk odd sign := by
    have : (fieldsL odd sign kind port).getLast? = some (if kind = 5 then 120 else Mine.mk odd sign) := by
      unfold fieldsL
      by_cases h3 : kind = 3
      · simp [h3, last1]
      · by_cases h5 : kind = 5
        · simp [h5, last2]
        · by_cases h6 : kind = 6
          · simp [h6, last1]
          · by_cases h7 : kind = 7
            · simp [h7, last1]
            · simp [h3, h5, h6, h7, hk, last1]
    rw [List.getLast?_eq_some_getLast (by intro e; exact LineOk.ne (by rw [e]; rfl))] at this
    exact Option.some.inj this
  rw [e]
  split <;> rfl
theorem LineOk.hG (K : LineOk odd sign kind dress port) (hk : kind ≠ 8) (h5 : kind ≠ 5) : (Txt.item (lineS odd sign kind dress port) (Txt.find (lineS odd sign kind dress port) oB + 1) != Txt.item (lineS odd sign kind dress port) (Txt.find3 (lineS odd sign kind dress port) cB (Txt.find (lineS odd sign kind dress port) oB + 1) - 1)) = false := by
  rw [item_first, K.last hk, if_neg h5, mark_eq]
  simp
theorem LineOk.hG5 (K : LineOk odd sign kind dress port) (h5 : kind = 5) : (Txt.item (lineS odd sign kind dress port) (Txt.find (lineS odd sign kind dress port) oB + 1) != Txt.item (lineS odd sign kind dress port) (Txt.find3 (lineS odd sign kind dress port) cB (Txt.find (lineS odd sign kind dress port) oB + 1) - 1)) = true := by
  rw [item_first, K.last (by omega), if_pos h5, mark_eq]
  have hx : Mine.mk odd sign ≠ 120 := fun e => K.mark.1 (by rw [e]; unfold okC; omega)
  rw [bne_iff_ne]
  intro h
  have := congrArg cp h
  rw [cp_one, cp_one] at this
  exact hx (List.cons.inj this).1
theorem LineOk.parts (K : LineOk odd sign kind dress port) (hk : kind ≠ 8) (n : Nat) (hn : (partsL kind port).length = n) : (Txt.split (Txt.slice (lineS odd sign kind dress port) (some (Txt.find (lineS odd sign kind dress port) oB + 1)) (some (Txt.find3 (lineS odd sign kind dress port) cB (Txt.find (lineS odd sign kind dress port) oB + 1)))) (Txt.item (lineS odd sign kind dress port) (Txt.find (lineS odd sign kind dress port) oB + 1))).length = n := by
  rw [← hn, ← split_line (dress := dress) K.mark hk, List.length_map]
theorem LineOk.third (K : LineOk odd sign kind dress port) (h5 : kind < 5) : (Txt.split (Txt.slice (lineS odd sign kind dress port) (some (Txt.find (lineS odd sign kind dress port) oB + 1)) (some (Txt.find3 (lineS odd sign kind dress port) cB (Txt.find (lineS odd sign kind dress port) oB + 1)))) (Txt.item (lineS odd sign kind dress port) (Txt.find (lineS odd sign kind dress port) oB + 1)))[3]? = some (plainS kind port) := by
  have h := congrArg (fun l => l[3]?) (split_line (odd := odd) (sign := sign) (kind := kind) (dress := dress) (port := port) K.mark (by omega))
  simp only [List.getElem?_map] at h
  have e : (partsL kind port)[3]? = some (plainL kind port) := by
    unfold partsL
    (repeat' split) <;> first | rfl | (exfalso; omega)
  rw [e] at h
  obtain ⟨z, hz, hc⟩ := Option.map_eq_some_iff.mp h
  rw [hz]
  congr 1
  exact cp_inj (by rw [hc, cp_plain])
theorem LineOk.plain (K : LineOk odd sign kind dress port) : (plainS kind port).length ≤ 640 := Nat.le_trans (len_plain kind port K.hp) (by decide)
theorem plain_repr (K : LineOk odd sign kind dress port) : (reprText (plainS kind port)).length ≤ 16384 := by
  have h := StrLaws.reprText_len (plainS kind port) (fun c hc => by
    have := plainL_ok kind port c (by rw [← cp_plain]; exact hc)
    unfold okC at this
    omega)
  have := len_plain kind port K.hp
  omega
/-- the word with which a spoiled line is refused -/
noncomputable def badW (kind : Int) : PySem.Str := if kind = 4 then PySem.Str.ofString "value" else if kind = 9 then PySem.Str.ofString "reply" else PySem.Str.ofString "proto"
theorem told_good (w : World) (y : PySem.Str) (t1 t2 : Tok) (K : LineOk odd sign kind dress port) (hk : kind < 4) :
  At1 w fun cn cs a ccd h₀ L m news s => ∀ (Q E : Value → Shared → Prop),
    (∀ l u h' tk', Fr h₀ L h' m → News h₀ L h' ((l, ({ cls := .type "tuple", data := .seq #[.str y t2, .int port u] } : Obj)) :: news) → Q (.ref l) { s with heap := h', toks := tk' }) →
    wpC (model PG w) (callerA.deeper (envOf cn cs L a ccd)) (call (.ref 147) [.str (lineS odd sign kind dress port) t1, .str y t2]) Q E s := by
  intro cn cns cg cc cmo a ccd h₀ L m mg mb mean news s B F X N T Q E hret
  have h8 : kind ≠ 8 := by omega
  have hp5 : (partsL kind port).length = 5 := by unfold partsL; (repeat' split) <;> first | rfl | (exfalso; omega)
  exact wpC_of_any (told_ok w _ y (plainS kind port) port t1 t2 K.len (code_ok (by omega)) LineOk.hB (K.hC h8) (K.hD h8) (K.hE h8) (K.hG h8 (by omega)) (K.parts h8 5 hp5) (K.third (by omega)) K.plain (plain_int (by omega) K.plain) cn cns cg cc cmo a ccd h₀ L m mg mb mean news s B F X N T Q E hret)
theorem told_bad (w : World) (y : PySem.Str) (t1 t2 : Tok) (K : LineOk odd sign kind dress port) (hk : 4 ≤ kind) :
  At1 w fun cn cs a ccd h₀ L m news s => ∀ (Q E : Value → Shared → Prop),
    (∀ l u h' tk', Fr h₀ L h' m → News h₀ L h' ((l, W.listOf #[.str (badW kind) u, .str (lineS odd sign kind dress port) t1] 0) :: news) → Q (.ref l) { s with heap := h', toks := tk' }) →
    wpC (model PG w) (callerA.deeper (envOf cn cs L a ccd)) (call (.ref 147) [.str (lineS odd sign kind dress port) t1, .str y t2]) Q E s := by
  intro cn cns cg cc cmo a ccd h₀ L m mg mb mean news s B F X N T Q E hret
  have hk' : kind = 4 ∨ kind = 5 ∨ kind = 6 ∨ kind = 7 ∨ kind = 8 ∨ kind = 9 := by have := K.k1; omega
  rcases hk' with rfl | rfl | rfl | rfl | rfl | rfl
  · exact told_value w _ y (plainS 4 port) t1 t2 K.len (code_ok (by decide)) LineOk.hB (K.hC (by decide)) (K.hD (by decide)) (K.hE (by decide)) (K.hG (by decide) (by decide)) (K.parts (by decide) 5 rfl) (K.third (by decide)) K.plain (plain_none K.plain) (plain_repr K) cn cns cg cc cmo a ccd h₀ L m mg mb mean news s B F X N T Q E hret
  · exact wpC_of_any (told_proto w _ y t1 t2 K.len (code_ok (by decide)) (fun _ _ => ⟨K.hD (by decide), K.hE (by decide)⟩) (.inr (.inr (.inl (K.hG5 rfl)))) cn cns cg cc cmo a ccd h₀ L m mg mb mean news s B F X N T Q E hret)
  · exact wpC_of_any (told_proto w _ y t1 t2 K.len (code_ok (by decide)) (fun _ _ => ⟨K.hD (by decide), K.hE (by decide)⟩) (.inr (.inr (.inr (by rw [K.parts (by decide) 6 rfl]; decide)))) cn cns cg cc cmo a ccd h₀ L m mg mb mean news s B F X N T Q E hret)
  · exact wpC_of_any (told_proto w _ y t1 t2 K.len (code_ok (by decide)) (fun _ _ => ⟨K.hD (by decide), K.hE (by decide)⟩) (.inr (.inr (.inr (by rw [K.parts (by decide) 4 rfl]; decide)))) cn cns cg cc cmo a ccd h₀ L m mg mb mean news s B F X N T Q E hret)
  · exact wpC_of_any (told_proto w _ y t1 t2 K.len (code_ok (by decide)) (fun _ h => absurd (by rw [open_line K.mark rfl]; decide) h) (.inr (.inl (by rw [open_line K.mark rfl]; decide))) cn cns cg cc cmo a ccd h₀ L m mg mb mean news s B F X N T Q E hret)
  · exact wpC_of_any (told_reply w _ y t1 t2 K.len (code_bad rfl) cn cns cg cc cmo a ccd h₀ L m mg mb mean news s B F X N T Q E hret)
/-- a line with a nought in its code -/
noncomputable def otherS (x : PySem.Str) (j : Int) : PySem.Str := Txt.slice x none (some j) ++ PySem.Str.ofString "0" ++ Txt.slice x (some (j + 1)) none
theorem other_bad {j : Int} (h0 : 0 ≤ j) (h1 : j < 3) : (Txt.slice (otherS (lineS odd sign kind dress port) j) none (some 3) != s229) = true := by
  have hl := line_len (odd := odd) (sign := sign) (kind := kind) (dress := dress) (port := port)
  have hh := (head_free kind dress).2
  have hj : j = 0 ∨ j = 1 ∨ j = 2 := by omega
  obtain ⟨c, r, hc⟩ : ∃ c r, cp (lineS odd sign kind dress port) = 50 :: 50 :: c :: r := by
    rw [cp_line]; unfold headL codeL; split <;> exact ⟨_, _, rfl⟩
  have e0 : cp (PySem.Str.ofString "0") = [48] := rfl
  have key : ∀ k : Nat, k < 3 → ((Txt.slice (otherS (lineS odd sign kind dress port) (k : Int)) none (some 3)) = ⟨(((50 :: 50 :: c :: r).take k ++ [48] ++ (50 :: 50 :: c :: r).drop (k + 1)).take 3).toArray⟩) := by
    intro k hk
    have hco : cp (otherS (lineS odd sign kind dress port) (k : Int)) = (50 :: 50 :: c :: r).take k ++ [48] ++ (50 :: 50 :: c :: r).drop (k + 1) := by
      unfold otherS
      rw [cp_app, cp_app, e0, slice_b _ (by omega), show ((k : Int) + 1) = ((k + 1 : Nat) : Int) by omega, slice_a _ (by omega), hc]
    have hlo : 3 ≤ (otherS (lineS odd sign kind dress port) (k : Int)).length := by
      rw [← cp_len, hco]; simp; omega
    apply cp_inj
    have h := slice_b (otherS (lineS odd sign kind dress port) (k : Int)) (b := 3) hlo
    rw [show ((3 : Nat) : Int) = 3 from rfl] at h
    rw [h, hco]
  have ne : ∀ l : List Nat, l ≠ [50, 50, 57] → ((⟨l.toArray⟩ : PySem.Str) != s229) = true := by
    intro l hl
    rw [bne_iff_ne]
    intro h
    have := congrArg cp h
    exact hl this
  rcases hj with rfl | rfl | rfl
  · have := key 0 (by decide); rw [show ((0 : Nat) : Int) = 0 from rfl] at this; rw [this]; exact ne _ (by simp)
  · have := key 1 (by decide); rw [show ((1 : Nat) : Int) = 1 from rfl] at this; rw [this]; exact ne _ (by simp)
  · have := key 2 (by decide); rw [show ((2 : Nat) : Int) = 2 from rfl] at this; rw [this]; exact ne _ (by simp)
theorem other_len (K : LineOk odd sign kind dress port) (j : Int) : (otherS (lineS odd sign kind dress port) j).length < 600 := by
  unfold otherS
  have h1 := Txt.slice_le (lineS odd sign kind dress port) none (some j)
  have h2 := Txt.slice_le (lineS odd sign kind dress port) (some (j + 1)) none
  have h3 := len_line odd sign kind dress port K.hp
  have e : (PySem.Str.ofString "0").length = 1 := rfl
  rw [PySem.Str.length_append, PySem.Str.length_append, e]
  omega
end
end Mine
end
section
open PySem PySem.W PyProof.Rows
set_option Elab.async false
set_option maxRecDepth 100000
set_option maxHeartbeats 8000000
namespace Mine

local macro_rules | `(tactic| k_all) => `(tactic| assumption)
theorem pow20 {prog : Program} {w : World} {A : Around} {E : Value → Shared → Prop} {s : Shared} {t u : Tok} {Q : Value → Shared → Prop} (h : Q (.int 100000000000000000000 s.toks) { s with toks := s.toks + 1 }) : wpAny (model prog w) A (binaryOp .Pow (.int 10 t) (.int 20 u)) Q E s :=
  pow_int_small (by decide) (by decide) (by decide) h
local macro_rules | `(tactic| mul_fits) => `(tactic| k_extra "my mul")

noncomputable def pwI (odd sign kind dress port : Int) : Int := if kind < 4 then netI odd sign kind dress port + port else if kind = 4 then netI odd sign kind dress port else netI odd sign kind dress port + tokI odd sign
/-- a line of the law's, its numbers in bounds -/
structure LineOk' (odd sign kind dress port : Int) : Prop where
  o0 : 0 ≤ odd
  o1 : odd < 2
  s0 : 0 ≤ sign
  s1 : sign < 8
  k0 : 0 ≤ kind
  k1 : kind < 10
  d0 : 0 ≤ dress
  d1 : dress < 6
  hp : port.natAbs < 10 ^ 21
noncomputable def GoodB (b : Nat) (x : W4) : Prop := ∃ sign dress port, LineOk' x.odd sign x.kind dress port ∧ x.line = lineS x.odd sign x.kind dress port ∧ x.power = pwI x.odd sign x.kind dress port ∧ x.power.natAbs ≤ b
noncomputable abbrev GoodL (x : W4) : Prop := GoodB (10 ^ 20 + 300) x
noncomputable abbrev GoodF (x : W4) : Prop := GoodB (10 ^ 20 + 200) x
theorem mod_lo (x k : Int) (hk : 0 < k) : 0 ≤ Int.fmod x k := by rw [Int.fmod_eq_emod_of_nonneg _ (by omega)]; exact Int.emod_nonneg _ (by omega)
theorem mod_hi (x k : Int) (hk : 0 < k) : Int.fmod x k < k := by rw [Int.fmod_eq_emod_of_nonneg _ (by omega)]; exact Int.emod_lt_of_pos _ hk
theorem index_in {prog : Program} {w : World} {A : Around} {E : Value → Shared → Prop} {s : Shared} {x y : PySem.Str} {t u : Tok} {Q : Value → Shared → Prop} (hc : Txt.contains x y = true) (h : Q (.int (Txt.find x y) s.toks) { s with toks := s.toks + 1 }) :
    wpAny (model prog w) A (call (.builtin "str.index") [.str x t, .str y u]) Q E s := by
  unfold Txt.contains at hc
  unfold Txt.find at h
  cases ho : Builtin.Str.occurrences x y 0 x.length 1 with
  | nil => rw [ho] at hc; simp at hc
  | cons i rest => rw [ho] at h; exact SC.index ho h
theorem item_is {prog : Program} {w : World} {A : Around} {E : Value → Shared → Prop} {s : Shared} {value slice : PySem.Expr} {x y : PySem.Str} {i : Int} {t u : Tok} {Q : Value → Shared → Prop} (hx : Txt.item x i = y) (h0 : 0 ≤ i) (h1 : i < (x.length : Int)) (hn : x.length ≤ 1000) (h : Q (.str y s.toks) { s with toks := s.toks + 1 })
    (hs : subscripted slice false (.str x t) (.int i u) = operate [.str x t, .int i u] (getItem (.str x t) (.int i u)) := by with_unfolding_all rfl)
    (ht : ∀ r, letTemporaryGo value (.str x t) r = pure () := by intro _; with_unfolding_all rfl) :
    wpAny (model prog w) A (subscriptTail value slice (.str x t) (.int i u)) Q E s :=
  KXi.item (n := x.length) rfl (by omega) h1 (by omega) (fun _ => by rw [hx]; exact h) hs ht
theorem net_bound {odd sign kind dress port : Int} (hp : port.natAbs < 10 ^ 21) : (netI odd sign kind dress port).natAbs ≤ 100 := by
  have h1 := len_fields odd sign kind port hp
  have h2 : cF odd sign kind ≤ 40 := by
    rw [← cF_is odd sign kind port]
    have h3 := cp_len (fieldsS odd sign kind port)
    rw [cp_fields] at h3
    exact Nat.le_trans List.count_le_length (by omega)
  rw [net_is]
  have h4 : -2 ≤ beforeI dress ∧ beforeI dress ≤ 0 := by unfold beforeI; (repeat' split) <;> omega
  have h5 : 0 ≤ afterI dress ∧ afterI dress ≤ 3 := by unfold afterI; (repeat' split) <;> omega
  split <;> omega
theorem pw_bound {odd sign kind dress port : Int} (M : MarkOk odd sign) (hp : port.natAbs ≤ 10 ^ 20) : (pwI odd sign kind dress port).natAbs ≤ 10 ^ 20 + 200 := by
  have h := net_bound (odd := odd) (sign := sign) (kind := kind) (dress := dress) (port := port) (by omega)
  have h1 := M.2.2.2.2.2.2.2.1
  have h2 := M.2.2.2.2.2.2.2.2
  unfold pwI
  (repeat' split) <;> omega
theorem word_law (w : World) (dc : Addr) (c0 c1 c2 c3 c4 : Int) (u0 u1 u2 u3 u4 : Tok) (t1 : Tok) :
  AtN w 120 200 fun A h₀ L m news st => ∀ (Q E : Value → Shared → Prop), (dc, listOf [.int c0 u0, .int c1 u1, .int c2 u2, .int c3 u3, .int c4 u4].toArray 0) ∈ news →
    (∀ d its n ws h' tk' news', Fr h₀ L h' m → News h₀ L h' news' → (∀ p ∈ news, p ∈ news') → (d, listOf its n) ∈ news' → Tells4 news' its.toList ws → (∀ x ∈ ws, GoodL x) → ws.length ≤ 10 → Q (.ref d) { st with heap := h', toks := tk' }) →
    wpAny (model PG w) A (call (.ref 133) [.ref dc]) Q E st := by
  k_with_none
  k_with "my all" => (with_reducible (first | (intro p hp; (repeat' (first | assumption | refine List.mem_cons_of_mem _ ?_ | refine List.mem_append_left _ ?_)); done) | (refine List.forall_mem_cons.mpr ⟨?_, ?_⟩; focus ((repeat' (first | exact List.mem_cons_self | refine List.mem_cons_of_mem _ ?_)); done); kcj_all)))
  k_with "my ne" => (refine neN ?_; (try dsimp only); with_reducible (first | assumption | (refine Ne.symm ?_; assumption) | exact Nat.ne_of_lt (by assumption) | exact Nat.ne_of_gt (by assumption)))
  k_with "my mul" => (exact PySem.IntMulOk.of_left (PySem.intBits_le_64 (by omega) (by omega)))
  k_with "binaryOp Pow int int" => ((k_dflt (refine pow20 ?_)))
  k_with "binaryOp FloorDiv int int" => ((k_here; (with_reducible show wpAny _ _ (binaryOp Operator.FloorDiv (Value.int _ _) (Value.int _ _)) _ _ _); k_dflt (refine floordiv_int ?h0 ?_ (Or.inr (PySem.PylongRoom.of (Heap.NoLimit.keeps (Top.nolimit (by assumption)) (Fr.keep (by assumption))) ?dd)); (case h0 => (simp only [ne_eq]; omega)); (case dd => (show _ + 100 < _; dsimp only [ktrTop, Around.deeper] ; omega)); k_whole)))
  k_with "call ref" => ((k_here; (with_reducible show wpAny _ _ (call (Value.ref 126) [Value.int _ _, Value.int _ _, Value.int _ _, Value.int _ _, Value.int _ _]) _ _ _); k_dflt (refine' (atN_use (line_law _ _ _ _ _ _ _ _ _ _ _ ?p1 ?p2 ?p3 ?p4 ?p5 ?p6 ?p7 ?p8 ?p9) ?B ?F ?X ?N ?T ?hd ?hu) _ _ ?_; (case p1 => assumption); (case p2 => assumption); (case p3 => assumption); (case p4 => assumption); (case p5 => assumption); (case p6 => assumption); (case p7 => assumption); (case p8 => assumption); (case p9 => assumption); (case B => assumption); (case F => assumption); (case X => assumption); (case N => assumption); (case T => assumption); (case hd => ktr_room); (case hu => ktr_units); k_whole); intro _ _ _ _ _ _ _; (try dsimp only [pairO]); (try k_sweep)))
  k_with "call builtin:str.index" => ((k_dflt (refine' index_in ?hc ?_; (case hc => assumption); k_whole)))
  k_with "subscriptTail" => ((k_here; (with_reducible show wpAny _ _ (subscriptTail _ _ (Value.str _ _) (Value.int _ _)) _ _ _); k_dflt (refine' item_is (by assumption) ?h0 ?h1 ?hn ?_ ?hs ?ht; (case h0 => assumption); (case h1 => assumption); (case hn => assumption); (case hs => with_unfolding_all rfl); (case ht => (intro _; with_unfolding_all rfl)); k_whole)))
  k_with "subscriptTail" => ((k_here; (with_reducible show wpAny _ _ (subscriptTail _ _ (Value.ref _) (Value.int _ _)) _ _ _); k_dflt (refine' item_list (News.isList (by k_asm) (by k_mem)) ?h0 ?hf ?hx ?_ ?hs ?hg; (case hx => with_reducible assumption); (case h0 => assumption); (case hf => assumption); (case hs => with_unfolding_all rfl); (case hg => (intro _; with_unfolding_all rfl)); k_whole)))
  unfold AtN; dsimp only [PG, LS, KK, TopM]
  k_fill
  intro dp un gd cn cns cg cc cmo a ccd cl outer A₀ base h₀ L m mg mb mean news st B F X N T hd hu Q E hdc hret
  refine wpAny_call ?_
  k_dflt (refine' code_def ?k1 ?k2 ?k3 ?k4 ?k5 ?kA ?kF ?kK ?k6 ?k7 ?k8 ?k9 ?kB ?_ ?c2 ?c3 ?c4 ?c5; (case kA => exact rfl); (case kF => exact rfl); (case kK => exact rfl); (case k1 => k_asm); (case k2 => k_asm); (case k3 => k_asm); (case k4 => k_asm); (case k5 => k_asm); (case k6 => k_is); (case k7 => k_is); (case k8 => ktr_room); (case k9 => first | exact BindsTo.of_eq rfl | exact binds_K (by k_in) rfl (by k_is) rfl rfl rfl); (case c5 => decide); (case kB => exact locs rfl); (case c2 => exact rfl); (case c3 => exact rfl); (case c4 => exact rfl); k_whole)
  intro g' L' h' FG' F' N' B' X' T'
  (try dsimp only)
  k_fold

  obtain ⟨mB, F2⟩ : ∃ mB : PySem.Str → Option Value, Fr g' L' h' (fun y => if y = PySem.Str.ofString "cells" then some (.ref dc) else mB y) := ⟨_, fr_again (x := PySem.Str.ofString "cells") (F') rfl⟩
  clear F'
  with_reducible refine cutK (P := fun G => ∀ h2 tk2 d, News g' L' h2 ((d, listOf #[] 0) :: news) → Fr g' L' h2 (fun y => if y = PySem.Str.ofString "word" then some (.ref d) else if y = PySem.Str.ofString "cells" then some (.ref dc) else mB y) → (∀ p ∈ news, p.1 < d) → G { st with heap := h2, toks := tk2 }) ?_ ?_
  · intro G hG E2
    k_steps
    rename_i l1 _ _ _
    all_goals exact hG _ _ _ (by assumption) (by assumption) l1
  intro h2 tk2 d N3 F3 hlt
  clear F2 N'
  have hdd := neN (Nat.ne_of_lt (hlt _ hdc))
  dsimp only at hdd
  with_reducible refine cutK (P := fun G => ∀ (h2 : Heap) (tk2 : Nat) (mB : PySem.Str → Option Value) (its : Array Value) (n : Nat) (ws : List W4) (rest : List (Addr × Obj)), Fr g' L' h2 (fun y => if y = PySem.Str.ofString "word" then some (.ref d) else if y = PySem.Str.ofString "cells" then some (.ref dc) else mB y) → News g' L' h2 ((d, listOf its n) :: rest) → (∀ p ∈ rest, p.1 ≠ d) → (∀ p ∈ news, p ∈ rest) → Tells4 rest its.toList ws → (ws.length = 5) → (∀ x ∈ ws, GoodF x) → G { st with heap := h2, toks := tk2 }) ?_ ?_
  · intro G hG E2
    k_dflt (refine forListA (h₀ := g') (L := L') (l := dc) (items := [.int c0 u0, .int c1 u1, .int c2 u2, .int c3 u3, .int c4 u4].toArray) (fun i m₁ news₁ => ∃ (mB : PySem.Str → Option Value) (its : Array Value) (n : Nat) (ws : List W4) (rest : List (Addr × Obj)), m₁ = (fun y => if y = PySem.Str.ofString "word" then some (.ref d) else if y = PySem.Str.ofString "cells" then some (.ref dc) else mB y) ∧ news₁ = (d, listOf its n) :: rest ∧ (∀ p ∈ rest, p.1 ≠ d) ∧ (∀ p ∈ news, p ∈ rest) ∧ Tells4 rest its.toList ws ∧ ws.length = i ∧ (∀ x ∈ ws, GoodF x)) (fun it => drawsList rfl) ?_ ?_ ?_ ?_)
    · rintro i m₁ news₁ h ⟨mB, its, n, ws, rest, rfl, rfl, n1, hin, _⟩ F4 N4
      exact News.isList N4 (.tail _ (hin _ hdc))
    · k_steps
      exact ⟨_, _, _, _, rfl, rfl, by assumption, by assumption, _, #[], 0, [], news, rfl, rfl, (fun p hp => Nat.ne_of_lt (hlt p hp)), (fun _ h => h), trivial, rfl, (fun _ h => nomatch h)⟩
    · rintro i v m₁ news₁ h tk it o' hi hv ⟨mB', its, n, ws, rest, rfl, rfl, n1, hin, htl, hsz, hgood⟩ hap F4 N4
      clear F3 N3
      have a1 := neN (hap _ (.head _))
      dsimp only at a1
      have a2 : ∀ p ∈ rest, p.1 ≠ it := fun p hp => hap _ (.tail _ hp)
      have hsz5 : i < 5 := by simpa using hi
      have hits : its.size ≤ 10 := by rw [← Array.length_toList, tells4_len htl, hsz]; omega
      obtain ⟨x, tx, rfl⟩ : ∃ x tx, v = .int x tx := by
        rcases (show i = 0 ∨ i = 1 ∨ i = 2 ∨ i = 3 ∨ i = 4 by omega) with rfl | rfl | rfl | rfl | rfl <;> (simp at hv; exact ⟨_, _, hv.symm⟩)
      clear hv
      with_reducible refine midK (P := fun G => ∀ (h2 : Heap) (tk2 : Nat) (tt : Tok), Fr g' L' h2 (fun y => if y = PySem.Str.ofString "x" then some (.int x tt) else if y = PySem.Str.ofString "word" then some (.ref d) else if y = PySem.Str.ofString "cells" then some (.ref dc) else mB' y) → News g' L' h2 ((it, o') :: (d, listOf its n) :: rest) → G { st with heap := h2, toks := tk2 }) ?_ ?_
      · intro G hG
        k_steps
        all_goals exact hG _ _ _ _ (by assumption) (by assumption)
      intro _ h4 tk4 tt F5 N5
      clear F4 N4
      with_reducible refine cutK (P := fun G => ∀ (h2 : Heap) (tk2 : Nat) (tt tp : Tok) (port : Int), (port.natAbs ≤ 10 ^ 20) → Fr g' L' h2 (fun y => if y = PySem.Str.ofString "port" then some (.int port tp) else if y = PySem.Str.ofString "x" then some (.int x tt) else if y = PySem.Str.ofString "word" then some (.ref d) else if y = PySem.Str.ofString "cells" then some (.ref dc) else mB' y) → News g' L' h2 ((it, o') :: (d, listOf its n) :: rest) → G { st with heap := h2, toks := tk2 }) ?_ ?_
      · intro G hG E2
        k_steps
        have q1 := mod_lo (x.fdiv 960 + 100000000000000000000) (2 * 100000000000000000000) (by decide)
        have q2 := mod_hi (x.fdiv 960 + 100000000000000000000) (2 * 100000000000000000000) (by decide)
        exact hG _ _ _ _ (Int.fmod (x.fdiv 960 + 100000000000000000000) (2 * 100000000000000000000) - 100000000000000000000) (by omega) (by assumption) (by assumption)
      intro h5 tk5 tt tp port hport F6 N6
      clear F5 N5
      with_reducible refine cutK (P := fun G => ∀ (h2 : Heap) (tk2 : Nat) (tt tp tk : Tok) (kind : Int), (0 ≤ kind) → (kind < 10) → Fr g' L' h2 (fun y => if y = PySem.Str.ofString "kind" then some (.int kind tk) else if y = PySem.Str.ofString "port" then some (.int port tp) else if y = PySem.Str.ofString "x" then some (.int x tt) else if y = PySem.Str.ofString "word" then some (.ref d) else if y = PySem.Str.ofString "cells" then some (.ref dc) else mB' y) → News g' L' h2 ((it, o') :: (d, listOf its n) :: rest) → G { st with heap := h2, toks := tk2 }) ?_ ?_
      · intro G hG E2
        k_steps
        exact hG _ _ _ _ _ _ (mod_lo _ _ (by decide)) (mod_hi _ _ (by decide)) (by assumption) (by assumption)
      intro h6 tk6 tt tp tk kind hk0 hk1 F7 N7
      clear F6 N6
      have b1 := mod_lo x 2 (by decide)
      have b2 := mod_hi x 2 (by decide)
      have b3 := mod_lo (x.fdiv 2) 8 (by decide)
      have b4 := mod_hi (x.fdiv 2) 8 (by decide)
      have b5 := mod_lo (x.fdiv 160) 6 (by decide)
      have b6 := mod_hi (x.fdiv 160) 6 (by decide)
      have b7 : port.natAbs < 10 ^ 21 := by omega
      with_reducible refine cutK (P := fun G => ∀ (h2 : Heap) (tk2 : Nat) (tt tp tk tl tn : Tok), Fr g' L' h2 (fun y => if y = PySem.Str.ofString "net" then some (.int (netI (Int.fmod x 2) (Int.fmod (Int.fdiv x 2) 8) kind (Int.fmod (Int.fdiv x 160) 6) port) tn) else if y = PySem.Str.ofString "line" then some (.str (lineS (Int.fmod x 2) (Int.fmod (Int.fdiv x 2) 8) kind (Int.fmod (Int.fdiv x 160) 6) port) tl) else if y = PySem.Str.ofString "kind" then some (.int kind tk) else if y = PySem.Str.ofString "port" then some (.int port tp) else if y = PySem.Str.ofString "x" then some (.int x tt) else if y = PySem.Str.ofString "word" then some (.ref d) else if y = PySem.Str.ofString "cells" then some (.ref dc) else mB' y) → News g' L' h2 ((it, o') :: (d, listOf its n) :: rest) → G { st with heap := h2, toks := tk2 }) ?_ ?_
      · intro G hG E2
        k_steps
        (with_reducible rename Fr g' L' _ _ => FZ)
        exact hG _ _ _ _ _ _ _ FZ (cb_drop (by assumption) (by kcj_all))
      intro h7 tk7 tt tp tk tl tn F8 N8
      clear F7 N7
      have M := mark_ok b1 b2 b3 b4
      have ll := len_line (Int.fmod x 2) (Int.fmod (Int.fdiv x 2) 8) kind (Int.fmod (Int.fdiv x 160) 6) port b7
      have hcon : Txt.contains (lineS (Int.fmod x 2) (Int.fmod (Int.fdiv x 2) 8) kind (Int.fmod (Int.fdiv x 160) 6) port) (PySem.Str.ofString "(") = true := (cut_line (Int.fmod x 2) (Int.fmod (Int.fdiv x 2) 8) kind (Int.fmod (Int.fdiv x 160) 6) port).has
      have hit := item_first (odd := (Int.fmod x 2)) (sign := (Int.fmod (Int.fdiv x 2) 8)) (kind := kind) (dress := (Int.fmod (Int.fdiv x 160) 6)) (port := port)
      have hfd := find_line (odd := (Int.fmod x 2)) (sign := (Int.fmod (Int.fdiv x 2) 8)) (kind := kind) (dress := (Int.fmod (Int.fdiv x 160) 6)) (port := port)
      have hln := line_len (odd := (Int.fmod x 2)) (sign := (Int.fmod (Int.fdiv x 2) 8)) (kind := kind) (dress := (Int.fmod (Int.fdiv x 160) 6)) (port := port)
      have hne : (fieldsL (Int.fmod x 2) (Int.fmod (Int.fdiv x 2) 8) kind port).length ≠ 0 := by obtain ⟨t, e⟩ := fields_head (odd := (Int.fmod x 2)) (sign := (Int.fmod (Int.fdiv x 2) 8)) (kind := kind) (port := port); rw [e]; simp
      have hq0 : 0 ≤ Txt.find (lineS (Int.fmod x 2) (Int.fmod (Int.fdiv x 2) 8) kind (Int.fmod (Int.fdiv x 160) 6) port) (PySem.Str.ofString "(") + 1 := by rw [hfd]; omega
      have hq1 : Txt.find (lineS (Int.fmod x 2) (Int.fmod (Int.fdiv x 2) 8) kind (Int.fmod (Int.fdiv x 160) 6) port) (PySem.Str.ofString "(") + 1 < ((lineS (Int.fmod x 2) (Int.fmod (Int.fdiv x 2) 8) kind (Int.fmod (Int.fdiv x 160) 6) port).length : Int) := by rw [hfd, hln]; omega
      have hq2 : (lineS (Int.fmod x 2) (Int.fmod (Int.fdiv x 2) 8) kind (Int.fmod (Int.fdiv x 160) 6) port).length ≤ 1000 := by omega
      have hq3 : Txt.item (lineS (Int.fmod x 2) (Int.fmod (Int.fdiv x 2) 8) kind (Int.fmod (Int.fdiv x 160) 6) port) (Txt.find (lineS (Int.fmod x 2) (Int.fmod (Int.fdiv x 2) 8) kind (Int.fmod (Int.fdiv x 160) 6) port) (PySem.Str.ofString "(") + 1) = markS (Int.fmod x 2) (Int.fmod (Int.fdiv x 2) 8) := hit
      have hcon2 : Txt.contains (PySem.Str.ofString "()[]:,;+-*/|&<>=.%{}") (markS (Int.fmod x 2) (Int.fmod (Int.fdiv x 2) 8)) = true := M.2.2.2.2.2.1
      have hcon3 : Txt.contains (PySem.Str.ofString "()[]:,;+-*/|&<>=.%{}") (Txt.item (lineS (Int.fmod x 2) (Int.fmod (Int.fdiv x 2) 8) kind (Int.fmod (Int.fdiv x 160) 6) port) (Txt.find (lineS (Int.fmod x 2) (Int.fmod (Int.fdiv x 2) 8) kind (Int.fmod (Int.fdiv x 160) 6) port) (PySem.Str.ofString "(") + 1)) = true := by rw [hq3]; exact hcon2
      with_reducible refine cutK (P := fun G => ∀ (h2 : Heap) (tk2 : Nat) (tt tp tk tl tn tw : Tok), Fr g' L' h2 (fun y => if y = PySem.Str.ofString "power" then some (.int (pwI (Int.fmod x 2) (Int.fmod (Int.fdiv x 2) 8) kind (Int.fmod (Int.fdiv x 160) 6) port) tw) else if y = PySem.Str.ofString "net" then some (.int (netI (Int.fmod x 2) (Int.fmod (Int.fdiv x 2) 8) kind (Int.fmod (Int.fdiv x 160) 6) port) tn) else if y = PySem.Str.ofString "line" then some (.str (lineS (Int.fmod x 2) (Int.fmod (Int.fdiv x 2) 8) kind (Int.fmod (Int.fdiv x 160) 6) port) tl) else if y = PySem.Str.ofString "kind" then some (.int kind tk) else if y = PySem.Str.ofString "port" then some (.int port tp) else if y = PySem.Str.ofString "x" then some (.int x tt) else if y = PySem.Str.ofString "word" then some (.ref d) else if y = PySem.Str.ofString "cells" then some (.ref dc) else mB' y) → News g' L' h2 ((it, o') :: (d, listOf its n) :: rest) → G { st with heap := h2, toks := tk2 }) ?_ ?_
      · intro G hG E2
        by_cases h4 : kind < 4
        · rw [pwI, if_pos h4] at hG
          k_steps
          all_goals first | (exfalso; omega) | skip
          (with_reducible rename Fr g' L' _ _ => FZ)
          exact hG _ _ _ _ _ _ _ _ FZ (cb_drop (by assumption) (by kcj_all))
        · by_cases h5 : kind = 4
          · rw [pwI, if_neg h4, if_pos h5] at hG
            k_steps
            all_goals first | (exfalso; omega) | skip
            (with_reducible rename Fr g' L' _ _ => FZ)
            exact hG _ _ _ _ _ _ _ _ FZ (cb_drop (by assumption) (by kcj_all))
          · rw [pwI, if_neg h4, if_neg h5] at hG
            k_steps
            all_goals first | (exfalso; omega) | skip
            (with_reducible rename Fr g' L' _ _ => FZ)
            have e : netI (Int.fmod x 2) (Int.fmod (Int.fdiv x 2) 8) kind (Int.fmod (Int.fdiv x 160) 6) port + 7 + Txt.find (PySem.Str.ofString "()[]:,;+-*/|&<>=.%{}") (Txt.item (lineS (Int.fmod x 2) (Int.fmod (Int.fdiv x 2) 8) kind (Int.fmod (Int.fdiv x 160) 6) port) (Txt.find (lineS (Int.fmod x 2) (Int.fmod (Int.fdiv x 2) 8) kind (Int.fmod (Int.fdiv x 160) 6) port) (PySem.Str.ofString "(") + 1)) = netI (Int.fmod x 2) (Int.fmod (Int.fdiv x 2) 8) kind (Int.fmod (Int.fdiv x 160) 6) port + tokI (Int.fmod x 2) (Int.fmod (Int.fdiv x 2) 8) := by rw [hq3]; unfold tokI tbl; omega
            rw [e] at FZ
            exact hG _ _ _ _ _ _ _ _ FZ (cb_drop (by assumption) (by kcj_all))
      intro h8 tk8 tt tp tk tl tn tw F9 N9
      clear F8 N8
      k_steps
      (with_reducible rename Fr g' L' _ _ => FZ)
      rename (_ < _ ∧ _) => hl
      obtain ⟨f1, f2, f3⟩ := hl
      refine ⟨_, _, _, (d, listOf (its.push (.ref _)) (n + 1)) :: (_, quadO (.str (lineS (Int.fmod x 2) (Int.fmod (Int.fdiv x 2) 8) kind (Int.fmod (Int.fdiv x 160) 6) port) _) (.int (Int.fmod x 2) _) (.int kind _) (.int (pwI (Int.fmod x 2) (Int.fmod (Int.fdiv x 2) 8) kind (Int.fmod (Int.fdiv x 160) 6) port) _)) :: rest, rfl, fr_again (x := PySem.Str.ofString "word") (fr_again (x := PySem.Str.ofString "cells") (FZ) rfl) rfl, cb_drop (by assumption) (by kcj_all), List.forall_mem_cons.mpr ⟨a1, List.forall_mem_cons.mpr ⟨Nat.ne_of_gt f1, a2⟩⟩, _, its.push (.ref _), n + 1, ws ++ [⟨lineS (Int.fmod x 2) (Int.fmod (Int.fdiv x 2) 8) kind (Int.fmod (Int.fdiv x 160) 6) port, Int.fmod x 2, kind, pwI (Int.fmod x 2) (Int.fmod (Int.fdiv x 2) 8) kind (Int.fmod (Int.fdiv x 160) 6) port⟩], (_, quadO (.str (lineS (Int.fmod x 2) (Int.fmod (Int.fdiv x 2) 8) kind (Int.fmod (Int.fdiv x 160) 6) port) _) (.int (Int.fmod x 2) _) (.int kind _) (.int (pwI (Int.fmod x 2) (Int.fmod (Int.fdiv x 2) 8) kind (Int.fmod (Int.fdiv x 160) 6) port) _)) :: rest, rfl, rfl, List.forall_mem_cons.mpr ⟨Nat.ne_of_gt f2, n1⟩, fun p hp => .tail _ (hin p hp), ?_, by simp [hsz], ?_⟩
      · rw [Array.toList_push]; exact tells4_snoc (x := ⟨_, _, _, _⟩) (.head _) (tells4_mono (fun p hp => .tail _ hp) htl)
      · intro y hy
        rcases List.mem_append.mp hy with hy | hy
        · exact hgood y hy
        · rw [List.mem_singleton] at hy
          subst hy
          exact ⟨_, _, port, ⟨b1, b2, b3, b4, hk0, hk1, b5, b6, b7⟩, rfl, rfl, pw_bound M hport⟩
    · rintro m₁ news₁ h tk ⟨mB', its, n, ws, rest, rfl, rfl, n1, hin, htl, hsz, hgood⟩ F4 N4
      exact hG _ _ _ _ _ _ _ F4 N4 n1 hin htl hsz hgood
  intro h3 tk3 mB2 its n ws rest F4 N4 n1 hin htl hsz hgood
  clear F3 N3 hlt
  have hdd2 := neN (n1 _ (hin _ hdc))
  dsimp only at hdd2
  with_reducible refine cutK (P := fun G => ∀ (h2 : Heap) (tk2 : Nat) (total : Int) (tq : Tok), Fr g' L' h2 (fun y => if y = PySem.Str.ofString "total" then some (.int total tq) else if y = PySem.Str.ofString "word" then some (.ref d) else if y = PySem.Str.ofString "cells" then some (.ref dc) else mB2 y) → News g' L' h2 ((d, listOf its n) :: rest) → G { st with heap := h2, toks := tk2 }) ?_ ?_
  · intro G hG E2
    have N5 : News g' L' h3 ((dc, listOf [.int c0 u0, .int c1 u1, .int c2 u2, .int c3 u3, .int c4 u4].toArray 0) :: (d, listOf its n) :: rest) := news_dup N4 (.tail _ (hin _ hdc))
    clear N4
    k_steps
    exact hG _ _ _ _ (by assumption) (cb_drop (by assumption) (by kcj_all))
  intro h4 tk4 total tq F5 N5
  clear F4 N4
  have m1 := mod_lo total 6 (by decide)
  have m2 := mod_hi total 6 (by decide)
  with_reducible refine cutK (P := fun G => ∀ (h2 : Heap) (tk2 : Nat) (mB : PySem.Str → Option Value) (its : Array Value) (n : Nat) (ws' : List W4) (rest : List (Addr × Obj)), Fr g' L' h2 (fun y => if y = PySem.Str.ofString "word" then some (.ref d) else mB y) → News g' L' h2 ((d, listOf its n) :: rest) → (∀ p ∈ news, p ∈ rest) → Tells4 rest its.toList (ws ++ ws') → (ws'.length ≤ 5) → (∀ x ∈ ws', GoodL x) → G { st with heap := h2, toks := tk2 }) ?_ ?_
  · intro G hG E2
    k_dflt (refine forRangeA (h₀ := g') (L := L') (Int.fmod total 6).toNat (fun i m₁ news₁ => ∃ (mB : PySem.Str → Option Value) (its : Array Value) (n : Nat) (ws' : List W4) (rest : List (Addr × Obj)), m₁ = (fun y => if y = PySem.Str.ofString "word" then some (.ref d) else if y = PySem.Str.ofString "cells" then some (.ref dc) else if y = PySem.Str.ofString "total" then some (.int total tq) else mB y) ∧ news₁ = (d, listOf its n) :: rest ∧ (∀ p ∈ rest, p.1 ≠ d) ∧ (∀ p ∈ news, p ∈ rest) ∧ Tells4 rest its.toList (ws ++ ws') ∧ ws'.length = i ∧ (∀ x ∈ ws', GoodL x)) rfl (by omega) ?_ ?_ ?_)
    · have hn : ((Int.fmod total 6).toNat : Int) = Int.fmod total 6 := by omega
      k_steps
      (with_reducible rename Fr g' L' _ _ => FZ)
      exact ⟨_, _, _, _, _, _, _, _, rfl, rfl, by rw [hn]; assumption, fr_again (x := PySem.Str.ofString "word") (fr_again (x := PySem.Str.ofString "cells") (fr_again (x := PySem.Str.ofString "total") (FZ) rfl) rfl) rfl, by assumption, _, its, n, [], rest, rfl, rfl, n1, hin, by rw [List.append_nil]; exact htl, rfl, (fun _ h => nomatch h)⟩
    · rintro i t m₁ news₁ h tk it o' hi ⟨mB', its, n, ws', rest, rfl, rfl, n1, hin, htl, hsz', hgood'⟩ hap F6 N6
      clear F5 N5
      have a1 := neN (hap _ (.head _))
      dsimp only at a1
      have a2 : ∀ p ∈ rest, p.1 ≠ it := fun p hp => hap _ (.tail _ hp)
      have a3 := neN (a2 _ (hin _ hdc))
      dsimp only at a3
      have hi5 : i < 5 := by omega
      have hits : its.size ≤ 10 := by rw [← Array.length_toList, tells4_len htl, List.length_append]; omega
      have hjl : (4 - (i : Int)).toNat < its.toList.length := by rw [tells4_len htl, List.length_append]; omega
      obtain ⟨aw, y, w1, w2, w3, w4, e1, e2, e3⟩ := tells4_get htl _ hjl
      rw [Array.getElem?_toList] at e1
      have hy : GoodF y := by
        rw [List.getElem?_append_left (by omega)] at e2
        exact hgood y (List.mem_of_getElem? e2)
      obtain ⟨ys, yd, yp, yk, yl, ypw, yb⟩ := hy
      obtain ⟨yline, yodd, ykind, ypower⟩ := y
      dsimp only at e3 yb
      have i0 : 0 ≤ 4 - (i : Int) := by omega
      have i1 : 4 - (i : Int) < 2 ^ 63 := by omega
      have a4 := neN (a2 _ e3)
      dsimp only at a4
      have a5 := neN (n1 _ e3)
      dsimp only at a5
      with_reducible refine midK (P := fun G => ∀ (h2 : Heap) (tk2 : Nat) (tk : Tok), Fr g' L' h2 (fun y => if y = PySem.Str.ofString "k" then some (.int i tk) else if y = PySem.Str.ofString "word" then some (.ref d) else if y = PySem.Str.ofString "cells" then some (.ref dc) else if y = PySem.Str.ofString "total" then some (.int total tq) else mB' y) → News g' L' h2 ((it, o') :: (d, listOf its n) :: rest) → G { st with heap := h2, toks := tk2 }) ?_ ?_
      · intro G hG
        k_steps
        all_goals exact hG _ _ _ _ (by assumption) (by assumption)
      intro _ h7 tk7 tk F7 N7
      clear F6 N6
      with_reducible refine cutK (P := fun G => ∀ (h2 : Heap) (tk2 : Nat) (x : Int) (tt tk : Tok), Fr g' L' h2 (fun y => if y = PySem.Str.ofString "x" then some (.int x tt) else if y = PySem.Str.ofString "k" then some (.int i tk) else if y = PySem.Str.ofString "word" then some (.ref d) else if y = PySem.Str.ofString "cells" then some (.ref dc) else if y = PySem.Str.ofString "total" then some (.int total tq) else mB' y) → News g' L' h2 ((it, o') :: (d, listOf its n) :: rest) → G { st with heap := h2, toks := tk2 }) ?_ ?_
      · intro G hG E2
        have N8 : News g' L' h7 ((dc, listOf [.int c0 u0, .int c1 u1, .int c2 u2, .int c3 u3, .int c4 u4].toArray 0) :: (it, o') :: (d, listOf its n) :: rest) := news_dup N7 (.tail _ (.tail _ (hin _ hdc)))
        clear N7
        k_steps
        exact hG _ _ _ _ _ (by assumption) (cb_drop (by assumption) (by kcj_all))
      intro h8 tk8 x tt tk F8 N8
      clear F7 N7
      with_reducible refine cutK (P := fun G => ∀ (h2 : Heap) (tk2 : Nat) (tt tk tw : Tok), Fr g' L' h2 (fun y => if y = PySem.Str.ofString "power" then some (.int (-ypower) tw) else if y = PySem.Str.ofString "x" then some (.int x tt) else if y = PySem.Str.ofString "k" then some (.int i tk) else if y = PySem.Str.ofString "word" then some (.ref d) else if y = PySem.Str.ofString "cells" then some (.ref dc) else if y = PySem.Str.ofString "total" then some (.int total tq) else mB' y) → News g' L' h2 ((it, o') :: (d, listOf its n) :: rest) → G { st with heap := h2, toks := tk2 }) ?_ ?_
      · intro G hG E2
        have N9 : News g' L' h8 ((aw, quadO (.str yline w1) (.int yodd w2) (.int ykind w3) (.int ypower w4)) :: (it, o') :: (d, listOf its n) :: rest) := news_dup N8 (.tail _ (.tail _ e3))
        clear N8
        dsimp only [quadO] at N9
        k_steps
        exact hG _ _ _ _ _ (by assumption) (cb_drop (by assumption) (by kcj_all))
      intro h9 tk9 tt tk tw F9 N9
      clear F8 N8
      have q1 := mod_lo (Int.fdiv total 6) 3 (by decide)
      have q2 := mod_hi (Int.fdiv total 6) 3 (by decide)
      with_reducible refine cutK (P := fun G => ∀ (h2 : Heap) (tk2 : Nat) (tt tk tw : Tok) (P : Int), (P.natAbs ≤ 10 ^ 20 + 250) → Fr g' L' h2 (fun y => if y = PySem.Str.ofString "power" then some (.int P tw) else if y = PySem.Str.ofString "x" then some (.int x tt) else if y = PySem.Str.ofString "k" then some (.int i tk) else if y = PySem.Str.ofString "word" then some (.ref d) else if y = PySem.Str.ofString "cells" then some (.ref dc) else if y = PySem.Str.ofString "total" then some (.int total tq) else mB' y) → News g' L' h2 ((it, o') :: (d, listOf its n) :: rest) → G { st with heap := h2, toks := tk2 }) ?_ ?_
      · intro G hG E2
        k_steps
        · (with_reducible rename Fr g' L' _ _ => FZ)
          exact hG _ _ _ _ _ (-ypower + Int.fmod (Int.fdiv total 6) 3) (by omega) (fr_over FZ) (by assumption)
        · exact hG _ _ _ _ _ (-ypower) (by omega) (by assumption) (by assumption)
      intro h10 tk10 tt tk tw P hP F10 N10
      clear F9 N9
      with_reducible refine cutK (P := fun G => ∀ (h2 : Heap) (tk2 : Nat) (tt tk tw ts : Tok), Fr g' L' h2 (fun y => if y = PySem.Str.ofString "sign" then some (.int (Int.fmod (Int.fdiv x 2 + 3) 8) ts) else if y = PySem.Str.ofString "power" then some (.int P tw) else if y = PySem.Str.ofString "x" then some (.int x tt) else if y = PySem.Str.ofString "k" then some (.int i tk) else if y = PySem.Str.ofString "word" then some (.ref d) else if y = PySem.Str.ofString "cells" then some (.ref dc) else if y = PySem.Str.ofString "total" then some (.int total tq) else mB' y) → News g' L' h2 ((it, o') :: (d, listOf its n) :: rest) → G { st with heap := h2, toks := tk2 }) ?_ ?_
      · intro G hG E2
        k_steps
        exact hG _ _ _ _ _ _ (by assumption) (by assumption)
      intro h11 tk11 tt tk tw ts F11 N11
      clear F10 N10
      with_reducible refine cutK (P := fun G => ∀ (h2 : Heap) (tk2 : Nat) (tt tk tw ts tkk : Tok), Fr g' L' h2 (fun y => if y = PySem.Str.ofString "kind" then some (.int (Int.fmod (Int.fdiv x 16) 4) tkk) else if y = PySem.Str.ofString "sign" then some (.int (Int.fmod (Int.fdiv x 2 + 3) 8) ts) else if y = PySem.Str.ofString "power" then some (.int P tw) else if y = PySem.Str.ofString "x" then some (.int x tt) else if y = PySem.Str.ofString "k" then some (.int i tk) else if y = PySem.Str.ofString "word" then some (.ref d) else if y = PySem.Str.ofString "cells" then some (.ref dc) else if y = PySem.Str.ofString "total" then some (.int total tq) else mB' y) → News g' L' h2 ((it, o') :: (d, listOf its n) :: rest) → G { st with heap := h2, toks := tk2 }) ?_ ?_
      · intro G hG E2
        k_steps
        exact hG _ _ _ _ _ _ _ (by assumption) (by assumption)
      intro h12 tk12 tt tk tw ts tkk F12 N12
      clear F11 N11
      with_reducible refine cutK (P := fun G => ∀ (h2 : Heap) (tk2 : Nat) (tt tk tw ts tkk td : Tok), Fr g' L' h2 (fun y => if y = PySem.Str.ofString "dress" then some (.int (Int.fmod (Int.fdiv x 160 + 1) 6) td) else if y = PySem.Str.ofString "kind" then some (.int (Int.fmod (Int.fdiv x 16) 4) tkk) else if y = PySem.Str.ofString "sign" then some (.int (Int.fmod (Int.fdiv x 2 + 3) 8) ts) else if y = PySem.Str.ofString "power" then some (.int P tw) else if y = PySem.Str.ofString "x" then some (.int x tt) else if y = PySem.Str.ofString "k" then some (.int i tk) else if y = PySem.Str.ofString "word" then some (.ref d) else if y = PySem.Str.ofString "cells" then some (.ref dc) else if y = PySem.Str.ofString "total" then some (.int total tq) else mB' y) → News g' L' h2 ((it, o') :: (d, listOf its n) :: rest) → G { st with heap := h2, toks := tk2 }) ?_ ?_
      · intro G hG E2
        k_steps
        exact hG _ _ _ _ _ _ _ _ (by assumption) (by assumption)
      intro h13 tk13 tt tk tw ts tkk td F13 N13
      clear F12 N12
      have b1 := mod_lo x 2 (by decide)
      have b2 := mod_hi x 2 (by decide)
      have b3 := mod_lo (x.fdiv 2 + 3) 8 (by decide)
      have b4 := mod_hi (x.fdiv 2 + 3) 8 (by decide)
      have b5 := mod_lo (x.fdiv 160 + 1) 6 (by decide)
      have b6 := mod_hi (x.fdiv 160 + 1) 6 (by decide)
      have b8 := mod_lo (x.fdiv 16) 4 (by decide)
      have b9 := mod_hi (x.fdiv 16) 4 (by decide)
      have b10 : Int.fmod (x.fdiv 16) 4 < 10 := by omega
      have b11 : (0 : Int).natAbs < 10 ^ 21 := by decide
      have hnb := net_bound (odd := (Int.fmod x 2)) (sign := (Int.fmod (Int.fdiv x 2 + 3) 8)) (kind := (Int.fmod (Int.fdiv x 16) 4)) (dress := (Int.fmod (Int.fdiv x 160 + 1) 6)) (port := 0) (by decide)
      have b12 : (P - netI (Int.fmod x 2) (Int.fmod (Int.fdiv x 2 + 3) 8) (Int.fmod (Int.fdiv x 16) 4) (Int.fmod (Int.fdiv x 160 + 1) 6) 0).natAbs < 10 ^ 21 := by omega
      with_reducible refine cutK (P := fun G => ∀ (h2 : Heap) (tk2 : Nat) (tt tk tw ts tkk td tn : Tok), Fr g' L' h2 (fun y => if y = PySem.Str.ofString "net" then some (.int (netI (Int.fmod x 2) (Int.fmod (Int.fdiv x 2 + 3) 8) (Int.fmod (Int.fdiv x 16) 4) (Int.fmod (Int.fdiv x 160 + 1) 6) 0) tn) else if y = PySem.Str.ofString "dress" then some (.int (Int.fmod (Int.fdiv x 160 + 1) 6) td) else if y = PySem.Str.ofString "kind" then some (.int (Int.fmod (Int.fdiv x 16) 4) tkk) else if y = PySem.Str.ofString "sign" then some (.int (Int.fmod (Int.fdiv x 2 + 3) 8) ts) else if y = PySem.Str.ofString "power" then some (.int P tw) else if y = PySem.Str.ofString "x" then some (.int x tt) else if y = PySem.Str.ofString "k" then some (.int i tk) else if y = PySem.Str.ofString "word" then some (.ref d) else if y = PySem.Str.ofString "cells" then some (.ref dc) else if y = PySem.Str.ofString "total" then some (.int total tq) else mB' y) → News g' L' h2 ((it, o') :: (d, listOf its n) :: rest) → G { st with heap := h2, toks := tk2 }) ?_ ?_
      · intro G hG E2
        k_steps
        exact hG _ _ _ _ _ _ _ _ _ (by assumption) (cb_drop (by assumption) (by kcj_all))
      intro h14 tk14 tt tk tw ts tkk td tn F14 N14
      clear F13 N13
      with_reducible refine cutK (P := fun G => ∀ (h2 : Heap) (tk2 : Nat) (tt tk tw ts tkk td tn tl : Tok), Fr g' L' h2 (fun y => if y = PySem.Str.ofString "line" then some (.str (lineS (Int.fmod x 2) (Int.fmod (Int.fdiv x 2 + 3) 8) (Int.fmod (Int.fdiv x 16) 4) (Int.fmod (Int.fdiv x 160 + 1) 6) (P - netI (Int.fmod x 2) (Int.fmod (Int.fdiv x 2 + 3) 8) (Int.fmod (Int.fdiv x 16) 4) (Int.fmod (Int.fdiv x 160 + 1) 6) 0)) tl) else if y = PySem.Str.ofString "net" then some (.int (netI (Int.fmod x 2) (Int.fmod (Int.fdiv x 2 + 3) 8) (Int.fmod (Int.fdiv x 16) 4) (Int.fmod (Int.fdiv x 160 + 1) 6) 0) tn) else if y = PySem.Str.ofString "dress" then some (.int (Int.fmod (Int.fdiv x 160 + 1) 6) td) else if y = PySem.Str.ofString "kind" then some (.int (Int.fmod (Int.fdiv x 16) 4) tkk) else if y = PySem.Str.ofString "sign" then some (.int (Int.fmod (Int.fdiv x 2 + 3) 8) ts) else if y = PySem.Str.ofString "power" then some (.int P tw) else if y = PySem.Str.ofString "x" then some (.int x tt) else if y = PySem.Str.ofString "k" then some (.int i tk) else if y = PySem.Str.ofString "word" then some (.ref d) else if y = PySem.Str.ofString "cells" then some (.ref dc) else if y = PySem.Str.ofString "total" then some (.int total tq) else mB' y) → News g' L' h2 ((it, o') :: (d, listOf its n) :: rest) → G { st with heap := h2, toks := tk2 }) ?_ ?_
      · intro G hG E2
        k_steps
        exact hG _ _ _ _ _ _ _ _ _ _ (by assumption) (cb_drop (by assumption) (by kcj_all))
      intro h15 tk15 tt tk tw ts tkk td tn tl F15 N15
      clear F14 N14
      have M := mark_ok b1 b2 b3 b4
      k_steps
      (with_reducible rename Fr g' L' _ _ => FZ)
      rename (_ < _ ∧ _) => hl
      obtain ⟨f1, f2, f3⟩ := hl
      refine ⟨_, _, _, (d, listOf (its.push (.ref _)) (n + 1)) :: (_, quadO (.str (lineS (Int.fmod x 2) (Int.fmod (Int.fdiv x 2 + 3) 8) (Int.fmod (Int.fdiv x 16) 4) (Int.fmod (Int.fdiv x 160 + 1) 6) (P - netI (Int.fmod x 2) (Int.fmod (Int.fdiv x 2 + 3) 8) (Int.fmod (Int.fdiv x 16) 4) (Int.fmod (Int.fdiv x 160 + 1) 6) 0)) _) (.int (Int.fmod x 2) _) (.int (Int.fmod (Int.fdiv x 16) 4) _) (.int P _)) :: rest, rfl, fr_again (x := PySem.Str.ofString "word") (fr_again (x := PySem.Str.ofString "cells") (fr_again (x := PySem.Str.ofString "total") (FZ) rfl) rfl) rfl, cb_drop (by assumption) (by kcj_all), List.forall_mem_cons.mpr ⟨a1, List.forall_mem_cons.mpr ⟨Nat.ne_of_gt f1, a2⟩⟩, _, its.push (.ref _), n + 1, ws' ++ [⟨lineS (Int.fmod x 2) (Int.fmod (Int.fdiv x 2 + 3) 8) (Int.fmod (Int.fdiv x 16) 4) (Int.fmod (Int.fdiv x 160 + 1) 6) (P - netI (Int.fmod x 2) (Int.fmod (Int.fdiv x 2 + 3) 8) (Int.fmod (Int.fdiv x 16) 4) (Int.fmod (Int.fdiv x 160 + 1) 6) 0), (Int.fmod x 2), (Int.fmod (Int.fdiv x 16) 4), P⟩], (_, quadO (.str (lineS (Int.fmod x 2) (Int.fmod (Int.fdiv x 2 + 3) 8) (Int.fmod (Int.fdiv x 16) 4) (Int.fmod (Int.fdiv x 160 + 1) 6) (P - netI (Int.fmod x 2) (Int.fmod (Int.fdiv x 2 + 3) 8) (Int.fmod (Int.fdiv x 16) 4) (Int.fmod (Int.fdiv x 160 + 1) 6) 0)) _) (.int (Int.fmod x 2) _) (.int (Int.fmod (Int.fdiv x 16) 4) _) (.int P _)) :: rest, rfl, rfl, List.forall_mem_cons.mpr ⟨Nat.ne_of_gt f2, n1⟩, fun p hp => .tail _ (hin p hp), ?_, by simp [hsz'], ?_⟩
      · rw [Array.toList_push, ← List.append_assoc]; exact tells4_snoc (x := ⟨_, _, _, _⟩) (.head _) (tells4_mono (fun p hp => .tail _ hp) htl)
      · intro z hz
        rcases List.mem_append.mp hz with hz | hz
        · exact hgood' z hz
        · rw [List.mem_singleton] at hz
          subst hz
          refine ⟨_, _, _, ⟨b1, b2, b3, b4, b8, b10, b5, b6, b12⟩, rfl, ?_, by show P.natAbs ≤ _; omega⟩
          show P = pwI (Int.fmod x 2) (Int.fmod (Int.fdiv x 2 + 3) 8) (Int.fmod (Int.fdiv x 16) 4) (Int.fmod (Int.fdiv x 160 + 1) 6) (P - netI (Int.fmod x 2) (Int.fmod (Int.fdiv x 2 + 3) 8) (Int.fmod (Int.fdiv x 16) 4) (Int.fmod (Int.fdiv x 160 + 1) 6) 0)
          unfold pwI
          rw [if_pos b9, net_port]
          omega
    · rintro m₁ news₁ h tk ⟨mB', its, n, ws', rest, rfl, rfl, n1, hin, htl, hsz', hgood'⟩ F6 N6
      exact hG _ _ _ _ _ ws' _ F6 N6 hin htl (by omega) hgood'
  intro h5 tk5 mB3 its n ws' rest F6 N6 hin htl hsz' hgood'
  clear F5 N5
  k_steps
  refine hret d its n (ws ++ ws') _ _ _ (by assumption) (by assumption) (fun p hp => .tail _ (hin p hp)) (.head _) (tells4_mono (fun p hp => .tail _ hp) htl) (fun z hz => ?_) (by rw [List.length_append]; omega)
  rcases List.mem_append.mp hz with hz | hz
  · obtain ⟨a1, a2, a3, a4, a5, a6, a7⟩ := hgood z hz
    exact ⟨a1, a2, a3, a4, a5, a6, by omega⟩
  · exact hgood' z hz
end Mine
end
section
open PySem PySem.W PyProof.Rows
set_option Elab.async false
set_option maxRecDepth 100000
namespace Mine
theorem line_small {odd sign kind dress port : Int} (M : MarkOk odd sign) : ∀ c ∈ cp (lineS odd sign kind dress port), c < 128 := by
  intro c hc
  rw [cp_line] at hc
  have hm := M.2.2.2.2.1
  have ha : ∀ c ∈ cp (aheadS dress), c < 128 := by
    unfold aheadS; (repeat' split) <;> decide
  have hb : ∀ c ∈ cp (behindS dress), c < 128 := by
    unfold behindS; (repeat' split) <;> decide
  have hk : ∀ c ∈ codeL kind, c < 128 := by
    unfold codeL; split <;> decide
  simp only [headL, List.mem_append, List.mem_cons] at hc
  rcases hc with (hc | hc) | rfl | hc | hc
  · exact hk c hc
  · exact ha c hc
  · omega
  · rcases fields_mem hc with h | h
    · omega
    · unfold okC at h; omega
  · unfold tailL at hc
    split at hc
    · cases hc
    · rcases List.mem_cons.mp hc with rfl | hc
      · omega
      · exact hb c hc
theorem nat8_back {b : Array UInt8} {l : List Nat} (h : b.toList = l.map (·.toUInt8)) (hl : ∀ c ∈ l, c < 128) : (nat8 b).toList = l := by
  unfold nat8
  rw [Array.toList_map, h, List.map_map]
  conv => rhs; rw [← List.map_id l]
  refine List.map_congr_left fun c hc => ?_
  have := hl c hc
  show (c.toUInt8).toNat = c
  simp [Nat.toUInt8, UInt8.toNat, UInt8.ofNat]
  omega
theorem count8 {l : List Nat} {k : Nat} (hk : k < 128) (hl : ∀ c ∈ l, c < 128) : (l.map (·.toUInt8)).count k.toUInt8 = l.count k := by
  induction l with
  | nil => rfl
  | cons c l ih =>
    rw [List.map_cons, List.count_cons, List.count_cons, ih (fun d hd => hl d (.tail _ hd))]
    congr 1
    have hc := hl c (.head _)
    have e : (c.toUInt8 == k.toUInt8) = (c == k) := by
      rw [Bool.eq_iff_iff, beq_iff_eq, beq_iff_eq]
      constructor
      · intro h
        have := congrArg UInt8.toNat h
        simp [Nat.toUInt8, UInt8.toNat, UInt8.ofNat] at this
        omega
      · rintro rfl; rfl
    rw [e]
theorem closeQ_mem : ∀ {u r : List Nat}, closeQ u = some r → ∀ c ∈ r, c ∈ u
  | [], _, h => by cases h
  | [c], r, h => by
    unfold closeQ at h
    split at h
    · cases h; intro _ h; cases h
    · cases h
  | c :: d :: t, r, h => by
    unfold closeQ at h
    split at h
    · cases h; intro _ h; exact .tail _ h
    · split at h
      · split at h
        · cases h
        · intro e he; exact .tail _ (.tail _ (closeQ_mem h e he))
      · intro e he; exact .tail _ (closeQ_mem h e he)
theorem strip_mem : ∀ {n : Nat} {u : List Nat} {c : Nat}, c ∈ strip n u → c ∈ u := by
  intro n
  induction n with
  | zero => intro u c h; exact h
  | succ n ih =>
    intro u c h
    match u with
    | [] => exact h
    | a :: t =>
      unfold strip at h
      split at h
      · rename_i r hr
        split at hr
        · exact .tail _ (closeQ_mem hr c (ih h))
        · cases hr
      · rcases List.mem_cons.mp h with rfl | h
        · exact .head _
        · exact .tail _ (ih h)
theorem depth_net {odd sign kind dress port : Int} (K : LineOk odd sign kind dress port) {b : Array UInt8} (h : b.toList = (cp (lineS odd sign kind dress port)).map (·.toUInt8)) : depthB b = netI odd sign kind dress port := by
  have hs := line_small (kind := kind) (dress := dress) (port := port) K.mark
  have hn := nat8_back h hs
  have hz : b.size = (cp (lineS odd sign kind dress port)).length := by
    rw [← Array.length_toList, h, List.length_map]
  unfold depthB
  rw [hn, hz, ← line_depth K.mark K.d0 K.d1]
  unfold dep bare
  have hq : ∀ c ∈ strip (cp (lineS odd sign kind dress port)).length (cp (lineS odd sign kind dress port)), c < 128 := fun c hc => hs c (strip_mem hc)
  have e1 := count8 (k := 40) (by decide) hq
  have e2 := count8 (k := 41) (by decide) hq
  rw [show (40 : UInt8) = (40 : Nat).toUInt8 from rfl, show (41 : UInt8) = (41 : Nat).toUInt8 from rfl, e1, e2]
/-- the greatest step of a reduced word -/
noncomputable def sumA (w : List (Int × Int)) : Nat := (w.map fun x => x.2.natAbs).sum
theorem sumA_cons (x : Int × Int) (w : List (Int × Int)) : sumA (x :: w) = x.2.natAbs + sumA w := by simp [sumA]
theorem pile_sum (st : List (Int × Int)) (x : Int × Int) : sumA (pileS st x) ≤ sumA st + x.2.natAbs := by
  obtain ⟨l, n⟩ := x
  cases st with
  | nil => simp only [pileS]; split <;> simp [sumA]
  | cons y t =>
    simp only [pileS]
    (repeat' split) <;> simp only [sumA_cons] <;> omega
theorem reduce_sum (w : List (Int × Int)) : sumA (reduceW w) ≤ sumA w := by
  have key : ∀ (w st : List (Int × Int)), sumA (w.foldl pileS st) ≤ sumA st + sumA w := by
    intro w
    induction w with
    | nil => intro st; simp [sumA]
    | cons x w ih => intro st; rw [List.foldl_cons, sumA_cons]; have := ih (pileS st x); have := pile_sum st x; omega
  have h := key w []
  have e : sumA (reduceW w) = sumA (w.foldl pileS []) := by
    unfold reduceW sumA
    rw [List.map_reverse, List.sum_reverse]
  rw [e]
  have : sumA [] = 0 := rfl
  omega
theorem sum_mem {w : List (Int × Int)} {x : Int × Int} (h : x ∈ w) : x.2.natAbs ≤ sumA w := by
  induction w with
  | nil => cases h
  | cons y w ih =>
    rw [sumA_cons]
    rcases List.mem_cons.mp h with rfl | h
    · omega
    · have := ih h; omega
theorem sum_bound {b : Nat} {w : List (Int × Int)} (h : ∀ x ∈ w, x.2.natAbs ≤ b) : sumA w ≤ w.length * b := by
  induction w with
  | nil => simp [sumA]
  | cons y w ih =>
    rw [sumA_cons, List.length_cons, Nat.add_mul, Nat.one_mul]
    have := h y (.head _)
    have := ih fun x hx => h x (.tail _ hx)
    omega
theorem red_small {ws : List W4} (hl : ws.length ≤ 10) (hg : ∀ x ∈ ws, GoodL x) : ∀ x ∈ reduceW (ws.map W4.pw), x.2.natAbs ≤ 2 ^ 80 := by
  intro x hx
  have h1 := sum_mem hx
  have h2 := reduce_sum (ws.map W4.pw)
  have h3 : sumA (ws.map W4.pw) ≤ (ws.map W4.pw).length * (10 ^ 20 + 300) := sum_bound fun y hy => by
    obtain ⟨z, hz, rfl⟩ := List.mem_map.mp hy
    obtain ⟨_, _, _, _, _, _, h⟩ := hg z hz
    exact h
  rw [List.length_map] at h3
  have h4 : ws.length * (10 ^ 20 + 300) ≤ 10 * (10 ^ 20 + 300) := Nat.mul_le_mul_right _ hl
  have h5 : (10 : Nat) * (10 ^ 20 + 300) ≤ 2 ^ 80 := by decide
  omega
theorem mul_let (m : Mat) (o n : Int) : m.mul (letM o n) = if o = 0 then ⟨m.p, m.q + 2 * n * m.p, m.r, m.s + 2 * n * m.r⟩ else ⟨m.p + 2 * n * m.q, m.q, m.r + 2 * n * m.s, m.s⟩ := by
  unfold letM
  split
  · apply Mat.ext' <;> simp [Mat.mul] <;> rw [Int.mul_comm, Int.add_comm]
  · apply Mat.ext' <;> simp [Mat.mul] <;> rw [Int.mul_comm]
theorem take_pw {ws : List W4} {i : Nat} {x : W4} (h : ws[i]? = some x) : (ws.take (i + 1)).map W4.pw = (ws.take i).map W4.pw ++ [x.pw] := by
  rw [List.take_add_one, h]; simp
theorem matL_next {ws : List W4} {i : Nat} {x : W4} (h : ws[i]? = some x) : matL ((ws.take (i + 1)).map W4.pw) = (matL ((ws.take i).map W4.pw)).mul (letM x.odd x.power) := by
  rw [take_pw h, matL_append]
  have : matL [x.pw] = letM x.odd x.power := mul_one' _
  rw [this]
theorem LineOk'.to {odd sign kind dress port : Int} (K : LineOk' odd sign kind dress port) : LineOk odd sign kind dress port := ⟨K.o0, K.o1, K.s0, K.s1, K.k0, K.k1, K.d0, K.d1, K.hp⟩
end Mine
end
section
open PySem PySem.W PyProof.Rows
set_option Elab.async false
set_option maxRecDepth 100000
namespace Mine
theorem strOk_of {x : PySem.Str} (h : ∀ c ∈ cp x, c < 128) : PyData.strOk x = true := by
  unfold PyData.strOk
  rw [Array.all_eq_true]
  intro i hi
  have : x.cps[i] ∈ cp x := Array.mem_toList_iff.mpr (Array.getElem_mem hi)
  have := h _ this
  simp; omega
theorem shaped_two {a b : PySem.Str} (ha : PyData.strOk a = true) (hb : PyData.strOk b = true) : SeqAt.shaped (.list [.str a, .str b]) = true := by
  simp [SeqAt.shaped, PyData.canLay0, PyData.canLayAll0, PyData.depth, PyData.depthAll, ha, hb]
theorem other_small {odd sign kind dress port : Int} (M : MarkOk odd sign) {j : Int} (h0 : 0 ≤ j) (h1 : j < 3) : ∀ c ∈ cp (otherS (lineS odd sign kind dress port) j), c < 128 := by
  intro c hc
  have hs := line_small (kind := kind) (dress := dress) (port := port) M
  have hl := line_len (odd := odd) (sign := sign) (kind := kind) (dress := dress) (port := port)
  have hh := (head_free kind dress).2
  obtain ⟨k, rfl⟩ : ∃ k : Nat, j = (k : Int) := ⟨j.toNat, by omega⟩
  unfold otherS at hc
  have e0 : cp (PySem.Str.ofString "0") = [48] := rfl
  rw [cp_app, cp_app, e0, slice_b _ (by omega), show ((k : Int) + 1) = ((k + 1 : Nat) : Int) by omega, slice_a _ (by omega)] at hc
  simp only [List.mem_append, List.mem_singleton] at hc
  rcases hc with (hc | rfl) | hc
  · exact hs c (List.mem_of_mem_take hc)
  · omega
  · exact hs c (List.mem_of_mem_drop hc)
theorem ok_reply : PyData.strOk (PySem.Str.ofString "reply") = true := by decide +kernel
theorem ok_proto : PyData.strOk (PySem.Str.ofString "proto") = true := by decide +kernel
theorem ok_value : PyData.strOk (PySem.Str.ofString "value") = true := by decide +kernel
theorem ok_229 : PyData.strOk (PySem.Str.ofString "229 2 7 2)") = true := by decide +kernel
noncomputable def BadHead (x : PySem.Str) : Prop := (Txt.slice x none (some 3) != PySem.Str.ofString "229") = true
theorem BadHead.is {x : PySem.Str} (h : BadHead x) : (Txt.slice x none (some 3) != PySem.Str.ofString "229") = true := h
theorem enc_size {x : PySem.Str} {b : Array UInt8} (h : b.toList = (cp x).map (·.toUInt8)) (hx : x.length < 600) : b.size < 1000 := by
  have := congrArg List.length h
  rw [List.length_map, Array.length_toList, cp_len] at this
  omega
end Mine
namespace Mine
open PySem PySem.W PyProof.Rows
noncomputable def tup2 (x : Int × Int) : PyData := .tuple [.int x.1, .int x.2]
theorem tells_reads {h₀ h : Heap} {L : Addr} {news : List (Addr × Obj)} (N : News h₀ L h news) : ∀ {vs : List Value} {xs : List (Int × Int)}, Tells news vs xs → ∃ as, ReadsAll h vs (xs.map tup2) as
  | [], [], _ => ⟨_, .nil⟩
  | [], _ :: _, h' => h'.elim
  | _ :: _, [], h' => h'.elim
  | _ :: _, x :: xs, ⟨⟨a, t, u, e, hm⟩, h'⟩ => by
    obtain ⟨as, hr⟩ := tells_reads N h'
    subst e
    exact ⟨_, .cons (.tuple (N _ hm).1 rfl rfl (.cons (.int _ _) (.cons (.int _ _) .nil))) hr⟩
noncomputable def dataB (u : List (Int × Int)) : PyData := .tuple [.list (u.map tup2), .list [.int 1, .int 0, .int 0, .int 1]]
theorem eqv_tup : ∀ u : List (Int × Int), PyData.eqvAll (u.map tup2) (u.map tup2) = true
  | [] => by simp [PyData.eqvAll]
  | x :: r => by simp [PyData.eqvAll, PyData.eqv, tup2, eqv_tup r]
theorem lay_tup : ∀ u : List (Int × Int), PyData.canLayAll0 (u.map tup2) = true
  | [] => by simp [PyData.canLayAll0]
  | x :: r => by simp [PyData.canLayAll0, PyData.canLay0, tup2, lay_tup r]
theorem depth_tup : ∀ u : List (Int × Int), PyData.depthAll (u.map tup2) ≤ 1
  | [] => by simp [PyData.depthAll]
  | x :: r => by have := depth_tup r; simp [PyData.depthAll, PyData.depth, tup2]; omega
theorem shaped_B (u : List (Int × Int)) : SeqAt.shaped (dataB u) = true := by
  have := depth_tup u
  simp [SeqAt.shaped, dataB, PyData.canLay0, PyData.canLayAll0, PyData.depth, PyData.depthAll, lay_tup]
  omega
theorem eqv_B (u : List (Int × Int)) : PyData.eqv (dataB u) (dataB u) = true := by
  simp [dataB, PyData.eqv, PyData.eqvAll, eqv_tup]
theorem reads_B {h₀ h : Heap} {L l : Addr} {news : List (Addr × Obj)} {u : List (Int × Int)} (N : News h₀ L h news) (hl : BackAt news l u) : ∃ as, Reads h (.ref l) (dataB u) as := by
  obtain ⟨d, e, items, n, k, t1, t2, t3, t4, h1, h2, h3, h4⟩ := hl
  obtain ⟨as, hr⟩ := tells_reads N h4
  exact ⟨_, .tuple (N _ h1).1 rfl rfl (.cons (.list (N _ h2).1 rfl rfl hr) (.cons (.list (N _ h3).1 rfl rfl (.cons (.int _ _) (.cons (.int _ _) (.cons (.int _ _) (.cons (.int _ _) .nil))))) .nil))⟩
theorem final_eq {prog : Program} {w : World} {A : Around} {E : Value → Shared → Prop} {s : Shared} {h₀ : Heap} {L l r : Addr} {news : List (Addr × Obj)} {u : List (Int × Int)} {Q : Value → Shared → Prop} (N : News h₀ L s.heap news) (hl : BackAt news l u) (hr : BackAt news r u) (hu : A.units + 64 < cLine)
    (h : Q (.bool true) s) : wpAny (model prog w) A (compareOp .Eq (.ref l) (.ref r)) Q E s := by
  obtain ⟨as, ra⟩ := reads_B N hl
  obtain ⟨bs, rb⟩ := reads_B N hr
  exact eq_dataH ra rb (shaped_B u) (shaped_B u) hu (by rw [eqv_B]; exact h)
end Mine
end
section
open PySem PySem.W PyProof.Rows PySem.Calls
set_option Elab.async false
set_option maxRecDepth 100000
namespace Mine
noncomputable def exD (w : World) : List (PySem.Str × PyData) := match (KK w).lookup 89 with
  | some o => (match o.data with
    | .dict es _ => es.toList.map fun e => ((match e.key with | .str x _ => x | _ => PySem.Str.ofString ""), (match e.val with | .int n _ => PyData.int n | _ => PyData.none))
    | _ => [])
  | none => []
noncomputable def ndB : List PySem.Str → Bool
  | [] => true
  | x :: r => (r.all fun y => !decide (y = x)) && ndB r
theorem ndB_is : ∀ {l : List PySem.Str}, ndB l = true → l.Nodup
  | [], _ => List.nodup_nil
  | x :: r, h => by
    unfold ndB at h
    rw [Bool.and_eq_true, List.all_eq_true] at h
    refine List.nodup_cons.mpr ⟨fun hx => ?_, ndB_is h.2⟩
    have := h.1 x hx
    simp at this
theorem exD_tab (w : World) {h : Heap} (X : (KK w).In h) : StrTab PG w h 89 ((exD w).map fun p => (PyData.str p.1, p.2)) :=
  kt_tab_in (a := 89) PG w X (by kernel_rfl) (ndB_is (by kernel_rfl)) (by kernel_rfl)
theorem exD_look (w : World) {odd sign : Int} (o0 : 0 ≤ odd) (o1 : odd < 2) (s0 : 0 ≤ sign) (s1 : sign < 8) : PySem.Spec.lookup (.str (markS odd sign)) ((exD w).map fun p => (PyData.str p.1, p.2)) = some (.int (tokI odd sign)) := by
  have ho : odd = 0 ∨ odd = 1 := by omega
  have hs : sign = 0 ∨ sign = 1 ∨ sign = 2 ∨ sign = 3 ∨ sign = 4 ∨ sign = 5 ∨ sign = 6 ∨ sign = 7 := by omega
  rcases ho with rfl | rfl <;> rcases hs with rfl | rfl | rfl | rfl | rfl | rfl | rfl | rfl <;> kernel_rfl
theorem exact_item {w : World} {A : Around} {E : Value → Shared → Prop} {s : Shared} {value slice : PySem.Expr} {odd sign : Int} {t : Tok} {Q : Value → Shared → Prop} (X : (KK w).In s.heap) (o0 : 0 ≤ odd) (o1 : odd < 2) (s0 : 0 ≤ sign) (s1 : sign < 8)
    (h : ∀ u, Q (.int (tokI odd sign) u) { s with toks := s.toks + 1 }) (hs : subscripted slice false (.ref 89) (.str (markS odd sign) t) = operate [.ref 89, .str (markS odd sign) t] (getItem (.ref 89) (.str (markS odd sign) t)) := by with_unfolding_all rfl)
    (hg : ∀ r, letTemporaryGo value (.ref 89) r = pure () := by intro _; with_unfolding_all rfl) :
    wpAny (model PG w) A (subscriptTail value slice (.ref 89) (.str (markS odd sign) t)) Q E s :=
  item_strTab (exD_tab w X) (exD_look w o0 o1 s0 s1) (fun v hv => by
    obtain ⟨u, rfl⟩ := PyProof.V.Flat.int_inv hv
    exact h u) hs hg
noncomputable def MarkB (odd sign : Int) : Prop := 0 ≤ odd ∧ odd < 2 ∧ 0 ≤ sign ∧ sign < 8
theorem exact_itemB {w : World} {A : Around} {E : Value → Shared → Prop} {s : Shared} {value slice : PySem.Expr} {odd sign : Int} {t : Tok} {Q : Value → Shared → Prop} (X : (KK w).In s.heap) (b : MarkB odd sign)
    (h : ∀ u, Q (.int (tokI odd sign) u) { s with toks := s.toks + 1 }) (hs : subscripted slice false (.ref 89) (.str (markS odd sign) t) = operate [.ref 89, .str (markS odd sign) t] (getItem (.ref 89) (.str (markS odd sign) t)))
    (hg : ∀ r, letTemporaryGo value (.ref 89) r = pure ()) : wpAny (model PG w) A (subscriptTail value slice (.ref 89) (.str (markS odd sign) t)) Q E s := exact_item X b.1 b.2.1 b.2.2.1 b.2.2.2 h hs hg
theorem bad_ok (kind : Int) : PyData.strOk (badW kind) = true := by
  unfold badW
  split
  · exact ok_value
  split
  · exact ok_reply
  · exact ok_proto
theorem bad_item {prog : Program} {w : World} {A : Around} {E : Value → Shared → Prop} {s : Shared} {h₀ : Heap} {L l : Addr} {news : List (Addr × Obj)} {value slice : PySem.Expr} {kind : Int} {a b c d e f u : Tok} {n : Nat} {Q : Value → Shared → Prop} (N : News h₀ L s.heap news)
    (hm : (l, listOf #[.str (PySem.Str.ofString "value") a, .str (PySem.Str.ofString "proto") b, .str (PySem.Str.ofString "proto") c, .str (PySem.Str.ofString "proto") d, .str (PySem.Str.ofString "proto") e, .str (PySem.Str.ofString "reply") f] n) ∈ news) (h4 : 4 ≤ kind) (h9 : kind < 10)
    (h : ∀ t, Q (.str (badW kind) t) s) (hs : subscripted slice false (.ref l) (.int (kind - 4) u) = operate [.ref l, .int (kind - 4) u] (getItem (.ref l) (.int (kind - 4) u)))
    : wpAny (model prog w) A (subscriptTail value slice (.ref l) (.int (kind - 4) u)) Q E s := by
  obtain ⟨t, hx⟩ : ∃ t, (#[Value.str (PySem.Str.ofString "value") a, .str (PySem.Str.ofString "proto") b, .str (PySem.Str.ofString "proto") c, .str (PySem.Str.ofString "proto") d, .str (PySem.Str.ofString "proto") e, .str (PySem.Str.ofString "reply") f] : Array Value)[(kind - 4).toNat]? = some (.str (badW kind) t) := by
    have hk : kind = 4 ∨ kind = 5 ∨ kind = 6 ∨ kind = 7 ∨ kind = 8 ∨ kind = 9 := by omega
    rcases hk with rfl | rfl | rfl | rfl | rfl | rfl
    · exact ⟨a, rfl⟩
    · exact ⟨b, rfl⟩
    · exact ⟨c, rfl⟩
    · exact ⟨d, rfl⟩
    · exact ⟨e, rfl⟩
    · exact ⟨f, rfl⟩
  exact PySem.W.item_litK (News.isList N hm) (by omega) (by omega) (by simpa using hx) (h t) hs
end Mine
end
section
open PySem PySem.W PyProof.Rows
set_option Elab.async false
set_option maxRecDepth 100000
namespace Mine
theorem none_raised (args : List WData) : ∀ cls, PySem.Challenge.rw_yh0012_01.row.claim.raises args cls = false := raisesW_false (fun ct h => nomatch (show ct ∈ ([] : List (ExcName × WTm)) from h))
theorem post_true (ns : List Int) : PySem.Challenge.rw_yh0012_01.row.claim.post [ofPy (PyData.list (List.map PyData.int ns))] (WData.bool true) [ofPy (PyData.list (List.map PyData.int ns))] = true := by
  refine postW_of (by wrow_shape) (w_eq_bool (w_res rfl) w_lit) ?_
  first | rfl | decide | w_fin
end Mine
end
section
open PySem PySem.W PyProof.Rows
set_option Elab.async false
set_option maxRecDepth 100000
set_option maxHeartbeats 8000000
namespace Mine
local macro_rules | `(tactic| size_fits) => `(tactic| exact Nat.le_of_ble_eq_true rfl)
theorem at1_use {w : World} {dd uu : Nat} {P : Around → Heap → Addr → (PySem.Str → Option Value) → List (Addr × Obj) → Shared → Prop} (C : AtN w dd uu P)
  {cn : PySem.Str} {cns : List (PySem.Str × NameKind)} {cg cc : Bool} {cmo : List (PySem.Str × Const)} {a : Addr} {ccd : Value} {h₀ : Heap} {L : Addr} {m mg mb : PySem.Str → Option Value} {mean : ExcName → Option Value} {news : List (Addr × Obj)} {s : Shared}
  (B : Below callerA h₀ [] h₀) (F : Fr h₀ L s.heap m) (X : (KK w).In h₀) (N : News h₀ L s.heap news) (T : TopM mean mg mb h₀) (hd : 1 + claimMargin + 1 + dd < recursionLimit) (hu : 7 + uu < cLine) :
  P (callerA.deeper (envOf cn { kind := .function, names := cns, isGenerator := cg, isCoroutine := cc, more := cmo } L a ccd)) h₀ L m news s := C (1 + claimMargin + 1) 7 (some []) cn cns cg cc cmo a ccd [] [] _ _ _ _ _ _ _ _ _ _ B F X N T hd hu
local macro_rules | `(tactic| k_all) => `(tactic| assumption)
local macro_rules | `(tactic| bits_by_make) => `(tactic| with_reducible assumption)
theorem backAt_mono {N N' : List (Addr × Obj)} {l : Addr} {u : List (Int × Int)} (h : ∀ p ∈ N, p ∈ N') : BackAt N l u → BackAt N' l u := fun ⟨d, e, items, n, k, t1, t2, t3, t4, h1, h2, h3, h4⟩ => ⟨d, e, items, n, k, t1, t2, t3, t4, h _ h1, h _ h2, h _ h3, tells_mono h h4⟩
theorem top_cast {v : Program} {l : List PySem.Str} {mean : ExcName → Option Value} {mg mb : PySem.Str → Option Value} {h : Heap} (e : v = VIEW) (T : Top v (looseW v l) mean mg mb h) : Top VIEW (looseW VIEW l) mean mg mb h := by
  subst e
  exact T
theorem kpf (P : Params) : [2, 3, 6, 11, 12, 35, 36, 37, 38, 40, 41, 43, 44, 45, 52, 53, 54, 55, 58, 65, 66, 67, 70, 77, 78, 79, 82, 84, 85, 87, 88, 89, 92, 94, 95, 97, 98, 99, 101, 102, 104, 105, 106, 108, 109, 111, 112, 113, 115, 116, 118, 119, 120, 122, 123, 125, 126, 127, 129, 130, 132, 133, 134, 136, 137, 139, 140, 141, 143, 144, 146, 147, 148, 150, 151, 153, 154, 155, 158, 159, 160, 162, 163, 165, 166] = (kmk.heap_1 P).map (·.1) := by kernel_rfl
noncomputable abbrev KHOOK : Hook := kHook kmk.heap_1 [2, 3, 6, 11, 12, 35, 36, 37, 38, 40, 41, 43, 44, 45, 52, 53, 54, 55, 58, 65, 66, 67, 70, 77, 78, 79, 82, 84, 85, 87, 88, 89, 92, 94, 95, 97, 98, 99, 101, 102, 104, 105, 106, 108, 109, 111, 112, 113, 115, 116, 118, 119, 120, 122, 123, 125, 126, 127, 129, 130, 132, 133, 134, 136, 137, 139, 140, 141, 143, 144, 146, 147, 148, 150, 151, 153, 154, 155, 158, 159, 160, 162, 163, 165, 166] kpf
noncomputable abbrev NM3 : List PySem.Str := [PySem.Str.ofString "_quoted", PySem.Str.ofString "_paren_depth", PySem.Str.ofString "EXACT_TOKEN_TYPES"]
noncomputable abbrev WALK (v : Program) (d : DefRec) (kwd : List (PySem.Str × PySem.Expr)) : Prop := WalkC v NM3 (XL v []) (Hook.says KHOOK) PySem.Challenge.rw_yh0012_01.row.toRowW d kwd (fun f vs => PySem.call f vs)
theorem use_walk {d : DefRec} {kwd : List (PySem.Str × PySem.Expr)} (e : defOf VIEW PySem.Challenge.rw_yh0012_01.row.name = some (d, kwd)) (h : WALK VIEW d kwd) : ∀ d' kwd', defOf VIEW PySem.Challenge.rw_yh0012_01.row.name = some (d', kwd') → WALK VIEW d' kwd' := by
  intro d' kwd' e'
  have := e.symm.trans e'
  cases this
  exact h
theorem law_walk : ∀ d kwd, defOf VIEW PySem.Challenge.rw_yh0012_01.row.name = some (d, kwd) → WALK VIEW d kwd := by
  k_with_none
  k_with "my all" => (with_reducible (first | (intro p hp; (repeat' (first | assumption | refine List.mem_cons_of_mem _ ?_ | refine List.mem_append_left _ ?_)); done) | (refine List.forall_mem_cons.mpr ⟨?_, ?_⟩; focus ((repeat' (first | exact List.mem_cons_self | refine List.mem_cons_of_mem _ ?_)); done); kcj_all)))
  k_with "my ne" => (refine neN ?_; (try dsimp only); with_reducible (first | assumption | (refine Ne.symm ?_; assumption) | exact Nat.ne_of_lt (by assumption) | exact Nat.ne_of_gt (by assumption)))
  k_with "call ref" => ((k_here; (with_reducible show wpAny _ _ (call (Value.ref 119) [Value.ref _]) _ _ _); k_dflt (refine' (at1_use (cells_law _ _ _ _ ?pa ?pb) ?B ?F ?X ?N ?T ?hd ?hu) _ _ ?p0 ?_; (case pa => assumption); (case pb => assumption);(case B => assumption); (case F => assumption); (case X => assumption); (case N => assumption); (case T => assumption); (case hd => decide); (case hu => decide); (case p0 => assumption); k_whole); intro _ _ _ _ _ _ _ _ _ _ _ _ _ _ _ _; (try dsimp only [pairO]); (try k_sweep)))
  k_with "call ref" => ((k_here; (with_reducible show wpAny _ _ (call (Value.ref 133) [Value.ref _]) _ _ _); k_dflt (refine' (at1_use (word_law _ _ _ _ _ _ _ _ _ _ _ _ 0) ?B ?F ?X ?N ?T ?hd ?hu) _ _ ?p0 ?_; (case B => assumption); (case F => assumption); (case X => assumption); (case N => assumption); (case T => assumption); (case hd => decide); (case hu => decide); (case p0 => exact .head _); k_whole); intro _ _ _ _ _ _ _ _ _ _ _ _ _ _; (try dsimp only [pairO]); (try k_sweep)))
  k_with "call ref" => ((k_here; (with_reducible show wpAny _ _ (call (Value.ref 147) [Value.str _ _, Value.str _ _]) _ _ _); k_dflt (refine' (told_reply _ _ _ _ _ ?p0 ?p1 _ _ _ _ _ _ _ _ _ _ _ _ _ _ _ ?B ?F ?X ?N ?T _ _ ?_); (case B => assumption); (case F => assumption); (case X => assumption); (case N => assumption); (case T => assumption); (case p0 => with_reducible assumption); (case p1 => exact BadHead.is (by with_reducible assumption)); k_whole); intro _ _ _ _ _ _; (try dsimp only [pairO]); (try k_sweep)))
  k_with "compareOp NotEq ref ref" => ((k_here; (with_reducible show wpAny _ _ (compareOp CmpOp.NotEq (Value.ref _) (Value.ref _)) _ _ _); k_dflt (refine ne_dataH (by ke_read) (by ke_read) (shaped_two (by first | with_reducible exact ok_reply | with_reducible exact ok_proto | with_reducible exact ok_value | with_reducible exact ok_229 | with_reducible assumption) (by first | with_reducible exact ok_reply | with_reducible exact ok_proto | with_reducible exact ok_value | with_reducible exact ok_229 | with_reducible assumption)) (shaped_two (by first | with_reducible exact ok_reply | with_reducible exact ok_proto | with_reducible exact ok_value | with_reducible exact ok_229 | with_reducible assumption) (by first | with_reducible exact ok_reply | with_reducible exact ok_proto | with_reducible exact ok_value | with_reducible exact ok_229 | with_reducible assumption)) (by ke_room) ?_); ke_norm))
  k_with "getMethod str" => ((k_here; (with_reducible show wpAny _ _ (getMethod (Value.str _ _) (PySem.Str.ofString "encode") _) _ _ _); k_dflt (refine' method_encode ?_; k_whole)))
  k_with "call builtin:str.encode" => ((k_here; k_dflt (refine' call_encode ?p1 ?p2 ?p3 ?_; (case p1 => with_reducible assumption); (case p2 => with_reducible assumption); (case p3 => with_reducible assumption); k_whole); intro _ _ _ hb; (have hbs := enc_size hb (by with_reducible assumption)); (try dsimp only); (try k_sweep)))
  k_with "call builtin:str.index" => ((k_dflt (refine' index_in ?hc ?_; (case hc => with_reducible assumption); k_whole)))
  k_with "subscriptTail" => ((k_here; (with_reducible show wpAny _ _ (subscriptTail _ _ (Value.str _ _) (Value.int _ _)) _ _ _); k_dflt (refine' item_is (by with_reducible assumption) ?h0 ?h1 ?hn ?_ ?hs ?ht; (case h0 => with_reducible assumption); (case h1 => with_reducible assumption); (case hn => with_reducible assumption); (case hs => with_unfolding_all rfl); (case ht => (intro _; with_unfolding_all rfl)); k_whole)))
  k_with "subscriptTail Name BinOp str int" => ((k_here; (with_reducible show wpAny _ _ (subscriptTail _ _ (Value.str _ _) (Value.int _ _)) _ _ _); k_dflt (refine' item_is (by with_reducible assumption) ?h0 ?h1 ?hn ?_ ?hs ?ht; (case h0 => with_reducible assumption); (case h1 => with_reducible assumption); (case hn => with_reducible assumption); (case hs => with_unfolding_all rfl); (case ht => (intro _; with_unfolding_all rfl)); k_whole)))
  k_with "subscriptTail" => ((k_here; (with_reducible show wpAny _ _ (subscriptTail _ _ (Value.ref _) (Value.int _ _)) _ _ _); k_dflt (refine' item_list (News.isList (by k_asm) (by k_mem)) ?h0 ?hf ?hx ?_ ?hs ?hg; (case hx => with_reducible assumption); (case h0 => with_reducible assumption); (case hf => with_reducible assumption); (case hs => with_unfolding_all rfl); (case hg => (intro _; with_unfolding_all rfl)); k_whole)))
  k_with "subscriptTail" => ((k_here; (with_reducible show wpAny _ _ (subscriptTail _ _ (Value.ref 89) (Value.str _ _)) _ _ _); k_dflt (refine' exact_itemB ?kx ?k1 ?_ ?hs ?hg; (case kx => exact Frag.In.keeps (by with_reducible assumption) (Fr.keep (by with_reducible assumption))); (case k1 => with_reducible assumption); (case hs => with_unfolding_all rfl); (case hg => (intro _; with_unfolding_all rfl)); k_whole); intro _))
  k_with "call ref" => ((k_here; (with_reducible show wpAny _ _ (call (Value.ref 44) [Value.bytes _ _, Value.int _ _]) _ _ _); k_dflt (refine' (at1_use (paren_law _ _ _ _ _ ?pa) ?B ?F ?X ?N ?T ?hd ?hu) _ _  ?_; (case pa => with_reducible assumption);(case B => assumption); (case F => assumption); (case X => assumption); (case N => assumption); (case T => assumption); (case hd => decide); (case hu => decide);  k_whole); intro _ _ _ _ _; (try dsimp only [pairO]); (try k_sweep)))
  k_with "call ref" => ((k_here; (with_reducible show wpAny _ _ (call (Value.ref 44) [Value.bytes _ _]) _ _ _); k_dflt (refine' (at1_use (paren_law0 _ _ _ ?pa) ?B ?F ?X ?N ?T ?hd ?hu) _ _  ?_; (case pa => with_reducible assumption);(case B => assumption); (case F => assumption); (case X => assumption); (case N => assumption); (case T => assumption); (case hd => decide); (case hu => decide);  k_whole); intro _ _ _ _ _; (try dsimp only [pairO]); (try k_sweep)))
  k_with "call ref" => ((k_here; (with_reducible show wpAny _ _ (call (Value.ref 159) [Value.int _ _, Value.int _ _, Value.int _ _, Value.int _ _, Value.int _ _]) _ _ _); k_dflt (refine' (at1_use (back_law _ _ _ _ _ _ _ _ ?pa ?pb ?pc ?pd) ?B ?F ?X ?N ?T ?hd ?hu) _ _  ?_; (case pa => with_reducible assumption); (case pb => with_reducible assumption); (case pc => omega); (case pd => omega);(case B => assumption); (case F => assumption); (case X => assumption); (case N => assumption); (case T => assumption); (case hd => decide); (case hu => decide);  k_whole); intro _ _ _ _ _ _ _ _; (try dsimp only [pairO]); (try k_sweep)))
  k_with "call ref" => ((k_here; (with_reducible show wpAny _ _ (call (Value.ref 140) [Value.ref _]) _ _ _); k_dflt (refine' (at1_use (reduced_law _ _ _ _ _ ?pa) ?B ?F ?X ?N ?T ?hd ?hu) _ _ ?p0 ?p1 ?_; (case B => assumption); (case F => assumption); (case X => assumption); (case N => assumption); (case T => assumption); (case hd => decide); (case hu => decide); (case p0 => (rename (∀ p : Addr × Obj, p ∈ (_ :: _ : List (Addr × Obj)) → p ∈ (_ : List (Addr × Obj))) => hsub; exact hsub _ (.head _))); (case p1 => (rename (∀ p : Addr × Obj, p ∈ (_ :: _ : List (Addr × Obj)) → p ∈ (_ : List (Addr × Obj))) => hsub; exact tells4_mono (fun p hp => hsub p (.tail _ hp)) (by with_reducible assumption))); (case pa => omega); k_whole); intro _ _ _ _ _ _ _ _ _ _ _; (try dsimp only [pairO]); (try k_sweep)))
  refine use_walk (by rfl) ?_
  have hfill : kmk.heap_1 = kmk.heap_1 ∧ PySem.Challenge.rw_yh0012_01 = PySem.Challenge.rw_yh0012_01 := by
    k_fill
    exact ⟨rfl, rfl⟩
  clear hfill
  intro w s₀ s₁ mg mb G Y fa o pm cd doc dV kV ho hd hcd hD hmg hg args vals as hpre hlay hrd hwl hlo
  have KX := kIn_of Y
  have X := (Ground.X G).1
  have V := (Ground.X G).2
  refine Ground.open G ?_
  intro T B D TE TW
  try (refine guard_noD D (by decide +kernel) ?_; clear D)
  wrow_args hpre hlay hrd hwl hlo
  rename_i ns hs0 hlay0 hL1 hr1 hl2 a4 a3 dl vs a0 hL ra w1 r0 hI hrA hlen hcond
  have hn : ns.length ≤ 1000 := by omega
  clear hlen hcond
  have e1 := Dflts.none hD rfl
  have e2 := Dflts.noKw hD
  subst e1
  subst e2
  clear TE TW B Y G hs0 hlay0 hL1 hr1 hl2 hD
  refine wp_ctx0 (R := fun res s' => GoodWG PySem.Challenge.rw_yh0012_01.row.claim (classAt s₀.heap) (ExcName.means s₀.heap) [ofPy (PyData.list (List.map PyData.int ns))] s₁ res s') ?_ (fun fl s' g => ?_)
  rotate_left
  · rcases g.1 with ⟨v, _, _, h, _⟩ | ⟨e, _, _, h, _⟩
    · cases h; exact ⟨_, rfl⟩
    · cases h
  dsimp only at hd hcd
  clear hmg w1 r0 V
  refine call_fullC (binds := [(PySem.Str.ofString "script", .ref dl)]) (by decide) ho hd (Top.nolimit T) hcd (BindsTo.of_eq rfl) (locs rfl) (fun h₁ F => ?_) rfl rfl rfl (by decide)
  have B := below_caller s₁.heap
  clear ho hd hcd
  obtain ⟨mB, F2⟩ : ∃ mB : PySem.Str → Option Value, Fr s₁.heap (s₁.heap.objs.size) h₁ (fun y => if y = PySem.Str.ofString "script" then some (.ref dl) else mB y) := ⟨_, fr_again (x := PySem.Str.ofString "script") F rfl⟩
  generalize s₁.toks + [(PySem.Str.ofString "script", Value.ref dl)].length = tk₁
  clear F
  have N2 : News s₁.heap (s₁.heap.objs.size) h₁ [] := fun _ h => nomatch h
  with_reducible refine cutKC (P := fun G => ∀ (h2 : Heap) (tk2 : Nat) (mB : PySem.Str → Option Value) (d : Addr) (its : Array Value) (n : Nat) (ws : List W4) (N₀ : List (Addr × Obj)), Fr s₁.heap (s₁.heap.objs.size) h2 (fun y => if y = PySem.Str.ofString "word" then some (.ref d) else mB y) → News s₁.heap (s₁.heap.objs.size) h2 N₀ → ((d, listOf its n) ∈ N₀) → Tells4 N₀ its.toList ws → (∀ x ∈ ws, GoodL x) → (ws.length ≤ 10) → G { s₁ with heap := h2, toks := tk2 }) ?_ ?_
  · intro G hG E2
    (repeat' (first | ((fail_if_success (with_reducible show wpC _ _ _ _ _ _)); first | (k_unfold; (try dsimp only)) | (k_end; kc_close) | walk1 | (dsimp only; walk1) | (leave1; walk_say "STEP leave1"; (try dsimp only)) | fail "no step")))
    refine hG _ _ _ _ _ _ _ _ (by assumption) (by assumption) (by assumption) (by assumption) (by assumption) (by assumption)
  intro h2 tk2 mB1 d its n ws N₀ F3 N3 hd0 htl hgood hws
  clear F2 N2
  have hsz : its.size = ws.length := by rw [← Array.length_toList, tells4_len htl]
  with_reducible refine cutKC (P := fun G => ∀ (h2 : Heap) (tk2 : Nat) (mB : PySem.Str → Option Value) (tp tq tr ts : Tok), Fr s₁.heap (s₁.heap.objs.size) h2 (fun y => if y = PySem.Str.ofString "word" then some (.ref d) else if y = PySem.Str.ofString "p" then some (.int (matL ((ws.take 0).map W4.pw)).p tp) else if y = PySem.Str.ofString "q" then some (.int (matL ((ws.take 0).map W4.pw)).q tq) else if y = PySem.Str.ofString "r" then some (.int (matL ((ws.take 0).map W4.pw)).r tr) else if y = PySem.Str.ofString "s" then some (.int (matL ((ws.take 0).map W4.pw)).s ts) else mB y) → News s₁.heap (s₁.heap.objs.size) h2 N₀ → G { s₁ with heap := h2, toks := tk2 }) ?_ ?_
  · intro G hG E2
    (repeat' (first | ((fail_if_success (with_reducible show wpC _ _ _ _ _ _)); first | (k_unfold; (try dsimp only)) | (k_end; kc_close) | walk1 | (dsimp only; walk1) | (leave1; walk_say "STEP leave1"; (try dsimp only)) | fail "no step")))
    (with_reducible rename Fr _ _ _ _ => FZ)
    refine hG _ _ _ _ _ _ _ (fr_again (x := PySem.Str.ofString "word") (fr_again (x := PySem.Str.ofString "p") (fr_again (x := PySem.Str.ofString "q") (fr_again (x := PySem.Str.ofString "r") (fr_again (x := PySem.Str.ofString "s") (FZ) rfl) rfl) rfl) rfl) rfl) (by first | assumption | exact cb_drop (by assumption) (by kcj_all))
  intro h3 tk3 mB2 tp tq tr ts F4 N4
  clear F3 N3
  with_reducible refine cutKCC (P := fun G => ∀ (h2 : Heap) (tk2 : Nat) (mB : PySem.Str → Option Value) (tp tq tr ts : Tok), Fr s₁.heap (s₁.heap.objs.size) h2 (fun y => if y = PySem.Str.ofString "word" then some (.ref d) else if y = PySem.Str.ofString "p" then some (.int (matL (ws.map W4.pw)).p tp) else if y = PySem.Str.ofString "q" then some (.int (matL (ws.map W4.pw)).q tq) else if y = PySem.Str.ofString "r" then some (.int (matL (ws.map W4.pw)).r tr) else if y = PySem.Str.ofString "s" then some (.int (matL (ws.map W4.pw)).s ts) else mB y) → News s₁.heap (s₁.heap.objs.size) h2 N₀ → G { s₁ with heap := h2, toks := tk2 }) ?_ ?_
  · intro G hG E2
    k_dflt (refine forRangeC (h₀ := s₁.heap) (L := s₁.heap.objs.size) ws.length (fun i m₁ news₁ => N₀ = news₁ ∧ ∃ (mB : PySem.Str → Option Value) (tp tq tr ts : Tok), m₁ = (fun y => if y = PySem.Str.ofString "word" then some (.ref d) else if y = PySem.Str.ofString "p" then some (.int (matL ((ws.take i).map W4.pw)).p tp) else if y = PySem.Str.ofString "q" then some (.int (matL ((ws.take i).map W4.pw)).q tq) else if y = PySem.Str.ofString "r" then some (.int (matL ((ws.take i).map W4.pw)).r tr) else if y = PySem.Str.ofString "s" then some (.int (matL ((ws.take i).map W4.pw)).s ts) else mB y)) rfl (by omega) ?_ ?_ ?_)
    · have N5 : News s₁.heap (s₁.heap.objs.size) h3 ((d, listOf its n) :: N₀) := news_dup N4 hd0
      clear N4
      (repeat' (first | ((fail_if_success (with_reducible show wpC _ _ _ _ _ _)); first | (k_unfold; (try dsimp only)) | (k_end; kc_close) | walk1 | (dsimp only; walk1) | (leave1; walk_say "STEP leave1"; (try dsimp only)) | fail "no step")))
      exact ⟨_, _, _, _, _, _, _, _, rfl, rfl, by assumption, by assumption, cb_drop (by assumption) (by kcj_all), rfl, mB2, tp, tq, tr, ts, rfl⟩
    · rintro i t m₁ news₁ h tk it o' hi ⟨rfl, mB', tp, tq, tr, ts, rfl⟩ hap F5 N5
      clear F4 N4
      have hjl : ((i : Int)).toNat < its.toList.length := by rw [Array.length_toList, hsz, Int.toNat_natCast]; exact hi
      obtain ⟨aw, x, w1, w2, w3, w4, e1, e2, e3⟩ := tells4_get htl _ hjl
      rw [Array.getElem?_toList] at e1
      rw [Int.toNat_natCast] at e2
      obtain ⟨sign, dress, port, K', hline, hpow, hb⟩ := hgood x (List.mem_of_getElem? e2)
      have hnext := matL_next e2
      obtain ⟨xline, odd, kind, power⟩ := x
      dsimp only at e3 K' hline hpow hb hnext
      subst hline
      subst hpow
      have K := K'.to
      have M := K.mark
      have i0 : 0 ≤ (i : Int) := by omega
      have i1 : (i : Int) < 2 ^ 63 := by omega
      have hapd := neN (hap _ hd0)
      dsimp only at hapd
      have hapw := neN (hap _ e3)
      dsimp only at hapw
      with_reducible refine midK (P := fun G => ∀ (h2 : Heap) (tk2 : Nat) (tpl : Tok), Fr s₁.heap (s₁.heap.objs.size) h2 (fun y => if y = PySem.Str.ofString "place" then some (.int i tpl) else if y = PySem.Str.ofString "word" then some (.ref d) else if y = PySem.Str.ofString "p" then some (.int (matL ((ws.take i).map W4.pw)).p tp) else if y = PySem.Str.ofString "q" then some (.int (matL ((ws.take i).map W4.pw)).q tq) else if y = PySem.Str.ofString "r" then some (.int (matL ((ws.take i).map W4.pw)).r tr) else if y = PySem.Str.ofString "s" then some (.int (matL ((ws.take i).map W4.pw)).s ts) else mB' y) → News s₁.heap (s₁.heap.objs.size) h2 ((it, o') :: N₀) → G { s₁ with heap := h2, toks := tk2 }) ?_ ?_
      · intro G hG
        (repeat' (first | ((fail_if_success (with_reducible show wpC _ _ _ _ _ _)); first | (k_unfold; (try dsimp only)) | (k_end; kc_close) | walk1 | (dsimp only; walk1) | (leave1; walk_say "STEP leave1"; (try dsimp only)) | fail "no step")))
        all_goals exact hG _ _ _ _ (by assumption) (by assumption)
      intro _ h6 tk6 tpl F6 N6
      clear F5 N5
      with_reducible refine cutKC (P := fun G => ∀ (h2 : Heap) (tk2 : Nat) (tpl tln : Tok), Fr s₁.heap (s₁.heap.objs.size) h2 (fun y => if y = PySem.Str.ofString "line" then some (.str (lineS odd sign kind dress port) tln) else if y = PySem.Str.ofString "place" then some (.int i tpl) else if y = PySem.Str.ofString "word" then some (.ref d) else if y = PySem.Str.ofString "p" then some (.int (matL ((ws.take i).map W4.pw)).p tp) else if y = PySem.Str.ofString "q" then some (.int (matL ((ws.take i).map W4.pw)).q tq) else if y = PySem.Str.ofString "r" then some (.int (matL ((ws.take i).map W4.pw)).r tr) else if y = PySem.Str.ofString "s" then some (.int (matL ((ws.take i).map W4.pw)).s ts) else mB' y) → News s₁.heap (s₁.heap.objs.size) h2 ((it, o') :: N₀) → G { s₁ with heap := h2, toks := tk2 }) ?_ ?_
      · intro G hG E2
        have N7 : News s₁.heap (s₁.heap.objs.size) h6 ((d, listOf its n) :: (aw, quadO (.str (lineS odd sign kind dress port) w1) (.int odd w2) (.int kind w3) (.int (pwI odd sign kind dress port) w4)) :: (it, o') :: N₀) := news_dup (news_dup N6 (.tail _ e3)) (.tail _ (.tail _ hd0))
        clear N6
        dsimp only [quadO] at N7
        (repeat' (first | ((fail_if_success (with_reducible show wpC _ _ _ _ _ _)); first | (k_unfold; (try dsimp only)) | (k_end; kc_close) | walk1 | (dsimp only; walk1) | (leave1; walk_say "STEP leave1"; (try dsimp only)) | fail "no step")))
        exact hG _ _ _ _ (by assumption) (cb_drop (by assumption) (by kcj_all))
      intro h7 tk7 tpl tln F7 N7
      clear F6 N6
      with_reducible refine cutKC (P := fun G => ∀ (h2 : Heap) (tk2 : Nat) (tpl tln tkd : Tok), Fr s₁.heap (s₁.heap.objs.size) h2 (fun y => if y = PySem.Str.ofString "kind" then some (.int kind tkd) else if y = PySem.Str.ofString "line" then some (.str (lineS odd sign kind dress port) tln) else if y = PySem.Str.ofString "place" then some (.int i tpl) else if y = PySem.Str.ofString "word" then some (.ref d) else if y = PySem.Str.ofString "p" then some (.int (matL ((ws.take i).map W4.pw)).p tp) else if y = PySem.Str.ofString "q" then some (.int (matL ((ws.take i).map W4.pw)).q tq) else if y = PySem.Str.ofString "r" then some (.int (matL ((ws.take i).map W4.pw)).r tr) else if y = PySem.Str.ofString "s" then some (.int (matL ((ws.take i).map W4.pw)).s ts) else mB' y) → News s₁.heap (s₁.heap.objs.size) h2 ((it, o') :: N₀) → G { s₁ with heap := h2, toks := tk2 }) ?_ ?_
      · intro G hG E2
        have N8 : News s₁.heap (s₁.heap.objs.size) h7 ((d, listOf its n) :: (aw, quadO (.str (lineS odd sign kind dress port) w1) (.int odd w2) (.int kind w3) (.int (pwI odd sign kind dress port) w4)) :: (it, o') :: N₀) := news_dup (news_dup N7 (.tail _ e3)) (.tail _ (.tail _ hd0))
        clear N7
        dsimp only [quadO] at N8
        (repeat' (first | ((fail_if_success (with_reducible show wpC _ _ _ _ _ _)); first | (k_unfold; (try dsimp only)) | (k_end; kc_close) | walk1 | (dsimp only; walk1) | (leave1; walk_say "STEP leave1"; (try dsimp only)) | fail "no step")))
        exact hG _ _ _ _ _ (by assumption) (cb_drop (by assumption) (by kcj_all))
      intro h8 tk8 tpl tln tkd F8 N8
      clear F7 N7 hapw
      with_reducible refine cutKC (P := fun G => ∀ (h2 : Heap) (tk2 : Nat) (tpl tln tkd tot : Tok), Fr s₁.heap (s₁.heap.objs.size) h2 (fun y => if y = PySem.Str.ofString "other" then some (.str (otherS (lineS odd sign kind dress port) (Int.fmod i 3)) tot) else if y = PySem.Str.ofString "kind" then some (.int kind tkd) else if y = PySem.Str.ofString "line" then some (.str (lineS odd sign kind dress port) tln) else if y = PySem.Str.ofString "place" then some (.int i tpl) else if y = PySem.Str.ofString "word" then some (.ref d) else if y = PySem.Str.ofString "p" then some (.int (matL ((ws.take i).map W4.pw)).p tp) else if y = PySem.Str.ofString "q" then some (.int (matL ((ws.take i).map W4.pw)).q tq) else if y = PySem.Str.ofString "r" then some (.int (matL ((ws.take i).map W4.pw)).r tr) else if y = PySem.Str.ofString "s" then some (.int (matL ((ws.take i).map W4.pw)).s ts) else mB' y) → News s₁.heap (s₁.heap.objs.size) h2 ((it, o') :: N₀) → G { s₁ with heap := h2, toks := tk2 }) ?_ ?_
      · intro G hG E2
        have ll := K.len
        (repeat' (first | ((fail_if_success (with_reducible show wpC _ _ _ _ _ _)); first | (k_unfold; (try dsimp only)) | (k_end; kc_close) | walk1 | (dsimp only; walk1) | (leave1; walk_say "STEP leave1"; (try dsimp only)) | fail "no step")))
        (with_reducible rename Fr _ _ _ _ => FZ)
        exact hG _ _ _ _ _ _ FZ (by with_reducible assumption)
      intro h9 tk9 tpl tln tkd tot F9 N9
      clear F8 N8
      have j0 := mod_lo i 3 (by decide)
      have j1 := mod_hi i 3 (by decide)
      have hol := other_len (dress := dress) K (Int.fmod i 3)
      have hbad : BadHead (otherS (lineS odd sign kind dress port) (Int.fmod i 3)) := other_bad (odd := odd) (sign := sign) (kind := kind) (dress := dress) (port := port) j0 j1
      have hoO := strOk_of (other_small (kind := kind) (dress := dress) (port := port) M j0 j1)
      with_reducible refine cutKC (P := fun G => ∀ (h2 : Heap) (tk2 : Nat) (tpl tln tkd tot : Tok), Fr s₁.heap (s₁.heap.objs.size) h2 (fun y => if y = PySem.Str.ofString "other" then some (.str (otherS (lineS odd sign kind dress port) (Int.fmod i 3)) tot) else if y = PySem.Str.ofString "kind" then some (.int kind tkd) else if y = PySem.Str.ofString "line" then some (.str (lineS odd sign kind dress port) tln) else if y = PySem.Str.ofString "place" then some (.int i tpl) else if y = PySem.Str.ofString "word" then some (.ref d) else if y = PySem.Str.ofString "p" then some (.int (matL ((ws.take i).map W4.pw)).p tp) else if y = PySem.Str.ofString "q" then some (.int (matL ((ws.take i).map W4.pw)).q tq) else if y = PySem.Str.ofString "r" then some (.int (matL ((ws.take i).map W4.pw)).r tr) else if y = PySem.Str.ofString "s" then some (.int (matL ((ws.take i).map W4.pw)).s ts) else mB' y) → News s₁.heap (s₁.heap.objs.size) h2 ((it, o') :: N₀) → G { s₁ with heap := h2, toks := tk2 }) ?_ ?_
      · intro G hG E2
        clear K K' M hnext hgood hb e1 e2 hjl hsz hws i0 i1 htl
        (iterate 11 walk1)
        k_dflt (refine' (told_reply _ _ _ _ _ ?p0 ?p1 _ _ _ _ _ _ _ _ _ _ _ _ _ _ _ ?B ?F ?X ?N ?T _ _ ?_); (case B => assumption); (case F => assumption); (case X => assumption); (case N => assumption); (case T => assumption); (case p0 => with_reducible assumption); (case p1 => exact hbad.is); k_whole)
        clear hbad hol
        intro _ _ _ _ _ _
        (try dsimp only)
        (repeat' (first | ((fail_if_success (with_reducible show wpC _ _ _ _ _ _)); first | (k_unfold; (try dsimp only)) | (k_end; kc_close) | walk1 | (dsimp only; walk1) | (leave1; walk_say "STEP leave1"; (try dsimp only)) | fail "no step")))
        exact hG _ _ _ _ _ _ (by assumption) (cb_drop (by assumption) (by kcj_all))
      intro h10 tk10 tpl tln tkd tot F10 N10
      clear F9 N9 hol hbad hoO
      have hoL := strOk_of (line_small (kind := kind) (dress := dress) (port := port) M)
      have ll := K.len
      have k1 := K.k1
      have k0 := K.k0
      with_reducible refine cutKCC (P := fun G => ∀ (h2 : Heap) (tk2 : Nat) (tpl tln tkd tot ttd : Tok) (lt : Addr) (ob : Obj), Fr s₁.heap (s₁.heap.objs.size) h2 (fun y => if y = PySem.Str.ofString "told" then some (.ref lt) else if y = PySem.Str.ofString "other" then some (.str (otherS (lineS odd sign kind dress port) (Int.fmod i 3)) tot) else if y = PySem.Str.ofString "kind" then some (.int kind tkd) else if y = PySem.Str.ofString "line" then some (.str (lineS odd sign kind dress port) tln) else if y = PySem.Str.ofString "place" then some (.int i tpl) else if y = PySem.Str.ofString "word" then some (.ref d) else if y = PySem.Str.ofString "p" then some (.int (matL ((ws.take i).map W4.pw)).p tp) else if y = PySem.Str.ofString "q" then some (.int (matL ((ws.take i).map W4.pw)).q tq) else if y = PySem.Str.ofString "r" then some (.int (matL ((ws.take i).map W4.pw)).r tr) else if y = PySem.Str.ofString "s" then some (.int (matL ((ws.take i).map W4.pw)).s ts) else mB' y) → News s₁.heap (s₁.heap.objs.size) h2 ((lt, ob) :: (it, o') :: N₀) → (kind < 4 → ∃ t2 u, ob = ({ cls := .type "tuple", data := .seq #[.str (PySem.Str.ofString (toString (i : Int))) t2, .int port u] } : Obj)) → (4 ≤ kind → ∃ u t1, ob = listOf #[.str (badW kind) u, .str (lineS odd sign kind dress port) t1] 0) → G { s₁ with heap := h2, toks := tk2 }) ?_ ?_
      · intro G hG E2
        by_cases h4 : kind < 4
        · refine assignC (evalCallC ?_)
          (repeat' (first | ((fail_if_success (with_reducible show wpC _ _ _ _ _ _)); first | (k_unfold; (try dsimp only)) | (k_end; kc_close) | walk1 | (dsimp only; walk1) | (leave1; walk_say "STEP leave1"; (try dsimp only)) | fail "no step")))
          k_dflt (refine' callK_C ?k1 ?k2 ?_; (case k1 => k_asm); (case k2 => k_is); k_whole)
          (repeat' (first | ((fail_if_success (with_reducible show wpC _ _ _ _ _ _)); first | (k_unfold; (try dsimp only)) | (k_end; kc_close) | walk1 | (dsimp only; walk1) | (leave1; walk_say "STEP leave1"; (try dsimp only)) | fail "no step")))
          k_dflt (refine' told_good _ _ _ _ ?p0 ?p1 _ _ _ _ _ _ _ _ _ _ _ _ _ _ _ ?B ?F ?X ?N ?T _ _ ?_; (case B => assumption); (case F => assumption); (case X => assumption); (case N => assumption); (case T => assumption); (case p0 => with_reducible assumption); (case p1 => with_reducible assumption); k_whole)
          intro lt u h' tk' F' N'
          try dsimp only
          (repeat' (first | ((fail_if_success (with_reducible show wpC _ _ _ _ _ _)); first | (k_unfold; (try dsimp only)) | (k_end; kc_close) | walk1 | (dsimp only; walk1) | (leave1; walk_say "STEP leave1"; (try dsimp only)) | fail "no step")))
          (with_reducible rename Fr _ _ _ _ => FZ); (with_reducible rename News _ _ _ _ => NZ)
          refine hG _ _ _ _ _ _ 0 lt _ FZ NZ (fun _ => Exists.intro tk10 (Exists.intro u rfl)) (fun h5 => ?_)
          exfalso; omega
        · have h5 : 4 ≤ kind := by omega
          refine assignC (evalCallC ?_)
          (repeat' (first | ((fail_if_success (with_reducible show wpC _ _ _ _ _ _)); first | (k_unfold; (try dsimp only)) | (k_end; kc_close) | walk1 | (dsimp only; walk1) | (leave1; walk_say "STEP leave1"; (try dsimp only)) | fail "no step")))
          k_dflt (refine' callK_C ?k1 ?k2 ?_; (case k1 => k_asm); (case k2 => k_is); k_whole)
          (repeat' (first | ((fail_if_success (with_reducible show wpC _ _ _ _ _ _)); first | (k_unfold; (try dsimp only)) | (k_end; kc_close) | walk1 | (dsimp only; walk1) | (leave1; walk_say "STEP leave1"; (try dsimp only)) | fail "no step")))
          k_dflt (refine' told_bad _ _ _ _ ?p0 ?p1 _ _ _ _ _ _ _ _ _ _ _ _ _ _ _ ?B ?F ?X ?N ?T _ _ ?_; (case B => assumption); (case F => assumption); (case X => assumption); (case N => assumption); (case T => assumption); (case p0 => with_reducible assumption); (case p1 => with_reducible assumption); k_whole)
          intro lt u h' tk' F' N'
          try dsimp only
          (repeat' (first | ((fail_if_success (with_reducible show wpC _ _ _ _ _ _)); first | (k_unfold; (try dsimp only)) | (k_end; kc_close) | walk1 | (dsimp only; walk1) | (leave1; walk_say "STEP leave1"; (try dsimp only)) | fail "no step")))
          (with_reducible rename Fr _ _ _ _ => FZ); (with_reducible rename News _ _ _ _ => NZ)
          exact hG _ _ _ _ _ _ 0 lt _ FZ NZ (fun h6 => absurd h6 h4) (fun _ => Exists.intro u (Exists.intro tln rfl))
      intro h11 tk11 tpl tln tkd tot ttd lt ob F11 N11 hob1 hob2
      clear F10 N10
      with_reducible refine cutKC (P := fun G => ∀ (h2 : Heap) (tk2 : Nat) (tpl tln tkd tot ttd tnu : Tok) (lt : Addr), Fr s₁.heap (s₁.heap.objs.size) h2 (fun y => if y = PySem.Str.ofString "number" then some (.int (tokI odd sign) tnu) else if y = PySem.Str.ofString "told" then some (.ref lt) else if y = PySem.Str.ofString "other" then some (.str (otherS (lineS odd sign kind dress port) (Int.fmod i 3)) tot) else if y = PySem.Str.ofString "kind" then some (.int kind tkd) else if y = PySem.Str.ofString "line" then some (.str (lineS odd sign kind dress port) tln) else if y = PySem.Str.ofString "place" then some (.int i tpl) else if y = PySem.Str.ofString "word" then some (.ref d) else if y = PySem.Str.ofString "p" then some (.int (matL ((ws.take i).map W4.pw)).p tp) else if y = PySem.Str.ofString "q" then some (.int (matL ((ws.take i).map W4.pw)).q tq) else if y = PySem.Str.ofString "r" then some (.int (matL ((ws.take i).map W4.pw)).r tr) else if y = PySem.Str.ofString "s" then some (.int (matL ((ws.take i).map W4.pw)).s ts) else mB' y) → News s₁.heap (s₁.heap.objs.size) h2 ((lt, ob) :: (it, o') :: N₀) → (kind < 4 → ∃ t2 u, ob = ({ cls := .type "tuple", data := .seq #[.str (PySem.Str.ofString (toString (i : Int))) t2, .int port u] } : Obj)) → (4 ≤ kind → ∃ u t1, ob = listOf #[.str (badW kind) u, .str (lineS odd sign kind dress port) t1] 0) → G { s₁ with heap := h2, toks := tk2 }) ?_ ?_
      · intro G hG E2
        have hcon : Txt.contains (lineS odd sign kind dress port) (PySem.Str.ofString "(") = true := (cut_line odd sign kind dress port).has
        have hit := item_first (odd := odd) (sign := sign) (kind := kind) (dress := dress) (port := port)
        have hfd := find_line (odd := odd) (sign := sign) (kind := kind) (dress := dress) (port := port)
        have hln := line_len (odd := odd) (sign := sign) (kind := kind) (dress := dress) (port := port)
        have hne : (fieldsL odd sign kind port).length ≠ 0 := LineOk.ne
        have hq0 : 0 ≤ Txt.find (lineS odd sign kind dress port) (PySem.Str.ofString "(") + 1 := by rw [hfd]; omega
        have hq1 : Txt.find (lineS odd sign kind dress port) (PySem.Str.ofString "(") + 1 < (((lineS odd sign kind dress port)).length : Int) := by rw [hfd, hln]; omega
        have hq2 : ((lineS odd sign kind dress port)).length ≤ 1000 := by omega
        have hq3 : Txt.item (lineS odd sign kind dress port) (Txt.find (lineS odd sign kind dress port) (PySem.Str.ofString "(") + 1) = markS odd sign := hit
        have mb : MarkB odd sign := ⟨K.o0, K.o1, K.s0, K.s1⟩
        clear hfd hln hne K K' M hnext hgood hb e1 e2 e3 hjl hsz hws i0 i1 htl ll
        (repeat' (first | ((fail_if_success (with_reducible show wpC _ _ _ _ _ _)); first | (k_unfold; (try dsimp only)) | (k_end; kc_close) | walk1 | (dsimp only; walk1) | (leave1; walk_say "STEP leave1"; (try dsimp only)) | fail "no step")))
        (with_reducible rename Fr _ _ _ _ => FZ)
        (with_reducible rename News _ _ _ _ => NZ)
        exact hG _ _ _ _ _ _ 0 _ _ FZ NZ hob1 hob2
      intro h12 tk12 tpl tln tkd tot ttd tnu lt F12 N12 hob1 hob2
      clear F11 N11
      have hb2 : 2 ≤ ((lineS odd sign kind dress port)).length := by rw [line_len]; have := (head_free kind dress).2; omega
      have hb3 : ((lineS odd sign kind dress port)).length ≤ 1000 := by omega
      have hb4 := line_small (kind := kind) (dress := dress) (port := port) M
      with_reducible refine cutKC (P := fun G => ∀ (h2 : Heap) (tk2 : Nat) (tpl tln tkd tot ttd tnu tnn : Tok) (lt : Addr), Fr s₁.heap (s₁.heap.objs.size) h2 (fun y => if y = PySem.Str.ofString "n" then some (.int (pwI odd sign kind dress port) tnn) else if y = PySem.Str.ofString "number" then some (.int (tokI odd sign) tnu) else if y = PySem.Str.ofString "told" then some (.ref lt) else if y = PySem.Str.ofString "other" then some (.str (otherS (lineS odd sign kind dress port) (Int.fmod i 3)) tot) else if y = PySem.Str.ofString "kind" then some (.int kind tkd) else if y = PySem.Str.ofString "line" then some (.str (lineS odd sign kind dress port) tln) else if y = PySem.Str.ofString "place" then some (.int i tpl) else if y = PySem.Str.ofString "word" then some (.ref d) else if y = PySem.Str.ofString "p" then some (.int (matL ((ws.take i).map W4.pw)).p tp) else if y = PySem.Str.ofString "q" then some (.int (matL ((ws.take i).map W4.pw)).q tq) else if y = PySem.Str.ofString "r" then some (.int (matL ((ws.take i).map W4.pw)).r tr) else if y = PySem.Str.ofString "s" then some (.int (matL ((ws.take i).map W4.pw)).s ts) else mB' y) → News s₁.heap (s₁.heap.objs.size) h2 ((it, o') :: N₀) → G { s₁ with heap := h2, toks := tk2 }) ?_ ?_
      · intro G hG E2
        by_cases h4 : kind < 4
        · obtain ⟨t2, u, rfl⟩ := hob1 h4
          clear hob1 hob2 hoL hnext hgood K' M htl e1 e2 e3 hsz hws
          (repeat' (first | ((fail_if_success (with_reducible show wpC _ _ _ _ _ _)); first | (k_unfold; (try dsimp only)) | (k_end; kc_close) | walk1 | (dsimp only; walk1) | (leave1; walk_say "STEP leave1"; (try dsimp only)) | fail "no step")))
          · exfalso
            rename ((_ != _) = true) => hx
            rw [bne_self_eq_false] at hx
            cases hx
          (with_reducible rename Fr _ _ _ _ => FZ); (with_reducible rename News _ _ _ _ => NZ)
          rename (_ = List.map _ _) => hbb
          have e := depth_net K hbb
          have e5 : port + netI odd sign kind dress port = pwI odd sign kind dress port := by rw [pwI, if_pos h4]; omega
          rw [e, e5] at FZ
          exact hG _ _ _ _ _ _ 0 _ _ lt FZ (cb_drop NZ (by kcj_all))
        · obtain ⟨u, t1, rfl⟩ := hob2 (by omega)
          clear hob1 hob2 hnext hgood K' M htl e1 e2 e3 hsz hws
          have h5 : 4 ≤ kind := by omega
          have hbO := bad_ok kind
          iterate 34 (first | walk1 | (dsimp only; walk1))
          (with_reducible show wpAny _ _ (subscriptTail _ _ (Value.ref _) (Value.int (_ - 4) _)) _ _ _)
          k_dflt (refine' bad_item ?n ?m ?k1 ?k2 ?_ ?hs; (case n => k_asm); (case m => k_mem); (case k1 => with_reducible assumption); (case k2 => with_reducible assumption); (case hs => with_unfolding_all rfl); k_whole)
          intro _
          (repeat' (first | ((fail_if_success (with_reducible show wpC _ _ _ _ _ _)); first | (k_unfold; (try dsimp only)) | (k_end; kc_close) | walk1 | (dsimp only; walk1) | (leave1; walk_say "STEP leave1"; (try dsimp only)) | fail "no step")))
          all_goals first | (exfalso; omega) | skip
          · (with_reducible rename Fr _ _ _ _ => FZ); (with_reducible rename News _ _ _ _ => NZ)
            rename (_ = List.map _ _) => hbb
            have e := depth_net K hbb
            rename kind = 4 => h6
            have e5 : netI odd sign kind dress port = pwI odd sign kind dress port := by rw [pwI, if_neg h4, if_pos h6]
            rw [e, e5] at FZ
            exact hG _ _ _ _ _ _ 0 _ _ lt FZ (cb_drop NZ (by kcj_all))
          · (with_reducible rename Fr _ _ _ _ => FZ); (with_reducible rename News _ _ _ _ => NZ)
            rename (_ = List.map _ _) => hbb
            have e := depth_net K hbb
            rename ¬ kind = 4 => h6
            have e5 : tokI odd sign + netI odd sign kind dress port = pwI odd sign kind dress port := by rw [pwI, if_neg h4, if_neg h6]; omega
            rw [e, e5] at FZ
            exact hG _ _ _ _ _ _ 0 _ _ lt FZ (cb_drop NZ (by kcj_all))
      intro h13 tk13 tpl tln tkd tot ttd tnu tnn lt F13 N13
      clear F12 N12
      have hi5 : ws.length ≤ 20 := by omega
      have hsm : ∀ x ∈ (ws.take i).map W4.pw, x.2.natAbs ≤ 2 ^ 80 := by
        intro x hx
        obtain ⟨y, hy, rfl⟩ := List.mem_map.mp hx
        obtain ⟨_, _, _, _, _, _, h⟩ := hgood y (List.mem_of_mem_take hy)
        exact Nat.le_trans h (by decide)
      obtain ⟨bp, bq, br, bs⟩ := mat_bits hsm (by rw [List.length_map]; exact Nat.le_trans (List.length_take_le' _ _) hi5)
      have bn : Builtin.Int.intBits (pwI odd sign kind dress port) ≤ 2000 := by
        exact intBits_le_iff.mpr (Nat.lt_of_le_of_lt hb (Nat.lt_trans (show 10 ^ 20 + 300 < 2 ^ 80 by decide) (Nat.pow_lt_pow_right (by omega) (by omega))))
      with_reducible refine cutKC (P := fun G => ∀ (h2 : Heap) (tk2 : Nat) (tpl tln tkd tot ttd tnu tnn : Tok) (lt : Addr), Fr s₁.heap (s₁.heap.objs.size) h2 (fun y => if y = PySem.Str.ofString "n" then some (.int (pwI odd sign kind dress port) tnn) else if y = PySem.Str.ofString "number" then some (.int (tokI odd sign) tnu) else if y = PySem.Str.ofString "told" then some (.ref lt) else if y = PySem.Str.ofString "other" then some (.str (otherS (lineS odd sign kind dress port) (Int.fmod i 3)) tot) else if y = PySem.Str.ofString "kind" then some (.int kind tkd) else if y = PySem.Str.ofString "line" then some (.str (lineS odd sign kind dress port) tln) else if y = PySem.Str.ofString "place" then some (.int i tpl) else if y = PySem.Str.ofString "word" then some (.ref d) else if y = PySem.Str.ofString "p" then some (.int (matL ((ws.take i).map W4.pw)).p tp) else if y = PySem.Str.ofString "q" then some (.int (matL ((ws.take i).map W4.pw)).q tq) else if y = PySem.Str.ofString "r" then some (.int (matL ((ws.take i).map W4.pw)).r tr) else if y = PySem.Str.ofString "s" then some (.int (matL ((ws.take i).map W4.pw)).s ts) else mB' y) → News s₁.heap (s₁.heap.objs.size) h2 ((it, o') :: N₀) → G { s₁ with heap := h2, toks := tk2 }) ?_ ?_
      · intro G hG E2
        clear hgood hnext hap hsm bp bq br bs bn
        (repeat' (first | ((fail_if_success (with_reducible show wpC _ _ _ _ _ _)); first | (k_unfold; (try dsimp only)) | (k_end; kc_close) | walk1 | (dsimp only; walk1) | (leave1; walk_say "STEP leave1"; (try dsimp only)) | fail "no step")))
        (with_reducible rename Fr _ _ _ _ => FZ); (with_reducible rename News _ _ _ _ => NZ)
        exact hG _ _ _ _ _ _ 0 _ _ lt FZ NZ
      intro h14 tk14 tpl tln tkd tot ttd tnu tnn lt F14 N14
      clear F13 N13
      have hmod : Int.fmod (tokI odd sign) 2 = odd := by rw [Int.fmod_eq_emod_of_nonneg _ (by omega)]; exact M.2.2.2.2.2.2.1
      rw [mul_let] at hnext
      refine execs_stepC ?_
      by_cases ho : odd = 0
      · rw [if_pos ho] at hnext
        have hz : Int.fmod (tokI odd sign) 2 = 0 := hmod.trans ho
        clear hgood hsm hb e1 e2 e3 htl K K' M
        (repeat' (first | ((fail_if_success (with_reducible show wpC _ _ _ _ _ _)); first | (k_unfold; (try dsimp only)) | (k_end; kc_close) | walk1 | (dsimp only; walk1) | (leave1; walk_say "STEP leave1"; (try dsimp only)) | fail "no step")))
        all_goals first | (exfalso; omega) | skip
        refine wpC_of_any (wpAny_execs_nil ?_)
        (with_reducible rename Fr _ _ _ _ => FZ); (with_reducible rename News _ _ _ _ => NZ)
        exact ⟨_, _, _, N₀, rfl, fr_again (x := PySem.Str.ofString "word") (fr_again (x := PySem.Str.ofString "p") (fr_again (x := PySem.Str.ofString "q") (fr_again (x := PySem.Str.ofString "r") (fr_again (x := PySem.Str.ofString "s") (FZ) rfl) rfl) rfl) rfl) rfl, cb_drop NZ (by kcj_all), hap, rfl, _, _, _, _, _, by rw [hnext]⟩
      · rw [if_neg ho] at hnext
        have hz : ¬ Int.fmod (tokI odd sign) 2 = 0 := fun h => ho (hmod.symm.trans h)
        clear hgood hsm hb e1 e2 e3 htl K K' M
        (repeat' (first | ((fail_if_success (with_reducible show wpC _ _ _ _ _ _)); first | (k_unfold; (try dsimp only)) | (k_end; kc_close) | walk1 | (dsimp only; walk1) | (leave1; walk_say "STEP leave1"; (try dsimp only)) | fail "no step")))
        all_goals first | (exfalso; omega) | skip
        refine wpC_of_any (wpAny_execs_nil ?_)
        (with_reducible rename Fr _ _ _ _ => FZ); (with_reducible rename News _ _ _ _ => NZ)
        exact ⟨_, _, _, N₀, rfl, fr_again (x := PySem.Str.ofString "word") (fr_again (x := PySem.Str.ofString "p") (fr_again (x := PySem.Str.ofString "q") (fr_again (x := PySem.Str.ofString "r") (fr_again (x := PySem.Str.ofString "s") (FZ) rfl) rfl) rfl) rfl) rfl, cb_drop NZ (by kcj_all), hap, rfl, _, _, _, _, _, by rw [hnext]⟩
    · rintro m₁ news₁ h tk ⟨rfl, mB', tp, tq, tr, ts, rfl⟩ F5 N5
      rw [List.take_length] at F5
      exact hG _ _ _ _ _ _ _ F5 N5
  intro h4 tk4 mB3 tp tq tr ts F5 N5
  clear F4 N4
  rw [← reduce_mat] at F5
  have r1 : Red (reduceW (ws.map W4.pw)) := reduce_red fun x hx => by
    obtain ⟨y, hy, rfl⟩ := List.mem_map.mp hx
    obtain ⟨_, _, _, K', _⟩ := hgood y hy
    have := K'.o0
    have := K'.o1
    show y.odd = 0 ∨ y.odd = 1
    omega
  have r2 := red_small hws hgood
  have r3 : (reduceW (ws.map W4.pw)).length ≤ ws.length := by have := reduce_len (ws.map W4.pw); rw [List.length_map] at this; exact this
  with_reducible refine cutKC (P := fun G => ∀ (h2 : Heap) (tk2 : Nat) (tp tq tr ts : Tok), Fr s₁.heap (s₁.heap.objs.size) h2 (fun y => if y = PySem.Str.ofString "word" then some (.ref d) else if y = PySem.Str.ofString "p" then some (.int (matL (reduceW (ws.map W4.pw))).p tp) else if y = PySem.Str.ofString "q" then some (.int (matL (reduceW (ws.map W4.pw))).q tq) else if y = PySem.Str.ofString "r" then some (.int (matL (reduceW (ws.map W4.pw))).r tr) else if y = PySem.Str.ofString "s" then some (.int (matL (reduceW (ws.map W4.pw))).s ts) else mB3 y) → News s₁.heap (s₁.heap.objs.size) h2 N₀ → G { s₁ with heap := h2, toks := tk2 }) ?_ ?_
  · intro G hG E2
    clear hgood r1 r2 r3 htl
    (iterate 11 walk1)
    k_dflt (refine' (told_proto _ _ _ _ _ ?p0 ?p1 ?p2 ?p3 _ _ _ _ _ _ _ _ _ _ _ _ _ _ _ ?B ?F ?X ?N ?T _ _ ?_); (case B => assumption); (case F => assumption); (case X => assumption); (case N => assumption); (case T => assumption); (case p0 => decide +kernel); (case p1 => decide +kernel); (case p2 => exact fun h => absurd (by decide +kernel) h); (case p3 => exact .inl (by decide +kernel)); k_whole)
    intro _ _ _ _ _ _
    (try dsimp only)
    (repeat' (first | ((fail_if_success (with_reducible show wpC _ _ _ _ _ _)); first | (k_unfold; (try dsimp only)) | (k_end; kc_close) | walk1 | (dsimp only; walk1) | (leave1; walk_say "STEP leave1"; (try dsimp only)) | fail "no step")))
    (with_reducible rename Fr _ _ _ _ => FZ); (with_reducible rename News _ _ _ _ => NZ)
    exact hG _ _ _ _ _ _ FZ (cb_drop NZ (by kcj_all))
  intro h5 tk5 tp tq tr ts F6 N6
  clear F5 N5
  refine execs_stepC ?_
  have N7 : News s₁.heap (s₁.heap.objs.size) h5 ((d, listOf its n) :: N₀) := news_dup N6 hd0
  clear N6 hgood
  iterate 40 (first | (with_reducible show wpAny _ _ (call (Value.ref 140) _) _ _ _) | walk1 | (dsimp only; walk1) | skip)
  rename_i bx by_ bz bu bv bw hsub hba
  k_dflt (refine' (at1_use (reduced_law w d its n ws (by omega)) ?B ?F ?X ?N ?T ?hd ?hu) _ _ ?p0 ?p1 ?_; (case B => assumption); (case F => assumption); (case X => assumption); (case N => assumption); (case T => assumption); (case hd => decide); (case hu => decide); (case p0 => exact hsub _ (.head _)); (case p1 => exact tells4_mono (fun p hp => hsub p (.tail _ hp)) htl); k_whole)
  intro dr itr nr hr tkr newsr Fr' Nr sub2 hdr htr
  (try dsimp only)
  have hba2 : BackAt newsr _ _ := backAt_mono sub2 hba
  clear hba
  iterate 11 (first | walk1 | (dsimp only; walk1))
  (with_reducible rename Fr _ _ _ _ => FY); (with_reducible rename News _ _ _ _ => NY)
  refine newList_K FY NY ?_ (show (4 : Nat) ≤ PySem.sizeLine from by decide)
  intro ln hz FX NX lx
  clear FY NY
  iterate 2 (first | (with_reducible show wpAny _ _ (compareOp CmpOp.Eq _ _) _ _ _) | walk1 | (dsimp only; walk1) | skip)
  (with_reducible rename Fr _ _ _ _ => FZ); (with_reducible rename News _ _ _ _ => NZ)
  refine final_eq NZ (backAt_mono (fun p hp => .tail _ (.tail _ hp)) hba2) ⟨dr, _, itr, nr, 0, _, _, _, _, .head _, .tail _ (.tail _ hdr), .tail _ (.head _), tells_mono (fun p hp => .tail _ (.tail _ hp)) htr⟩ ?hu ?_
  case hu => exact (by decide : (7 : Nat) + 64 < cLine)
  clear hba2 hdr htr hsub sub2 r1 r2 r3
  refine GoodW.toG ?_
  dsimp only
  exact goodW_bool FZ hg (none_raised _) (post_true ns)
theorem law_final {v : Program} {d : DefRec} {kwd : List (PySem.Str × PySem.Expr)} (ev : v = VIEW) (e : defOf VIEW PySem.Challenge.rw_yh0012_01.row.name = some (d, kwd)) : WALK v d kwd := by
  subst ev
  exact law_walk d kwd e
end Mine
end
section
open PySem PySem.W PyProof.Rows PySem.Calls
set_option Elab.async false
set_option maxRecDepth 100000
set_option maxHeartbeats 8000000
namespace Mine
/- Names that are held: the kit's head would lay, for each constant of this text that it meets, a copy turned for speed under such a name, and with them
the compiled file would be too large by far. Where the name is taken it lays none, and reads the constant itself. -/
namespace law_holds
theorem tw6307080646655461446 : True := trivial
theorem tw13890359811184596414 : True := trivial
theorem tw4503035019201841076 : True := trivial
theorem tw1414043511812021011 : True := trivial
theorem tw14160533322030094474 : True := trivial
theorem tw447027507633508388 : True := trivial
theorem tw517122205372281323 : True := trivial
theorem tw6860709855171689206 : True := trivial
theorem tw9168033884955339765 : True := trivial
theorem tw10028117763298573888 : True := trivial
theorem tw3035144380315620824 : True := trivial
theorem tw8509993157628066667 : True := trivial
theorem tw2503670479209048990 : True := trivial
theorem tw4372868931350337143 : True := trivial
theorem tw18326849912455186884 : True := trivial
theorem tw3253568177066640346 : True := trivial
theorem tw16893121556090616931 : True := trivial
theorem tw14497384708736915567 : True := trivial
theorem tw3756308257209627903 : True := trivial
theorem tw18261290160731607033 : True := trivial
theorem tw13578211622114423496 : True := trivial
theorem tw6727219029552735585 : True := trivial
theorem tw2907507879108658156 : True := trivial
theorem tw12134408205421670959 : True := trivial
theorem tw11633083819707477107 : True := trivial
theorem tw12459966957829302596 : True := trivial
theorem tw17993387198741990920 : True := trivial
theorem tw13536078969547264968 : True := trivial
theorem tw5506821171919863439 : True := trivial
theorem tw443672432690018514 : True := trivial
theorem tw13397297893571687751 : True := trivial
theorem tw11026575858783421537 : True := trivial
theorem tw6667284449218939238 : True := trivial
theorem tw17713402740875732926 : True := trivial
theorem tw1670043908289496885 : True := trivial
theorem tw179590077315354965 : True := trivial
theorem tw6896717019858035522 : True := trivial
theorem tw15472126771306010800 : True := trivial
theorem tw15609566024721092083 : True := trivial
theorem tw12116493165278983582 : True := trivial
theorem tw3186734533307500241 : True := trivial
theorem tw1385162719727133579 : True := trivial
theorem tw14326059299131336239 : True := trivial
theorem tw16461882675039125421 : True := trivial
theorem tw11690447701083486646 : True := trivial
theorem tw15661869461025623997 : True := trivial
theorem tw12185813521663953344 : True := trivial
theorem tw4581845663705801772 : True := trivial
theorem tw9423440377400516374 : True := trivial
theorem tw5769158387606399586 : True := trivial
theorem tw7519287570265846568 : True := trivial
theorem tw6499956759230125245 : True := trivial
theorem tw15154110283740273250 : True := trivial
theorem tw14822640431511872941 : True := trivial
theorem tw13956741780833797525 : True := trivial
theorem tw3438298445031660282 : True := trivial
theorem tw14925382992726071281 : True := trivial
theorem tw1905533677188600702 : True := trivial
theorem tw11838502802998350659 : True := trivial
theorem tw16887194039231368127 : True := trivial
theorem tw6507877686720480950 : True := trivial
theorem tw4581164400922460565 : True := trivial
theorem tw4370086069003782432 : True := trivial
theorem tw16470317323979864763 : True := trivial
theorem tw1762888911704233025 : True := trivial
theorem tw6670392184156354459 : True := trivial
theorem tw2618386414584295968 : True := trivial
theorem tw9849722394096787677 : True := trivial
theorem tw4889031023730116350 : True := trivial
theorem tw1928719863018725356 : True := trivial
theorem tw6159533029260741167 : True := trivial
theorem tw10666784280354678857 : True := trivial
theorem tw3850375180904979519 : True := trivial
theorem tw9875236377963488844 : True := trivial
theorem tw10958410103948607464 : True := trivial
theorem tw2475230577751417141 : True := trivial
theorem tw11677100312832694166 : True := trivial
theorem tw545109181885906688 : True := trivial
theorem tw676263390381983339 : True := trivial
theorem tw9779807473162285230 : True := trivial
theorem tw4441770287765753910 : True := trivial
theorem tw13182730311906835528 : True := trivial
theorem tw13220211186989608806 : True := trivial
theorem tw784011647948385275 : True := trivial
theorem tw11625900857008200698 : True := trivial
theorem tw602461330855297101 : True := trivial
theorem tw4037582482628031876 : True := trivial
theorem tw926570990666696690 : True := trivial
theorem tw699380112222796084 : True := trivial
theorem tw1774162364888698292 : True := trivial
theorem tw17255088995462705879 : True := trivial
theorem tw1689763614830377041 : True := trivial
theorem tw575232530192455986 : True := trivial
theorem tw7910590604623066228 : True := trivial
theorem tw3426384778480675251 : True := trivial
theorem tw10817052189556005596 : True := trivial
theorem tw14983226153234331074 : True := trivial
theorem tw2055734563569237896 : True := trivial
theorem tw13280740594461564331 : True := trivial
theorem tw13392613628428298086 : True := trivial
theorem tw11966672015165255308 : True := trivial
theorem tw15014403891855920072 : True := trivial
theorem tw17180001009569633970 : True := trivial
theorem tw10024239376800412576 : True := trivial
theorem tw6911747868599837429 : True := trivial
theorem tw8957123355933967898 : True := trivial
theorem tw8970147916757833333 : True := trivial
theorem tw11781800970755023335 : True := trivial
theorem tw11232796583565578275 : True := trivial
theorem tw2102315897755806987 : True := trivial
theorem tw519298541982818421 : True := trivial
theorem tw16883458599210261866 : True := trivial
theorem tw12303009252429188658 : True := trivial
theorem tw14498155544194170393 : True := trivial
theorem tw17991873694480202192 : True := trivial
theorem tw12785981023593982270 : True := trivial
theorem tw8441880690091102137 : True := trivial
theorem tw12889673554181485818 : True := trivial
theorem tw16840390632989884878 : True := trivial
theorem tw12240961182476476926 : True := trivial
theorem tw2578278018795888234 : True := trivial
theorem tw10188763426450519768 : True := trivial
theorem tw14571795756577361901 : True := trivial
theorem tw9843604407834444796 : True := trivial
theorem tw14289194402921355359 : True := trivial
theorem tw1377309892636839040 : True := trivial
theorem tw4818577856007422655 : True := trivial
theorem tw16273140198857503625 : True := trivial
theorem tw12780804625047726367 : True := trivial
theorem tw18254337876149969668 : True := trivial
theorem tw10368410895845634921 : True := trivial
theorem tw653560878884961445 : True := trivial
theorem tw4916342969005030805 : True := trivial
theorem tw14988988175077273356 : True := trivial
theorem tw7425569058691365973 : True := trivial
theorem tw2143268655074302082 : True := trivial
theorem tw5112083995522966620 : True := trivial
theorem tw10242277825702978295 : True := trivial
theorem tw718173064312146323 : True := trivial
theorem tw631266038723830076 : True := trivial
theorem tw9244455487569901997 : True := trivial
theorem tw8634839017697508684 : True := trivial
theorem tw4515466672771955728 : True := trivial
theorem tw7897602043232517924 : True := trivial
theorem tw8835965917227929528 : True := trivial
theorem tw7421514118734006257 : True := trivial
theorem tw2136269947727277649 : True := trivial
theorem tw6861490101519172755 : True := trivial
theorem tw8191475993861738794 : True := trivial
theorem tw1110774673406346159 : True := trivial
theorem tw2753421514111224452 : True := trivial
theorem tw18234560199702728603 : True := trivial
theorem tw10638410367872560765 : True := trivial
theorem tw16720094985154256693 : True := trivial
theorem tw11223184984439025696 : True := trivial
theorem tw8984712037535005518 : True := trivial
theorem tw8652346329174877282 : True := trivial
theorem tw13650905803964671038 : True := trivial
theorem tw339150685990480530 : True := trivial
theorem tw2446358144275080391 : True := trivial
theorem tw11404014056486942332 : True := trivial
theorem tw7304591109411159013 : True := trivial
theorem tw14904137174637212347 : True := trivial
theorem tw2643271747718453845 : True := trivial
theorem tw5212653520564569363 : True := trivial
theorem tw9759124837219819334 : True := trivial
theorem tw4439653461905209652 : True := trivial
theorem tw123295346585929383 : True := trivial
theorem tw9207643191828677137 : True := trivial
theorem tw6709271908398517637 : True := trivial
theorem tw2043166853727251185 : True := trivial
theorem tw15191720212996534143 : True := trivial
theorem tw2644310842459337959 : True := trivial
theorem tw16674325987445784360 : True := trivial
theorem tw5640673133297012132 : True := trivial
theorem tw498061464947678834 : True := trivial
theorem tw15352839923633478061 : True := trivial
theorem tw9992725586745946429 : True := trivial
theorem tw13431030151845061361 : True := trivial
theorem tw14997073306097389879 : True := trivial
theorem tw3912811242725288453 : True := trivial
theorem tw14596297492920191028 : True := trivial
theorem tw7185456241796803578 : True := trivial
theorem tw15694993059591697976 : True := trivial
theorem tw8330938851228082562 : True := trivial
theorem tw2322801206320994539 : True := trivial
theorem tw14545874151571354728 : True := trivial
theorem tw1767730674963353768 : True := trivial
theorem tw11065903779536590938 : True := trivial
theorem tw11609493526922420660 : True := trivial
theorem tw12476058986133298565 : True := trivial
theorem tw12025285012018610282 : True := trivial
theorem tw11098625913536864229 : True := trivial
theorem tw6317479115527610633 : True := trivial
theorem tw10643469859437029617 : True := trivial
theorem tw15802469936163623734 : True := trivial
theorem tw8785698371604719795 : True := trivial
theorem tw1186782194237197914 : True := trivial
theorem tw5104574971839476226 : True := trivial
theorem tw12342728606916771844 : True := trivial
theorem tw2403936638168957523 : True := trivial
theorem tw16942220317296515565 : True := trivial
theorem tw9552830710289189752 : True := trivial
theorem tw1024454922138811184 : True := trivial
theorem tw4464252984393422682 : True := trivial
theorem tw11764581739189218997 : True := trivial
theorem tw4273555757443719353 : True := trivial
theorem tw6934448944433832347 : True := trivial
theorem tw1285599515219305098 : True := trivial
theorem tw17027635718292003107 : True := trivial
theorem tw6927793712695671261 : True := trivial
theorem tw7820799176418779761 : True := trivial
theorem tw13780023080261437657 : True := trivial
theorem tw3956099054510807996 : True := trivial
theorem tw17237755526102222789 : True := trivial
theorem tw440325148559900515 : True := trivial
theorem tw4973666742008344544 : True := trivial
theorem tw6765152471904792315 : True := trivial
theorem tw576407869801174206 : True := trivial
theorem tw13709617746848070560 : True := trivial
theorem tw7407239408455114201 : True := trivial
theorem tw15806970514647361693 : True := trivial
theorem tw16099233806120587224 : True := trivial
theorem tw12223724995276690173 : True := trivial
theorem tw18269650602155537469 : True := trivial
theorem tw9069877914133315304 : True := trivial
theorem tw8369274380968253667 : True := trivial
theorem tw302768837105346163 : True := trivial
theorem tw2295933128562542503 : True := trivial
theorem tw15544829507116839252 : True := trivial
theorem tw3158129796062787159 : True := trivial
theorem tw16614716721108272449 : True := trivial
theorem tw12115171985352901274 : True := trivial
theorem tw6276286747736392470 : True := trivial
theorem tw7019463264422422977 : True := trivial
theorem tw13882729330811710610 : True := trivial
theorem tw4030767218360268280 : True := trivial
theorem tw11347954631545130290 : True := trivial
theorem tw14390095281932903014 : True := trivial
theorem tw2387193687640843687 : True := trivial
theorem tw4554334282939048891 : True := trivial
theorem tw6723812968561706957 : True := trivial
theorem tw9086603574393679603 : True := trivial
end law_holds
set_option Elab.async true in
theorem law_holds : PySem.Challenge.rw_yh0012_01.Holds := by
  w_on
  o_law
  o_head KHOOK
  case hw => w_witness2
  exact law_final (by kernel_rfl) (by kernel_rfl)
end Mine
end
end
theorem PySem.Challenge.cw_yh0012_01_holds : PySem.Challenge.rw_yh0012_01.Holds :=
  Mine.law_holds
